/-
  WALK: the suffixes of an empty configuration.
-/
import Derived.Test.YtfkohahlpfejbaaDoorRoot
import Derived.Test.YtfkohahlpfejbaaDoorSplitLaws
import Derived.Test.YtfkohahlpfejbaaDoorBlk
namespace Go.Proofs.YtfkohahlpfejbaaDoor
open Go.RowKit

set_option maxRecDepth 100000 in
set_option maxHeartbeats 2000000 in
theorem sfx_empty (hn : ByteArray) (w : World) (hs : hn.size ≤ 17592186044416) :
    Calls Tryd.prog 24 #[.agg #[.slice none 0 0, .slice none 0 0, .slice none 0 0], .string hn] w fun e w' => ∃ v, e = .returned v ∧ Strs w' w.heap.size v (pl.defS hn.data.toList) ∧ Below w.heap.size w w' := by
  have hz := pl.cutS_size hn.data.toList 46
  have hl : hn.data.toList.length = hn.size := by simp
  obtain ⟨A, hA⟩ : ∃ A : ByteArray, A.data.toList = (pl.cutS hn.data.toList 46).1 := ⟨⟨(pl.cutS hn.data.toList 46).1.toArray⟩, rfl⟩
  obtain ⟨B, hB⟩ : ∃ B : ByteArray, B.data.toList = (pl.cutS hn.data.toList 46).2.1 := ⟨⟨(pl.cutS hn.data.toList 46).2.1.toArray⟩, rfl⟩
  obtain ⟨b, hb⟩ : ∃ b, (pl.cutS hn.data.toList 46).2.2 = b := ⟨_, rfl⟩
  have hcut : pl.cutS hn.data.toList 46 = (A.data.toList, B.data.toList, b) := by rw [hA, hB, ← hb]
  have hBs : B.size ≤ 17592186044416 := by
    have : B.data.toList.length = B.size := by simp
    rw [hB] at this
    omega
  have hno : b = false → B.size = 0 := by
    intro e
    rw [e] at hb
    have : B.data.toList.length = B.size := by simp
    rw [hB] at this
    rw [← this]
    unfold pl.cutS at hb ⊢
    split
    · rfl
    · rename_i h; rw [if_neg h] at hb; cases hb
  have hdef : pl.defS hn.data.toList = if B.data.toList = [] then [] else [pl.rooted B.data.toList] := by rw [pl.defS, hB]
  have HC := Lib.hid hcut
  clear hA hB hb hcut hz hl
  by_cases h0 : B.size = 0
  · rw [hdef, if_pos (pl.nil_of B h0)]
    have he := pl.emp_of B h0
    clear hdef hno h0
    go_enter Tryd.func24, Tryd.ntmps24
    go_wp2_with fail
    have hB0 := Blk.new w #[.slice none 0 0, .slice none 0 0, .slice none 0 0] 45
    have hb0 := (Below.refl w.heap.size w).alloc (Nat.le_refl _) (.cells #[.slice none 0 0, .slice none 0 0, .slice none 0 0] 45)
    generalize w.alloc (.cells #[.slice none 0 0, .slice none 0 0, .slice none 0 0] 45) = W at hB0 hb0 ⊢
    go_loopw [5, 14] (fun o i wr => o = .slice none 0 0 ∧ i = .int .i64 0 ∧ wr = W) (fun _ _ _ => 0)
    case atStart => exact ⟨rfl, rfl, rfl⟩
    case round =>
      obtain ⟨rfl, rfl, rfl⟩ := hrel
      have z1 : ∀ n, (wr.drewN n).cell? ⟨w.heap.size, 1, none⟩ = some (.slice none 0 0) := fun n => hB0.cell 1
      rcases b with _ | _
      all_goals
        go_wp2_with (first | (go_at_call 52; refine (cut_val hn A B 46 _ _ hs HC.out).mono ?_; rintro e w' ⟨rfl, n, rfl⟩; have z1' := z1 n))
        go_ret
        exact ⟨_, rfl, Strs.nil _ _, below_drewN hb0 _⟩
  · have hbt : b = true := by
      rcases b with _ | _
      · exact absurd (hno rfl) h0
      · rfl
    subst hbt
    rw [hdef, if_neg (pl.data_ne B h0)]
    have he := pl.ne_empty B h0
    clear hdef hno h0
    go_enter Tryd.func24, Tryd.ntmps24
    go_wp2_with fail
    have hB0 := Blk.new w #[.slice none 0 0, .slice none 0 0, .slice none 0 0] 45
    have hb0 := (Below.refl w.heap.size w).alloc (Nat.le_refl _) (.cells #[.slice none 0 0, .slice none 0 0, .slice none 0 0] 45)
    generalize w.alloc (.cells #[.slice none 0 0, .slice none 0 0, .slice none 0 0] 45) = W at hB0 hb0 ⊢
    go_loopw [5, 14] (fun o i wr => o = .slice none 0 0 ∧ i = .int .i64 0 ∧ wr = W) (fun _ _ _ => 0)
    case atStart => exact ⟨rfl, rfl, rfl⟩
    case round =>
      obtain ⟨rfl, rfl, rfl⟩ := hrel
      have z1 : ∀ n, (wr.drewN n).cell? ⟨w.heap.size, 1, none⟩ = some (.slice none 0 0) := fun n => hB0.cell 1
      have hsz := hb0.size
      go_wp2_with (first
        | (go_at_call 52; refine (cut_val hn A B 46 _ _ hs HC.out).mono ?_; rintro e w' ⟨rfl, n, rfl⟩; have z1' := z1 n)
        | (go_at_call 51; refine (root_sp B _ hBs).mono ?_; rintro e w' ⟨rfl, rfl⟩)
        | (at_builtin; refine app_str (w := w) (pl.rooted B.data.toList) rfl _ _ rfl rfl w.heap.size (Strs.nil _ _) rfl rfl (by simp) (below_drewN hb0 n) (Nat.le_refl _) ?_; intro v' w' hS hb' _))
      go_ret
      exact ⟨_, rfl, hS, hb'⟩

end Go.Proofs.YtfkohahlpfejbaaDoor
