/-
  WALKS: Words of the reference; the statements' same.
-/
import Derived.Test.YtlgohaoplbiedaaIdx
import Derived.Test.YtlgohaoplbiedaaMem
import Derived.Test.YtlgohaoplbiedaaPlWords
import Derived.Test.YtlgohaoplbiedaaHost2
namespace Go.Proofs.Ytlgohaoplbiedaa
open Go.RowKit

theorem has_val' (s t : ByteArray) (b : Bool) (w : World) (hs : s.size ≤ 17592186044416) (ht : t.size ≤ 17592186044416) (h : pl.has s.data.toList t.data.toList = b) :
    Calls Try.prog 24 #[.string s, .string t] w fun e w' => e = .returned (.bool b) ∧ ∃ n, w' = w.drewN n := by
  rw [← h]; exact has_any s t w hs ht

theorem Strs.drewN {w : World} {B : Nat} {v : Value} {l : List (List UInt8)} (h : Strs w B v l) (n : Nat) : Strs (w.drewN n) B v l := h.below (below_drewN (Below.refl _ _) _)

set_option maxHeartbeats 1000000 in
theorem words_sp (s : ByteArray) (w : World) (hs : s.size ≤ 4398046511104) :
    Calls Try.prog 32 #[.string s] w fun e w' => ∃ v, e = .returned v ∧ Strs w' w.heap.size v (pl.words pl.ws s.data.toList) ∧ Below w.heap.size w w' := by
  have hl : s.data.toList.length = s.size := by simp
  go_enter Try.func32, Try.ntmps32
  go_wp2_with fail
  go_loopw [3, 4, 9] (fun v f i wr => ∃ k fr : Nat, k ≤ s.size + 1 ∧ i = .int .i64 k ∧ f = .int .i64 fr ∧ Below w.heap.size w wr ∧
      ((k ≤ s.size ∧ fr ≤ k ∧ Strs wr w.heap.size v (pl.runW pl.ws (s.data.toList.take k)).1 ∧ Hid ((pl.runW pl.ws (s.data.toList.take k)).2 = (s.data.toList.take k).drop fr)) ∨
       (k = s.size + 1 ∧ Strs wr w.heap.size v (pl.words pl.ws s.data.toList)))) (fun _ _ i _ => s.size + 1 - (intOf i).toNat)
  case atStart => exact ⟨0, 0, Nat.zero_le _, rfl, rfl, Below.refl _ _, Or.inl ⟨Nat.zero_le _, Nat.le_refl _, Strs.nil _ _, Lib.hid rfl⟩⟩
  case round =>
    obtain ⟨k, fr, hk, rfl, rfl, hb, hcase⟩ := hrel
    rcases hcase with ⟨hk2, hf, hown, HC⟩ | ⟨hke, hown⟩
    · have hle := pl.runW_len pl.ws (s.data.toList.take k)
      have hll : (s.data.toList.take k).length ≤ k := List.length_take_le _ _
      by_cases hlt : k < s.size
      · have HS := pl.runW_succ pl.ws s k hlt
        have hxs : (s.extract k (k + 1)).size ≤ 17592186044416 := by simp; omega
        have HH := Lib.hid (pl.ws_has s k hlt)
        rcases hw : pl.ws s[k] with _ | _
        · rw [hw] at HH
          rw [pl.stepW, if_neg (by rw [hw]; simp), HC.out] at HS
          have HS2 := Lib.hid HS
          clear HS hw
          go_wp2_with (go_at_call 24; go_must (refine (has_val' _ _ _ _ hxs (by simp [ByteArray.size]) HH.out).mono ?_); rintro e w' ⟨rfl, n, rfl⟩)
          go_roundw
          case rel => exact ⟨k + 1, fr, by omega, by go_num, rfl, below_drewN hb _, Or.inl ⟨by omega, by omega, by rw [HS2.out]; exact hown.drewN _, Lib.hid (by rw [HS2.out, pl.take_drop_succ s fr k hf hlt])⟩⟩
          case measure => simp [intOf]; omega
        · rw [hw] at HH
          rw [pl.stepW, if_pos hw, HC.out] at HS
          clear hw
          by_cases hfk : fr = k
          · rw [if_pos ((pl.cut_nil s fr k hf hk2).2 hfk)] at HS
            have HS2 := Lib.hid HS
            have hnn : ¬ (fr : Int) < (k : Int) := by omega
            clear HS
            go_wp2_with (go_at_call 24; go_must (refine (has_val' _ _ _ _ hxs (by simp [ByteArray.size]) HH.out).mono ?_); rintro e w' ⟨rfl, n, rfl⟩)
            go_roundw
            case rel => exact ⟨k + 1, k + 1, by omega, by go_num, by go_num, below_drewN hb _, Or.inl ⟨by omega, Nat.le_refl _, by rw [HS2.out]; exact hown.drewN _, Lib.hid (by rw [HS2.out]; simp)⟩⟩
            case measure => simp [intOf]; omega
          · rw [if_neg (fun h => hfk ((pl.cut_nil s fr k hf hk2).1 h))] at HS
            have HS2 := Lib.hid HS
            have hnn : (fr : Int) < (k : Int) := by omega
            clear HS
            go_wp2_with (first | (go_at_call 24; go_must (refine (has_val' _ _ _ _ hxs (by simp [ByteArray.size]) HH.out).mono ?_); rintro e w' ⟨rfl, n, rfl⟩) | (at_builtin; refine app_str (w := w) ((s.data.toList.take k).drop fr) rfl _ _ rfl rfl w.heap.size (hown.drewN _) rfl (pl.extract_strV ..) (by omega) (below_drewN hb _) (Nat.le_refl _) ?_))
            intro v' w' hown' hb' _
            clear hown hb
            go_wp2
            go_roundw
            case rel => exact ⟨k + 1, k + 1, by omega, by go_num, by go_num, hb', Or.inl ⟨by omega, Nat.le_refl _, by rw [HS2.out]; exact hown', Lib.hid (by rw [HS2.out]; simp)⟩⟩
            case measure => simp [intOf]; omega
      · have hke : k = s.size := by omega
        have hnlt : ¬ (k : Int) < (s.size : Int) := by omega
        have hW : pl.words pl.ws s.data.toList = pl.flush (pl.runW pl.ws (s.data.toList.take k)) := by rw [pl.take_all s k (by omega)]; rfl
        unfold pl.flush at hW
        rw [HC.out] at hW
        by_cases hfk : fr = k
        · rw [if_pos ((pl.cut_nil s fr k hf hk2).2 hfk)] at hW
          have HW := Lib.hid hW
          have hnn : ¬ (fr : Int) < (k : Int) := by omega
          have HKE := Lib.hid hke
          clear hW hke
          go_wp2_with fail
          go_roundw
          case rel => exact ⟨k + 1, k + 1, by omega, by go_num, by go_num, hb, Or.inr ⟨by rw [HKE.out], by rw [HW.out]; exact hown⟩⟩
          case measure => simp [intOf]; omega
        · rw [if_neg (fun h => hfk ((pl.cut_nil s fr k hf hk2).1 h))] at hW
          have HW := Lib.hid hW
          have hnn : (fr : Int) < (k : Int) := by omega
          have HKE := Lib.hid hke
          clear hW hke
          go_wp2_with (at_builtin; refine app_str (w := w) ((s.data.toList.take k).drop fr) rfl _ _ rfl rfl w.heap.size hown rfl (pl.extract_strV ..) (by omega) hb (Nat.le_refl _) ?_)
          intro v' w' hown' hb' _
          clear hown hb
          go_wp2
          go_roundw
          case rel => exact ⟨k + 1, k + 1, by omega, by go_num, by go_num, hb', Or.inr ⟨by rw [HKE.out], by rw [HW.out]; exact hown'⟩⟩
          case measure => simp [intOf]; omega
    · have hnlt : ¬ (k : Int) < (s.size : Int) + 1 := by omega
      go_wp2_with fail
      go_ret
      exact ⟨_, rfl, hown, hb⟩

end Go.Proofs.Ytlgohaoplbiedaa
