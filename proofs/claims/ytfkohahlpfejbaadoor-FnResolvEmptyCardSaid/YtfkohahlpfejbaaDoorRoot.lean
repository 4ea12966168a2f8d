/-
  WALKS: ensureRooted, Rooted, dnsDefaultSearch.
-/
import Derived.Test.YtfkohahlpfejbaaDoorPlRes
import Derived.Test.YtfkohahlpfejbaaDoorFields
namespace Go.Proofs.YtfkohahlpfejbaaDoor
open Go.RowKit

set_option maxHeartbeats 400000 in
theorem root_any (s : ByteArray) (w : World) (hs : s.size ≤ 17592186044416) :
    Calls Tryd.prog 89 #[.string s] w fun e w' => e = .returned (.string ⟨(pl.rooted s.data.toList).toArray⟩) ∧ w = w' := by
  by_cases h0 : s.size = 0
  · rw [pl.rooted_nil s h0]
    go_enter Tryd.func89, Tryd.ntmps89
    go_wp2_with fail
    go_ret
    exact ⟨rfl, rfl⟩
  · have h1 : 1 ≤ s.size := by omega
    rcases hl : ((s[s.size - 1].toNat : Int) == 46) with _ | _
    · rw [pl.rooted_no s h1 hl]
      have h0' : 0 < s.size := by omega
      clear h0
      go_enter Tryd.func89, Tryd.ntmps89
      go_wp2_with fail
      go_ret
      exact ⟨rfl, rfl⟩
    · rw [pl.rooted_yes s h1 hl]
      have h0' : 0 < s.size := by omega
      clear h0
      go_enter Tryd.func89, Tryd.ntmps89
      go_wp2_with fail
      go_ret
      exact ⟨rfl, rfl⟩

set_option maxHeartbeats 400000 in
theorem root_sp (s : ByteArray) (w : World) (hs : s.size ≤ 17592186044416) :
    Calls Tryd.prog 51 #[.string s] w fun e w' => e = .returned (.string ⟨(pl.rooted s.data.toList).toArray⟩) ∧ w = w' := by
  by_cases h0 : s.size = 0
  · have he := pl.emp_of s h0
    rw [pl.rooted_nil s h0]
    go_enter Tryd.func51, Tryd.ntmps51
    go_wp2_with fail
    go_ret
    exact ⟨rfl, rfl⟩
  · have h1 : 1 ≤ s.size := by omega
    have he := pl.ne_empty s h0
    rcases hl : ((s[s.size - 1].toNat : Int) == 46) with _ | _
    · rw [pl.rooted_no s h1 hl]
      have h0' : 0 < s.size := by omega
      clear h0
      go_enter Tryd.func51, Tryd.ntmps51
      go_wp2_with fail
      go_ret
      exact ⟨rfl, rfl⟩
    · rw [pl.rooted_yes s h1 hl]
      have h0' : 0 < s.size := by omega
      clear h0
      go_enter Tryd.func51, Tryd.ntmps51
      go_wp2_with fail
      go_ret
      exact ⟨rfl, rfl⟩

theorem strs_one (wr : World) (B : Nat) (p : List UInt8) (hB : B ≤ wr.heap.size) : Strs (wr.alloc (.cells #[pl.strV p] 9)) B (.slice (some ⟨wr.heap.size, 0, none⟩) 1 1) [p] :=
  by
  have h : StrBlk (wr.alloc (.cells #[pl.strV p] 9)) wr.heap.size 1 [p] := ⟨#[pl.strV p], by show (wr.heap.push _)[wr.heap.size]? = _; simp, rfl, rfl⟩
  exact h.strs B hB (by unfold maxLen; omega) (by simp)

set_option maxHeartbeats 1000000 in
theorem dds_any (s : ByteArray) (w : World) (hs : s.size ≤ 17592186044416) :
    Calls Tryd.prog 92 #[.string s] w fun e w' => ∃ v, e = .returned v ∧ Strs w' w.heap.size v (pl.defS s.data.toList) ∧ Below w.heap.size w w' := by
  have hl : s.data.toList.length = s.size := by simp
  by_cases h0 : pl.idx s.data.toList 46 < 0
  · have E := Lib.hid (pl.defS_neg _ h0)
    go_enter Tryd.func92, Tryd.ntmps92
    go_wp2_with (go_at_call 82; refine (idx_any _ _ _ (by unfold maxLen; omega)).mono ?_; rintro e w' ⟨rfl, rfl⟩)
    go_ret
    exact ⟨_, rfl, by rw [E.out]; exact Strs.nil _ _, Below.refl _ _⟩
  · obtain ⟨k, hk⟩ : ∃ k : Nat, pl.idx s.data.toList 46 = k := ⟨(pl.idx s.data.toList 46).toNat, by omega⟩
    by_cases h1 : (s.size : Int) - 1 ≤ k
    · have E := Lib.hid (pl.defS_end s.data.toList (by omega) (by rw [hl]; omega))
      have HK := Lib.hid hk
      clear hl hk h0
      go_enter Tryd.func92, Tryd.ntmps92
      go_wp2_with (go_at_call 82; refine (idx_val' s 46 k _ HK.out hs).mono ?_; rintro e w' ⟨rfl, rfl⟩)
      go_ret
      exact ⟨_, rfl, by rw [E.out]; exact Strs.nil _ _, Below.refl _ _⟩
    · have E := Lib.hid (pl.defS_mid s.data.toList (by omega) (by rw [hl]; omega))
      have HK := Lib.hid hk
      have hkl : k + 1 < s.size := by omega
      clear hl hk h0
      go_enter Tryd.func92, Tryd.ntmps92
      go_wp2_with (first | (go_at_call 82; refine (idx_val' s 46 k _ HK.out hs).mono ?_; rintro e w' ⟨rfl, rfl⟩) | (go_at_call 89; refine (root_any _ _ (by simp; omega)).mono ?_; rintro e w' ⟨rfl, rfl⟩))
      go_ret
      have hd : List.take (s.size - (k + 1)) (List.drop (k + 1) s.data.toList) = s.data.toList.drop (pl.idx s.data.toList 46 + 1).toNat := by
        rw [HK.out, show ((k : Int) + 1).toNat = k + 1 by omega]
        exact List.take_of_length_le (by simp)
      rw [E.out, ← hd]
      exact ⟨_, rfl, strs_one w _ _ (Nat.le_refl _), (Below.refl _ _).alloc (Nat.le_refl _) _⟩

end Go.Proofs.YtfkohahlpfejbaaDoor
