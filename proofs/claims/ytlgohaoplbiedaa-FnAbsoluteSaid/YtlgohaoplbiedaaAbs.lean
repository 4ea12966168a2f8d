/-
  WALKS: absDomainName, Absolute, the law FnAbsolute.
-/
import Derived.Test.YtlgohaoplbiedaaIdx
namespace Go.Proofs.Ytlgohaoplbiedaa
open Go.RowKit

set_option maxHeartbeats 400000 in
theorem abs_any (s : ByteArray) (w : World) (hs : s.size ≤ 17592186044416) :
    Calls Try.prog 52 #[.string s] w fun e w' => e = .returned (.string ⟨(pl.absN s.data.toList).toArray⟩) ∧ w = w' := by
  have hi := pl.idx_ne s.data.toList 46 46 rfl
  rcases hh : pl.has s.data.toList [46] with _ | _
  · rw [hh] at hi
    have E := Lib.hid (pl.absN_no _ hh)
    clear hh
    go_enter Try.func52, Try.ntmps52
    go_wp2_with (go_at_call 53; refine (idx_any _ _ _ (by unfold maxLen; omega)).mono ?_; rintro e w' ⟨rfl, rfl⟩)
    go_ret
    exact ⟨ret_str (pl.ba_ext (by rw [E.out])), rfl⟩
  · rw [hh] at hi
    have h1 := pl.has_size s 46 hh
    rcases hl : ((s[s.size - 1].toNat : Int) != 46) with _ | _
    · have E := Lib.hid (pl.absN_dot s h1 hl)
      clear hh
      go_enter Try.func52, Try.ntmps52
      go_wp2_with (go_at_call 53; refine (idx_any _ _ _ (by unfold maxLen; omega)).mono ?_; rintro e w' ⟨rfl, rfl⟩)
      go_ret
      exact ⟨ret_str (pl.ba_ext (by rw [E.out])), rfl⟩
    · have E := Lib.hid (pl.absN_yes s h1 hh hl)
      clear hh
      go_enter Try.func52, Try.ntmps52
      go_wp2_with (go_at_call 53; refine (idx_any _ _ _ (by unfold maxLen; omega)).mono ?_; rintro e w' ⟨rfl, rfl⟩)
      go_ret
      exact ⟨ret_str (pl.ba_ext (by rw [E.out]; simp [ByteArray.data_append])), rfl⟩

set_option maxHeartbeats 400000 in
theorem abs_sp (s : ByteArray) (w : World) (hs : s.size ≤ 17592186044416) :
    Calls Try.prog 16 #[.string s] w fun e w' => e = .returned (.string ⟨(pl.absN s.data.toList).toArray⟩) ∧ ∃ n, w' = w.drewN n := by
  rcases hh : pl.has s.data.toList [46] with _ | _
  · have E := Lib.hid (pl.absN_no _ hh)
    go_enter Try.func16, Try.ntmps16
    go_wp2_with (go_at_call 24; refine (has_any _ _ _ hs (by simp [ByteArray.size])).mono ?_; rintro e w' ⟨rfl, n, rfl⟩)
    go_ret
    exact ⟨ret_str (pl.ba_ext (by rw [E.out])), _, rfl⟩
  · have h1 := pl.has_size s 46 hh
    rcases hl : ((s[s.size - 1].toNat : Int) != 46) with _ | _
    · have E := Lib.hid (pl.absN_dot s h1 hl)
      go_enter Try.func16, Try.ntmps16
      go_wp2_with (go_at_call 24; refine (has_any _ _ _ hs (by simp [ByteArray.size])).mono ?_; rintro e w' ⟨rfl, n, rfl⟩)
      go_ret
      exact ⟨ret_str (pl.ba_ext (by rw [E.out])), _, rfl⟩
    · have E := Lib.hid (pl.absN_yes s h1 hh hl)
      go_enter Try.func16, Try.ntmps16
      go_wp2_with (go_at_call 24; refine (has_any _ _ _ hs (by simp [ByteArray.size])).mono ?_; rintro e w' ⟨rfl, n, rfl⟩)
      go_ret
      exact ⟨ret_str (pl.ba_ext (by rw [E.out]; simp [ByteArray.data_append])), _, rfl⟩

theorem abs_pub (s : ByteArray) (w : World) (hs : s.size ≤ 17592186044416) :
    Calls Try.prog 15 #[.string s] w fun e w' => e = .returned (.string ⟨(pl.absN s.data.toList).toArray⟩) ∧ w = w' := by
  go_enter Try.func15, Try.ntmps15
  go_wp2_with (first | (go_at_call 52; refine (abs_any _ _ hs).mono ?_; rintro e w' ⟨rfl, rfl⟩) | (go_at_call 38; go_in))
  go_ret
  exact ⟨rfl, rfl⟩

theorem walk_FnAbsolute (a0 : ByteArray) (w : World) (_ : a0.size ≤ maxLen) :
    Calls Try.prog 3 #[.string a0] w fun e w' => e = .returned (.bool true) ∧ Below w.heap.size w w' := by
  have hc : pl.absN [97, 46, 98] = [97, 46, 98, 46] := by decide
  go_enter Try.func3, Try.ntmps3
  go_wp2_with (first | (go_at_call 15; refine (abs_pub _ _ (by first | omega | simp [ByteArray.size])).mono ?_; rintro e w' ⟨rfl, rfl⟩) | (go_at_call 16; refine (abs_sp _ _ (by omega)).mono ?_; rintro e w' ⟨rfl, n, rfl⟩))
  all_goals go_ret
  all_goals exact ⟨rfl, by first | exact Below.refl _ _ | exact below_drewN (Below.refl _ _) _⟩

end Go.Proofs.Ytlgohaoplbiedaa
