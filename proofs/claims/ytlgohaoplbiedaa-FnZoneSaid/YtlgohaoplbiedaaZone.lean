/-
  WALKS: the laws FnZone, FnNoZone.
-/
import Derived.Test.YtlgohaoplbiedaaHost2
import Derived.Test.YtlgohaoplbiedaaPlHostLaw
namespace Go.Proofs.Ytlgohaoplbiedaa
open Go.RowKit

set_option maxHeartbeats 400000 in
theorem walk_FnNoZone (a0 : ByteArray) (w : World) (_ : a0.size ≤ maxLen) :
    Calls Try.prog 8 #[.string a0] w fun e w' => e = .returned (.bool true) ∧ Below w.heap.size w w' := by
  by_cases hbig : a0.size ≤ 2147483647
  · rcases hh : pl.has a0.data.toList [37] with _ | _
    · have hz : pl.splitHZ a0.data.toList = (a0.data.toList, []) := by
        have h1 : (37 : UInt8) ∉ a0.data.toList := fun h => by rw [(pl.has_one _ _).2 h] at hh; cases hh
        have h2 := (pl.lidx_neg a0.data.toList 37).2 h1
        unfold pl.splitHZ
        rw [if_neg]
        have : ((37 : UInt8).toNat : Int) = 37 := rfl
        rw [this] at h2
        omega
      go_enter Try.func8, Try.ntmps8
      go_wp2_with (first | (go_at_call 25; refine (zone_impl _ _ (by omega)).mono ?_; rintro e w' ⟨rfl, n, rfl⟩) | (go_at_call 24; refine (has_any _ _ _ (by omega) (by simp [ByteArray.size])).mono ?_; rintro e w' ⟨rfl, n, rfl⟩) | (go_at_call 23; refine (works_any _).mono ?_; rintro e w' ⟨rfl, hb⟩))
      go_ret
      exact ⟨rfl, bel_d hb⟩
    · go_enter Try.func8, Try.ntmps8
      go_wp2_with (first | (go_at_call 25; refine (zone_impl _ _ (by omega)).mono ?_; rintro e w' ⟨rfl, n, rfl⟩) | (go_at_call 24; refine (has_any _ _ _ (by omega) (by simp [ByteArray.size])).mono ?_; rintro e w' ⟨rfl, n, rfl⟩) | (go_at_call 23; refine (works_any _).mono ?_; rintro e w' ⟨rfl, hb⟩))
      all_goals go_ret
      all_goals exact ⟨rfl, by repeat (first | exact Below.refl _ _ | apply below_drewN)⟩
  · go_enter Try.func8, Try.ntmps8
    go_wp2_with fail
    go_ret
    exact ⟨rfl, Below.refl _ _⟩

set_option maxHeartbeats 400000 in
theorem walk_FnZone (a0 a1 : ByteArray) (w : World) (_ : a0.size ≤ maxLen) (_ : a1.size ≤ maxLen) :
    Calls Try.prog 9 #[.string a0, .string a1] w fun e w' => e = .returned (.bool true) ∧ Below w.heap.size w w' := by
  by_cases hbig : a0.size ≤ 2147483647 ∧ a1.size ≤ 2147483647
  · obtain ⟨hb0, hb1⟩ := hbig
    rcases hh : pl.has a1.data.toList [37] with _ | _
    · by_cases h0 : a0.size = 0
      · have e0 : a0 = ByteArray.empty := pl.ba_ext (by
          have h1 : a0.data.toList.length = a0.size := by simp
          rw [List.eq_nil_of_length_eq_zero (by omega : a0.data.toList.length = 0)]; rfl)
        subst e0
        go_enter Try.func9, Try.ntmps9
        go_wp2_with (first | (go_at_call 24; refine (has_any _ _ _ (by omega) (by simp [ByteArray.size])).mono ?_; rintro e w' ⟨rfl, n, rfl⟩) | (go_at_call 23; refine (works_any _).mono ?_; rintro e w' ⟨rfl, hb⟩))
        all_goals go_ret
        all_goals exact ⟨rfl, bel_d hb⟩
      · have hz : pl.splitHZ (a0.data.toList ++ [37] ++ a1.data.toList) = (a0.data.toList, a1.data.toList) := by
          have h1 : (37 : UInt8) ∉ a1.data.toList := fun h => by rw [(pl.has_one _ _).2 h] at hh; cases hh
          exact pl.zone_law _ _ (pl.data_ne a0 h0) h1
        have HZ : pl.splitHZ (a0 ++ ⟨#[37]⟩ ++ a1).data.toList = (a0.data.toList, a1.data.toList) := by
          rw [← hz]; simp [ByteArray.data_append]
        obtain ⟨A, hA⟩ : ∃ A, a0 ++ ⟨#[37]⟩ ++ a1 = A := ⟨_, rfl⟩
        have hAs : A.size ≤ 17592186044416 := by rw [← hA]; simp [ByteArray.size_append, pl.size_mk]; omega
        rw [hA] at HZ
        have hne := pl.ne_empty a0 h0
        clear hz h0
        go_enter Try.func9, Try.ntmps9
        go_wp2_with (first | (go_at_call 24; refine (has_any _ _ _ (by omega) (by simp [ByteArray.size])).mono ?_; rintro e w' ⟨rfl, n, rfl⟩) | (go_at_call 25; go_must (refine (zone_impl _ _ hAs).mono ?_); rintro e w' ⟨rfl, n, rfl⟩))
        all_goals go_ret
        all_goals exact ⟨rfl, by repeat (first | exact Below.refl _ _ | apply below_drewN)⟩
    · go_enter Try.func9, Try.ntmps9
      go_wp2_with (first | (go_at_call 24; refine (has_any _ _ _ (by omega) (by simp [ByteArray.size])).mono ?_; rintro e w' ⟨rfl, n, rfl⟩) | (go_at_call 23; refine (works_any _).mono ?_; rintro e w' ⟨rfl, hb⟩))
      all_goals go_ret
      all_goals exact ⟨rfl, bel_d hb⟩
  · go_enter Try.func9, Try.ntmps9
    go_wp2_with fail
    all_goals go_ret
    all_goals exact ⟨rfl, Below.refl _ _⟩

end Go.Proofs.Ytlgohaoplbiedaa
