/-
  WALK: the law FnName.
-/
import Derived.Test.YtlgohaoplbiedaaDom
import Derived.Test.YtlgohaoplbiedaaName
import Derived.Test.YtlgohaoplbiedaaPlDomLaw
namespace Go.Proofs.Ytlgohaoplbiedaa
open Go.RowKit

theorem dom_impl (s : ByteArray) (w : World) (hs : s.size ≤ 17592186044416) :
    Calls Try.prog 20 #[.string s] w fun e w' => e = .returned (.bool (pl.domB s.data.toList)) ∧ w = w' := by
  go_enter Try.func20, Try.ntmps20
  go_wp2_with (first | (go_at_call 54; refine (dom_any _ _ hs).mono ?_; rintro e w' ⟨rfl, rfl⟩) | (go_at_call 42; go_in))
  go_ret
  exact ⟨rfl, rfl⟩

set_option maxHeartbeats 400000 in
theorem walk_FnName (a0 : ByteArray) (w : World) (_ : a0.size ≤ maxLen) :
    Calls Try.prog 5 #[.string a0] w fun e w' => e = .returned (.bool true) ∧ Below w.heap.size w w' := by
  have hc : pl.domB [97, 46, 98] = true := by decide
  rcases hsa : pl.saN a0.data.toList with _ | _
  · go_enter Try.func5, Try.ntmps5
    go_wp2_with (go_at_call 19; go_must (refine (isName_sp _ _ (by omega)).mono ?_); rintro e w' ⟨rfl, hb⟩)
    all_goals go_ret
    all_goals exact ⟨rfl, by first | exact Below.refl _ _ | assumption⟩
  · have hd := pl.dom_law _ hsa
    go_enter Try.func5, Try.ntmps5
    go_wp2_with (first | (go_at_call 19; go_must (refine (isName_sp _ _ (by omega)).mono ?_); rintro e w' ⟨rfl, hb⟩) | (go_at_call 20; refine (dom_impl _ _ (by first | omega | simp [ByteArray.size])).mono ?_; rintro e w' ⟨rfl, rfl⟩))
    all_goals go_ret
    all_goals exact ⟨rfl, by first | exact Below.refl _ _ | assumption⟩

end Go.Proofs.Ytlgohaoplbiedaa
