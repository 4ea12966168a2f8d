/-
  ARGUMENTS OPENED: the walk of FnSearchLast.
-/
import Derived.Test.YtfkohahlpfejbaaDoorSl3
import Derived.Test.YtfkohahlpfejbaaDoorOpenC
namespace Go.Proofs.YtfkohahlpfejbaaDoor
open Go.ChangeShapes Go.WideShapes Go.Deep Go.RowKit

theorem walk_FnSearchLast (v : Value) (c : Cnf) (v2 : Value) (c2 : Cnf) (apart : Bool) (W : World) (hv : RdC W v c) (hv2 : RdC W v2 c2) (hL : laidMetH Tryd.prog Rows.fnSearchLastRow.laid W) :
    Calls Tryd.prog 12 #[v, v2, .bool apart] W fun e W' => e = .returned (.bool true) ∧ Below W.heap.size W W' := by
  rw [MakeChecks.laidMetH_plain _ _ _ (by kernel_rfl)] at hL
  obtain ⟨g4, o4, g6, o6, hI⟩ := ip_of_laid hL
  obtain ⟨sv, se, op⟩ := c
  obtain ⟨sv2, se2, op2⟩ := c2
  obtain ⟨vs, vq, vo, rfl, h0, h1, h2⟩ := hv
  obtain ⟨us, uq, uo, rfl, k0, k1, k2⟩ := hv2
  exact sl_law g4 o4 g6 o6 vs vq vo us uq uo sv se sv2 se2 op op2 apart W h0 h1 h2 k0 k1 k2 hI

end Go.Proofs.YtfkohahlpfejbaaDoor
