/-
  ARGUMENTS OPENED: the walk of FnStandard.
-/
import Derived.Test.YtabeklpllphiaaaNsM
import Derived.Test.YtabeklpllphiaaaOpenN
namespace Go.Proofs.Ytabeklpllphiaaa
open Go.RowKit

theorem walk_FnStandard (db : ByteArray) (v : Value) (s : Src) (W : World) (_ : db.size ≤ maxLen) (hv : RdS1 W v s) :
    Calls Try.prog 7 #[.string db, v] W fun e W' => e = .returned (.bool true) ∧ Below W.heap.size W W' := by
  obtain ⟨nm, cs⟩ := s
  obtain ⟨vn, rfl, hr⟩ := hv
  exact std_law vn db.data.toList nm cs W hr

end Go.Proofs.Ytabeklpllphiaaa
