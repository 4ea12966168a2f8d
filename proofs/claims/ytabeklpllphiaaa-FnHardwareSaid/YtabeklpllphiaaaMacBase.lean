/-
  WALK: ParseMAC: what it returns.
-/
import Derived.Test.YtabeklpllphiaaaMac
import Derived.Test.YtabeklpllphiaaaPlMac3
import Derived.Deep.RegionWith
import Derived.ScopeJumps
import Derived.IntWalk
import Derived.WalkMore
namespace Go.Proofs.Ytabeklpllphiaaa
open Go.RowKit

def MacRes (w w' : World) (e : Ending) (r : Option (List UInt8)) : Prop :=
  Below w.heap.size w w' ∧ match r with
    | none => ∃ t ad, e = .returned (.tuple #[.slice none 0 0, .iface t (.pointer (some ad))])
    | some out => ∃ v, e = .returned (.tuple #[v, .nilIface]) ∧ Byts w' w.heap.size v out

theorem MacRes.no {w w' : World} {t : TypeId} {ad : Addr} {r : Option (List UInt8)} {v x : Value} (hr : r = none) (hb : Below w.heap.size w w') (h1 : v = .slice none 0 0) (h2 : x = .iface t (.pointer (some ad))) : MacRes w w' (.returned (.tuple #[v, x])) r := by
  subst hr; subst h1; subst h2; exact ⟨hb, _, _, rfl⟩

theorem MacRes.yes {w w' : World} {v : Value} {out : List UInt8} {r : Option (List UInt8)} (hr : r = some out) (hb : Below w.heap.size w w') (h : Byts w' w.heap.size v out) : MacRes w w' (.returned (.tuple #[v, .nilIface])) r := by
  subst hr; exact ⟨hb, v, rfl, h⟩

/-- at the jump: nothing is read, and nothing that was there is written -/
def macJ (w : World) (R : Option (List UInt8)) : Act → World → Prop := fun a w' =>
  R = none ∧ Below w.heap.size w w' ∧ ∃ t : Array Value, a = { tmps := t, defers := [] } ∧ t.size = 175

end Go.Proofs.Ytabeklpllphiaaa
