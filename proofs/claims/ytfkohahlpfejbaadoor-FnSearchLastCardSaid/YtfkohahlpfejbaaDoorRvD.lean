/-
  WORDS FOR resolv.conf: options as they came in, the text that is written.
-/
import Derived.Test.YtfkohahlpfejbaaDoorRv1
namespace Go.Proofs.YtfkohahlpfejbaaDoor
open Go.RowKit

/-- The slice value v reads as these options. -/
def RdO (w : World) (v : Value) (l : List Opt) : Prop :=
  ∃ a cap, v = .slice a l.length cap ∧ l.length ≤ cap ∧ (a = none → cap = 0) ∧ ∀ k o, l[k]? = some o → ∃ g off, a = some ⟨g, off, none⟩ ∧ g < w.heap.size ∧ w.cell? ⟨g, off + k * 2, none⟩ = some (.int .i64 o.1) ∧ w.cell? ⟨g, off + k * 2 + 1, none⟩ = some (.int .i64 o.2) ∧ o.2 < 9223372036854775808
theorem RdO.below {w w' : World} {v : Value} {l : List Opt} (h : RdO w v l) (hb : Below w.heap.size w w') : RdO w' v l := by
  obtain ⟨a, cap, hv, h1, h0, h3⟩ := h
  refine ⟨a, cap, hv, h1, h0, fun k b hk => ?_⟩
  obtain ⟨g, o, ha, hg, hc, hd, hr⟩ := h3 k b hk
  have := hb.size
  exact ⟨g, o, ha, by omega, by rw [below_cell hb g _ hg]; exact hc, by rw [below_cell hb g _ hg]; exact hd, hr⟩

/-- servers, search list, options -/
abbrev Cnf := List (List UInt8) × List (List UInt8) × List Opt

def pl.rvTop : List UInt8 := [35, 32, 114, 101, 115, 111, 108, 118, 101, 114, 10, 59, 32, 99, 111, 109, 109, 101, 110, 116, 10]
def pl.rvSrv : List UInt8 := [110, 97, 109, 101, 115, 101, 114, 118, 101, 114, 32]
def pl.rvSch : List UInt8 := [115, 101, 97, 114, 99, 104]
def pl.rvOpt : List UInt8 := [111, 112, 116, 105, 111, 110, 115]
def pl.rvServers (l : List (List UInt8)) : List UInt8 := l.flatMap (fun s => pl.rvSrv ++ (s ++ [10]))
def pl.rvSearch (l : List (List UInt8)) : List UInt8 := (if l = [] then [] else pl.rvSch) ++ l.flatMap (fun s => [9] ++ s)
def pl.rvApart (l : List Opt) : List UInt8 := l.flatMap (fun o => pl.rvOpt ++ ([32] ++ (pl.optTx o ++ [10])))
def pl.rvOne (l : List Opt) : List UInt8 := (if l = [] then [] else pl.rvOpt) ++ l.flatMap (fun o => [32] ++ pl.optTx o)
def pl.rvText (c : Cnf) (apart : Bool) : List UInt8 := pl.rvTop ++ (pl.rvServers c.1 ++ (pl.rvSearch c.2.1 ++ ([10] ++ ((if apart = true then pl.rvApart c.2.2 else pl.rvOne c.2.2) ++ [10]))))
def pl.rvOk (c : Cnf) : Bool := decide (c.1.length ≤ 3) && decide (c.2.1.length ≤ 6) && decide (c.2.2.length ≤ 20) && c.1.all (fun s => (pl.addr s).isSome) && c.2.1.all pl.plain && c.2.2.all pl.optOk

end Go.Proofs.YtfkohahlpfejbaaDoor
