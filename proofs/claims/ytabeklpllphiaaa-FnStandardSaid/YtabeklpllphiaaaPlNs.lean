/-
  PLAIN: nsswitch.conf as text; criteria in small letters.
-/
import Derived.Test.YtabeklpllphiaaaNsW
namespace Go.Proofs.Ytabeklpllphiaaa
open Go.RowKit

def pl.critTx (c : Crit) : List UInt8 := (if c.1 = true then [33] else []) ++ (c.2.1 ++ 61 :: c.2.2)
def pl.critsIn : List Crit → List UInt8
  | [] => []
  | c :: cs => pl.critTx c ++ cs.flatMap (fun c => [32] ++ pl.critTx c)
def pl.critsTx (cs : List Crit) : List UInt8 := if cs = [] then [] else [32, 91] ++ (pl.critsIn cs ++ [93])
def pl.srcTx (s : Src) : List UInt8 := [32] ++ (s.1 ++ pl.critsTx s.2)
def pl.srcsTx (l : List Src) : List UInt8 := l.flatMap pl.srcTx
def pl.nsTop : List UInt8 := [35, 32, 110, 115, 115, 119, 105, 116, 99, 104, 10, 111, 116, 104, 101, 114, 58, 32, 102, 105, 108, 101, 115, 10]
def pl.nsEnd : List UInt8 := [32, 35, 32, 99, 111, 109, 109, 101, 110, 116, 10]
def pl.nsOther : List UInt8 := [111, 116, 104, 101, 114]
def pl.swText (db : List UInt8) (l : List Src) : List UInt8 := pl.nsTop ++ (db ++ ([58] ++ (pl.srcsTx l ++ pl.nsEnd)))
def pl.critOk (c : Crit) : Bool := pl.plain c.2.1 && pl.plain c.2.2
def pl.srcOk (s : Src) : Bool := pl.plain s.1 && decide (s.2.length ≤ 8) && s.2.all pl.critOk
def pl.swOk (db : List UInt8) (l : List Src) : Bool := pl.plain db && !decide (db = pl.nsOther) && decide (l.length ≤ 20) && l.all pl.srcOk
def pl.lowC (c : Crit) : Crit := (c.1, pl.low c.2.1, pl.low c.2.2)
def FitC (c : Crit) : Prop := c.2.1.length ≤ 2147483647 ∧ c.2.2.length ≤ 2147483647
def FitN (s : Src) : Prop := s.1.length ≤ 2147483647 ∧ s.2.length ≤ 2147483647 ∧ ∀ c ∈ s.2, FitC c

theorem pl.ok_ne (b : UInt8) (h : pl.okB b) : b ≠ 32 ∧ b ≠ 33 ∧ b ≠ 35 ∧ b ≠ 58 ∧ b ≠ 61 ∧ b ≠ 91 ∧ b ≠ 93 ∧ b ≠ 10 := by
  unfold pl.okB at h
  refine ⟨?_, ?_, ?_, ?_, ?_, ?_, ?_, ?_⟩ <;> (intro e; subst e; revert h; decide)
theorem pl.ok_asc (b : UInt8) (h : pl.okB b) : b.toNat < 128 := by unfold pl.okB at h; omega
theorem pl.critOk_parts (c : Crit) (h : pl.critOk c = true) : pl.plain c.2.1 = true ∧ pl.plain c.2.2 = true := by
  unfold pl.critOk at h
  simpa using h
theorem pl.low_61 : pl.lowB 61 = 61 := by decide
theorem pl.low_body (st ac : List UInt8) : pl.low (st ++ 61 :: ac) = pl.low st ++ 61 :: pl.low ac := by
  unfold pl.low
  rw [List.map_append, List.map_cons, pl.low_61]

end Go.Proofs.Ytabeklpllphiaaa
