/-
  No cell of these rows narrows 'for every input' (looked for: loops, veiled, ifaces, maps, wideKeys, modest, calm, conditions, laid).
  DERIVED. THE GIVEN ROWS OF THIS SEAT. 5 by the template 'for every input the law returns true; each argument reads behind the call as it read before'; 0 by the template 'total and deterministic' (their statements: YtabeklpllphiaaaTotals.lean).
  GIVEN WITH THE SEED: the statements are not yours to turn. If you find one false, say at which input.
  Laid BY PROGRAM, IN A SANDBOX (cutbox-rows.mjs): the forced cells as the released guide's own fill.sh prints them over the translation 6e1fcd831583860f… (all of the seat's roots in one cut). By AI agents, Wed Nov 11 2026. No macro, syntax, notation, axiom, sorry.
-/
import Derived.Test.YtabeklpllphiaaaChecked
import GoSem.Claim
import GoSem.ClaimJoined
import GoSem.ClaimMapViews
import Derived.JoinedTies
import Derived.KernelRfl
namespace Go.Proofs.Ytabeklpllphiaaa
/- THE CELL 'sum', in the pinned program and in every row, IS THE sha256 OF THE DUMP (.gsa) THAT YtabeklpllphiaaaProg.lean LOADS. Nothing in Lean hashes anything: it is a label: what it is worth is what the hold of that sum in a sandbox is worth. -/
noncomputable def Try.pinned : Pinned := { name := "ytabeklpllphiaaa", sum := "6e1fcd831583860f355f4343e2b84baf5870d8f507a3c9817680d59d1b6bf179", checked := Try.checked }
namespace Rows
def none {H : Type} : Left H := { results := [], args := [] }

/-- 'laws.FnService': WHATEVER THE INPUT: true; the input reads as it did. -/
def fnServiceSpec : ChangeSpec := { name := "fnService", fn := fun _ => fun
  | [d1, d2, d3] => { results := [.lit (.bool true)], args := [d1, d2, d3] }
  | _ => none }
def fnServiceRow : OpenClaim := { program := "ytabeklpllphiaaa", sum := "6e1fcd831583860f355f4343e2b84baf5870d8f507a3c9817680d59d1b6bf179", func := "netreaders/laws.FnService", spec := "fnService", unfollowed := true, recurses := true, apart := false }
def FnServiceSaid : Prop := fnServiceRow.holds Try.pinned (OpenSpec.ofChange fnServiceSpec)

/-- ITS FALSE NEIGHBOUR: 'it returns false'. Refute it at one input. -/
def fnServiceWrong : ChangeSpec := { name := "fnService", fn := fun _ => fun
  | [d1, d2, d3] => { results := [.lit (.bool false)], args := [d1, d2, d3] }
  | _ => none }
def FnServiceWrongFalsely : Prop := fnServiceRow.holds Try.pinned (OpenSpec.ofChange fnServiceWrong)

/-- 'laws.FnHardware': WHATEVER THE INPUT: true; the input reads as it did. -/
def fnHardwareSpec : ChangeSpec := { name := "fnHardware", fn := fun _ => fun
  | [d] => { results := [.lit (.bool true)], args := [d] }
  | _ => none }
def fnHardwareRow : OpenClaim := { program := "ytabeklpllphiaaa", sum := "6e1fcd831583860f355f4343e2b84baf5870d8f507a3c9817680d59d1b6bf179", func := "netreaders/laws.FnHardware", spec := "fnHardware", unfollowed := true, recurses := true, apart := false }
def FnHardwareSaid : Prop := fnHardwareRow.holds Try.pinned (OpenSpec.ofChange fnHardwareSpec)

/-- ITS FALSE NEIGHBOUR: 'it returns false'. Refute it at one input. -/
def fnHardwareWrong : ChangeSpec := { name := "fnHardware", fn := fun _ => fun
  | [d] => { results := [.lit (.bool false)], args := [d] }
  | _ => none }
def FnHardwareWrongFalsely : Prop := fnHardwareRow.holds Try.pinned (OpenSpec.ofChange fnHardwareWrong)

/-- 'laws.FnHardwareText': WHATEVER THE INPUT: true; the input reads as it did. -/
def fnHardwareTextSpec : ChangeSpec := { name := "fnHardwareText", fn := fun _ => fun
  | [d] => { results := [.lit (.bool true)], args := [d] }
  | _ => none }
def fnHardwareTextRow : OpenClaim := { program := "ytabeklpllphiaaa", sum := "6e1fcd831583860f355f4343e2b84baf5870d8f507a3c9817680d59d1b6bf179", func := "netreaders/laws.FnHardwareText", spec := "fnHardwareText", unfollowed := true, recurses := true, apart := false }
def FnHardwareTextSaid : Prop := fnHardwareTextRow.holds Try.pinned (OpenSpec.ofChange fnHardwareTextSpec)

/-- ITS FALSE NEIGHBOUR: 'it returns false'. Refute it at one input. -/
def fnHardwareTextWrong : ChangeSpec := { name := "fnHardwareText", fn := fun _ => fun
  | [d] => { results := [.lit (.bool false)], args := [d] }
  | _ => none }
def FnHardwareTextWrongFalsely : Prop := fnHardwareTextRow.holds Try.pinned (OpenSpec.ofChange fnHardwareTextWrong)

/-- 'laws.FnSources': WHATEVER THE INPUT: true; the input reads as it did. -/
def fnSourcesSpec : ChangeSpec := { name := "fnSources", fn := fun _ => fun
  | [d1, d2] => { results := [.lit (.bool true)], args := [d1, d2] }
  | _ => none }
def fnSourcesRow : OpenClaim := { program := "ytabeklpllphiaaa", sum := "6e1fcd831583860f355f4343e2b84baf5870d8f507a3c9817680d59d1b6bf179", func := "netreaders/laws.FnSources", spec := "fnSources", unfollowed := true, recurses := true, apart := false }
def FnSourcesSaid : Prop := fnSourcesRow.holds Try.pinned (OpenSpec.ofChange fnSourcesSpec)

/-- ITS FALSE NEIGHBOUR: 'it returns false'. Refute it at one input. -/
def fnSourcesWrong : ChangeSpec := { name := "fnSources", fn := fun _ => fun
  | [d1, d2] => { results := [.lit (.bool false)], args := [d1, d2] }
  | _ => none }
def FnSourcesWrongFalsely : Prop := fnSourcesRow.holds Try.pinned (OpenSpec.ofChange fnSourcesWrong)

/-- 'laws.FnStandard': WHATEVER THE INPUT: true; the input reads as it did. -/
def fnStandardSpec : ChangeSpec := { name := "fnStandard", fn := fun _ => fun
  | [d1, d2] => { results := [.lit (.bool true)], args := [d1, d2] }
  | _ => none }
def fnStandardRow : OpenClaim := { program := "ytabeklpllphiaaa", sum := "6e1fcd831583860f355f4343e2b84baf5870d8f507a3c9817680d59d1b6bf179", func := "netreaders/laws.FnStandard", spec := "fnStandard", unfollowed := true, recurses := true, apart := false }
def FnStandardSaid : Prop := fnStandardRow.holds Try.pinned (OpenSpec.ofChange fnStandardSpec)

/-- ITS FALSE NEIGHBOUR: 'it returns false'. Refute it at one input. -/
def fnStandardWrong : ChangeSpec := { name := "fnStandard", fn := fun _ => fun
  | [d1, d2] => { results := [.lit (.bool false)], args := [d1, d2] }
  | _ => none }
def FnStandardWrongFalsely : Prop := fnStandardRow.holds Try.pinned (OpenSpec.ofChange fnStandardWrong)

/- THE SECOND FORM. 'bulk': how many values and letters a reading holds, each counted each time it is reached (what is shared counts as often as it is met; a slice's spare places count too). A statement '..UptoSaid' is the law's where the arguments, and the package variables that the reading takes, are together of bulk at most 1048576: NARROWER than '..Said'. Prove '..Said' where nothing that the law and all that it calls make is longer than what came in: it says more and counts as full. Else prove '..UptoSaid'. A law counts once. -/
mutual
def uptoBulk {H : Type} : DataW H → Nat
  | .lit (.string bytes) => bytes.length + 1
  | .lit _ => 1
  | .nil => 1
  | .ptr d => uptoBulk d + 1
  | .slice elems spare => uptoBulkAll elems + uptoBulkAll spare + 1
  | .agg parts => uptoBulkAll parts + 1
  | .iface _ d => uptoBulk d + 1
  | .map entries => uptoBulkEntries entries + 1
  | .held _ => 1
def uptoBulkAll {H : Type} : List (DataW H) → Nat
  | [] => 0
  | d :: r => uptoBulk d + uptoBulkAll r
def uptoBulkEntries {H : Type} : List (Lit × DataW H) → Nat
  | [] => 0
  | x :: r => uptoBulkEntry x + uptoBulkEntries r
def uptoBulkEntry {H : Type} : Lit × DataW H → Nat
  | (.string bytes, d) => bytes.length + uptoBulk d + 1
  | (_, d) => uptoBulk d + 1
 end
def uptoSmall : (H : Type) → List (DataW H) → Bool := fun _ ds => decide (uptoBulkAll ds ≤ 1048576)
def OpenSpec.upto (s : _root_.Go.ChangeSpec) : _root_.Go.OpenSpec := { _root_.Go.OpenSpec.ofChange s with cond := some uptoSmall }

/-- 'laws.FnService', WHERE WHAT IT READS IS OF BULK AT MOST 1048576: true; the input reads as it did. -/
def fnServiceUptoRow : OpenClaim := { program := "ytabeklpllphiaaa", sum := "6e1fcd831583860f355f4343e2b84baf5870d8f507a3c9817680d59d1b6bf179", func := "netreaders/laws.FnService", spec := "fnService", unfollowed := true, recurses := true, apart := false, narrowed := true }
def FnServiceUptoSaid : Prop := fnServiceUptoRow.holds Try.pinned (OpenSpec.upto fnServiceSpec)

/-- 'laws.FnHardware', WHERE WHAT IT READS IS OF BULK AT MOST 1048576: true; the input reads as it did. -/
def fnHardwareUptoRow : OpenClaim := { program := "ytabeklpllphiaaa", sum := "6e1fcd831583860f355f4343e2b84baf5870d8f507a3c9817680d59d1b6bf179", func := "netreaders/laws.FnHardware", spec := "fnHardware", unfollowed := true, recurses := true, apart := false, narrowed := true }
def FnHardwareUptoSaid : Prop := fnHardwareUptoRow.holds Try.pinned (OpenSpec.upto fnHardwareSpec)

/-- 'laws.FnHardwareText', WHERE WHAT IT READS IS OF BULK AT MOST 1048576: true; the input reads as it did. -/
def fnHardwareTextUptoRow : OpenClaim := { program := "ytabeklpllphiaaa", sum := "6e1fcd831583860f355f4343e2b84baf5870d8f507a3c9817680d59d1b6bf179", func := "netreaders/laws.FnHardwareText", spec := "fnHardwareText", unfollowed := true, recurses := true, apart := false, narrowed := true }
def FnHardwareTextUptoSaid : Prop := fnHardwareTextUptoRow.holds Try.pinned (OpenSpec.upto fnHardwareTextSpec)

/-- 'laws.FnSources', WHERE WHAT IT READS IS OF BULK AT MOST 1048576: true; the input reads as it did. -/
def fnSourcesUptoRow : OpenClaim := { program := "ytabeklpllphiaaa", sum := "6e1fcd831583860f355f4343e2b84baf5870d8f507a3c9817680d59d1b6bf179", func := "netreaders/laws.FnSources", spec := "fnSources", unfollowed := true, recurses := true, apart := false, narrowed := true }
def FnSourcesUptoSaid : Prop := fnSourcesUptoRow.holds Try.pinned (OpenSpec.upto fnSourcesSpec)

/-- 'laws.FnStandard', WHERE WHAT IT READS IS OF BULK AT MOST 1048576: true; the input reads as it did. -/
def fnStandardUptoRow : OpenClaim := { program := "ytabeklpllphiaaa", sum := "6e1fcd831583860f355f4343e2b84baf5870d8f507a3c9817680d59d1b6bf179", func := "netreaders/laws.FnStandard", spec := "fnStandard", unfollowed := true, recurses := true, apart := false, narrowed := true }
def FnStandardUptoSaid : Prop := fnStandardUptoRow.holds Try.pinned (OpenSpec.upto fnStandardSpec)

end Rows
end Go.Proofs.Ytabeklpllphiaaa
