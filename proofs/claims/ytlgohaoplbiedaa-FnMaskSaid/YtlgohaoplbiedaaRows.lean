/-
  No cell of these rows narrows 'for every input' (looked for: loops, veiled, ifaces, maps, wideKeys, modest, calm, conditions, laid).
  DERIVED. THE GIVEN ROWS OF THIS SEAT. 12 by the template 'for every input the law returns true; each argument reads behind the call as it read before'; 0 by the template 'total and deterministic' (their statements: YtlgohaoplbiedaaTotals.lean).
  GIVEN WITH THE SEED: the statements are not yours to turn. If you find one false, say at which input.
  Laid BY PROGRAM, IN A SANDBOX (cutbox-rows.mjs): the forced cells as the released guide's own fill.sh prints them over the translation 725005f9ff2f4eeb… (all of the seat's roots in one cut). By AI agents, Wed Nov 11 2026. No macro, syntax, notation, axiom, sorry.
-/
import Derived.Test.YtlgohaoplbiedaaChecked
import GoSem.Claim
import GoSem.ClaimJoined
import GoSem.ClaimMapViews
import Derived.JoinedTies
import Derived.KernelRfl
namespace Go.Proofs.Ytlgohaoplbiedaa
/- THE CELL 'sum', in the pinned program and in every row, IS THE sha256 OF THE DUMP (.gsa) THAT YtlgohaoplbiedaaProg.lean LOADS. Nothing in Lean hashes anything: it is a label: what it is worth is what the hold of that sum in a sandbox is worth. -/
noncomputable def Try.pinned : Pinned := { name := "ytlgohaoplbiedaa", sum := "725005f9ff2f4eebe3bb206a2743404d089f2d1d0efb74954c89787d5817b807", checked := Try.checked }
namespace Rows
def none {H : Type} : Left H := { results := [], args := [] }

/-- 'laws.FnAbsolute': WHATEVER THE INPUT: true; the input reads as it did. -/
def fnAbsoluteSpec : ChangeSpec := { name := "fnAbsolute", fn := fun _ => fun
  | [d] => { results := [.lit (.bool true)], args := [d] }
  | _ => none }
def fnAbsoluteRow : OpenClaim := { program := "ytlgohaoplbiedaa", sum := "725005f9ff2f4eebe3bb206a2743404d089f2d1d0efb74954c89787d5817b807", func := "netreaders/laws.FnAbsolute", spec := "fnAbsolute", apart := false }
def FnAbsoluteSaid : Prop := fnAbsoluteRow.holds Try.pinned (OpenSpec.ofChange fnAbsoluteSpec)

/-- ITS FALSE NEIGHBOUR: 'it returns false'. Refute it at one input. -/
def fnAbsoluteWrong : ChangeSpec := { name := "fnAbsolute", fn := fun _ => fun
  | [d] => { results := [.lit (.bool false)], args := [d] }
  | _ => none }
def FnAbsoluteWrongFalsely : Prop := fnAbsoluteRow.holds Try.pinned (OpenSpec.ofChange fnAbsoluteWrong)

/-- 'laws.FnJoin': WHATEVER THE INPUT: true; the input reads as it did. -/
def fnJoinSpec : ChangeSpec := { name := "fnJoin", fn := fun _ => fun
  | [d1, d2] => { results := [.lit (.bool true)], args := [d1, d2] }
  | _ => none }
def fnJoinRow : OpenClaim := { program := "ytlgohaoplbiedaa", sum := "725005f9ff2f4eebe3bb206a2743404d089f2d1d0efb74954c89787d5817b807", func := "netreaders/laws.FnJoin", spec := "fnJoin", apart := false }
def FnJoinSaid : Prop := fnJoinRow.holds Try.pinned (OpenSpec.ofChange fnJoinSpec)

/-- ITS FALSE NEIGHBOUR: 'it returns false'. Refute it at one input. -/
def fnJoinWrong : ChangeSpec := { name := "fnJoin", fn := fun _ => fun
  | [d1, d2] => { results := [.lit (.bool false)], args := [d1, d2] }
  | _ => none }
def FnJoinWrongFalsely : Prop := fnJoinRow.holds Try.pinned (OpenSpec.ofChange fnJoinWrong)

/-- 'laws.FnName': WHATEVER THE INPUT: true; the input reads as it did. -/
def fnNameSpec : ChangeSpec := { name := "fnName", fn := fun _ => fun
  | [d] => { results := [.lit (.bool true)], args := [d] }
  | _ => none }
def fnNameRow : OpenClaim := { program := "ytlgohaoplbiedaa", sum := "725005f9ff2f4eebe3bb206a2743404d089f2d1d0efb74954c89787d5817b807", func := "netreaders/laws.FnName", spec := "fnName", apart := false }
def FnNameSaid : Prop := fnNameRow.holds Try.pinned (OpenSpec.ofChange fnNameSpec)

/-- ITS FALSE NEIGHBOUR: 'it returns false'. Refute it at one input. -/
def fnNameWrong : ChangeSpec := { name := "fnName", fn := fun _ => fun
  | [d] => { results := [.lit (.bool false)], args := [d] }
  | _ => none }
def FnNameWrongFalsely : Prop := fnNameRow.holds Try.pinned (OpenSpec.ofChange fnNameWrong)

/-- 'laws.FnSplit': WHATEVER THE INPUT: true; the input reads as it did. -/
def fnSplitSpec : ChangeSpec := { name := "fnSplit", fn := fun _ => fun
  | [d] => { results := [.lit (.bool true)], args := [d] }
  | _ => none }
def fnSplitRow : OpenClaim := { program := "ytlgohaoplbiedaa", sum := "725005f9ff2f4eebe3bb206a2743404d089f2d1d0efb74954c89787d5817b807", func := "netreaders/laws.FnSplit", spec := "fnSplit", unfollowed := true, recurses := true, apart := false }
def FnSplitSaid : Prop := fnSplitRow.holds Try.pinned (OpenSpec.ofChange fnSplitSpec)

/-- ITS FALSE NEIGHBOUR: 'it returns false'. Refute it at one input. -/
def fnSplitWrong : ChangeSpec := { name := "fnSplit", fn := fun _ => fun
  | [d] => { results := [.lit (.bool false)], args := [d] }
  | _ => none }
def FnSplitWrongFalsely : Prop := fnSplitRow.holds Try.pinned (OpenSpec.ofChange fnSplitWrong)

/-- 'laws.FnSplitJoined': WHATEVER THE INPUT: true; the input reads as it did. -/
def fnSplitJoinedSpec : ChangeSpec := { name := "fnSplitJoined", fn := fun _ => fun
  | [d1, d2] => { results := [.lit (.bool true)], args := [d1, d2] }
  | _ => none }
def fnSplitJoinedRow : OpenClaim := { program := "ytlgohaoplbiedaa", sum := "725005f9ff2f4eebe3bb206a2743404d089f2d1d0efb74954c89787d5817b807", func := "netreaders/laws.FnSplitJoined", spec := "fnSplitJoined", unfollowed := true, recurses := true, apart := false }
def FnSplitJoinedSaid : Prop := fnSplitJoinedRow.holds Try.pinned (OpenSpec.ofChange fnSplitJoinedSpec)

/-- ITS FALSE NEIGHBOUR: 'it returns false'. Refute it at one input. -/
def fnSplitJoinedWrong : ChangeSpec := { name := "fnSplitJoined", fn := fun _ => fun
  | [d1, d2] => { results := [.lit (.bool false)], args := [d1, d2] }
  | _ => none }
def FnSplitJoinedWrongFalsely : Prop := fnSplitJoinedRow.holds Try.pinned (OpenSpec.ofChange fnSplitJoinedWrong)

/-- 'laws.FnNoZone': WHATEVER THE INPUT: true; the input reads as it did. -/
def fnNoZoneSpec : ChangeSpec := { name := "fnNoZone", fn := fun _ => fun
  | [d] => { results := [.lit (.bool true)], args := [d] }
  | _ => none }
def fnNoZoneRow : OpenClaim := { program := "ytlgohaoplbiedaa", sum := "725005f9ff2f4eebe3bb206a2743404d089f2d1d0efb74954c89787d5817b807", func := "netreaders/laws.FnNoZone", spec := "fnNoZone", unfollowed := true, recurses := true, apart := false }
def FnNoZoneSaid : Prop := fnNoZoneRow.holds Try.pinned (OpenSpec.ofChange fnNoZoneSpec)

/-- ITS FALSE NEIGHBOUR: 'it returns false'. Refute it at one input. -/
def fnNoZoneWrong : ChangeSpec := { name := "fnNoZone", fn := fun _ => fun
  | [d] => { results := [.lit (.bool false)], args := [d] }
  | _ => none }
def FnNoZoneWrongFalsely : Prop := fnNoZoneRow.holds Try.pinned (OpenSpec.ofChange fnNoZoneWrong)

/-- 'laws.FnZone': WHATEVER THE INPUT: true; the input reads as it did. -/
def fnZoneSpec : ChangeSpec := { name := "fnZone", fn := fun _ => fun
  | [d1, d2] => { results := [.lit (.bool true)], args := [d1, d2] }
  | _ => none }
def fnZoneRow : OpenClaim := { program := "ytlgohaoplbiedaa", sum := "725005f9ff2f4eebe3bb206a2743404d089f2d1d0efb74954c89787d5817b807", func := "netreaders/laws.FnZone", spec := "fnZone", unfollowed := true, recurses := true, apart := false }
def FnZoneSaid : Prop := fnZoneRow.holds Try.pinned (OpenSpec.ofChange fnZoneSpec)

/-- ITS FALSE NEIGHBOUR: 'it returns false'. Refute it at one input. -/
def fnZoneWrong : ChangeSpec := { name := "fnZone", fn := fun _ => fun
  | [d1, d2] => { results := [.lit (.bool false)], args := [d1, d2] }
  | _ => none }
def FnZoneWrongFalsely : Prop := fnZoneRow.holds Try.pinned (OpenSpec.ofChange fnZoneWrong)

/-- 'laws.FnDecimal': WHATEVER THE INPUT: true; the input reads as it did. -/
def fnDecimalSpec : ChangeSpec := { name := "fnDecimal", fn := fun _ => fun
  | [d1, d2] => { results := [.lit (.bool true)], args := [d1, d2] }
  | _ => none }
def fnDecimalRow : OpenClaim := { program := "ytlgohaoplbiedaa", sum := "725005f9ff2f4eebe3bb206a2743404d089f2d1d0efb74954c89787d5817b807", func := "netreaders/laws.FnDecimal", spec := "fnDecimal", unfollowed := true, recurses := true, apart := false }
def FnDecimalSaid : Prop := fnDecimalRow.holds Try.pinned (OpenSpec.ofChange fnDecimalSpec)

/-- ITS FALSE NEIGHBOUR: 'it returns false'. Refute it at one input. -/
def fnDecimalWrong : ChangeSpec := { name := "fnDecimal", fn := fun _ => fun
  | [d1, d2] => { results := [.lit (.bool false)], args := [d1, d2] }
  | _ => none }
def FnDecimalWrongFalsely : Prop := fnDecimalRow.holds Try.pinned (OpenSpec.ofChange fnDecimalWrong)

/-- 'laws.FnHexadecimal': WHATEVER THE INPUT: true; the input reads as it did. -/
def fnHexadecimalSpec : ChangeSpec := { name := "fnHexadecimal", fn := fun _ => fun
  | [d1, d2] => { results := [.lit (.bool true)], args := [d1, d2] }
  | _ => none }
def fnHexadecimalRow : OpenClaim := { program := "ytlgohaoplbiedaa", sum := "725005f9ff2f4eebe3bb206a2743404d089f2d1d0efb74954c89787d5817b807", func := "netreaders/laws.FnHexadecimal", spec := "fnHexadecimal", unfollowed := true, recurses := true, apart := false }
def FnHexadecimalSaid : Prop := fnHexadecimalRow.holds Try.pinned (OpenSpec.ofChange fnHexadecimalSpec)

/-- ITS FALSE NEIGHBOUR: 'it returns false'. Refute it at one input. -/
def fnHexadecimalWrong : ChangeSpec := { name := "fnHexadecimal", fn := fun _ => fun
  | [d1, d2] => { results := [.lit (.bool false)], args := [d1, d2] }
  | _ => none }
def FnHexadecimalWrongFalsely : Prop := fnHexadecimalRow.holds Try.pinned (OpenSpec.ofChange fnHexadecimalWrong)

/-- 'laws.FnFields': WHATEVER THE INPUT: true; the input reads as it did. -/
def fnFieldsSpec : ChangeSpec := { name := "fnFields", fn := fun _ => fun
  | [d] => { results := [.lit (.bool true)], args := [d] }
  | _ => none }
def fnFieldsRow : OpenClaim := { program := "ytlgohaoplbiedaa", sum := "725005f9ff2f4eebe3bb206a2743404d089f2d1d0efb74954c89787d5817b807", func := "netreaders/laws.FnFields", spec := "fnFields", unfollowed := true, recurses := true, apart := false }
def FnFieldsSaid : Prop := fnFieldsRow.holds Try.pinned (OpenSpec.ofChange fnFieldsSpec)

/-- ITS FALSE NEIGHBOUR: 'it returns false'. Refute it at one input. -/
def fnFieldsWrong : ChangeSpec := { name := "fnFields", fn := fun _ => fun
  | [d] => { results := [.lit (.bool false)], args := [d] }
  | _ => none }
def FnFieldsWrongFalsely : Prop := fnFieldsRow.holds Try.pinned (OpenSpec.ofChange fnFieldsWrong)

/-- 'laws.FnPort': WHATEVER THE INPUT: true; the input reads as it did. -/
def fnPortSpec : ChangeSpec := { name := "fnPort", fn := fun _ => fun
  | [d] => { results := [.lit (.bool true)], args := [d] }
  | _ => none }
def fnPortRow : OpenClaim := { program := "ytlgohaoplbiedaa", sum := "725005f9ff2f4eebe3bb206a2743404d089f2d1d0efb74954c89787d5817b807", func := "netreaders/laws.FnPort", spec := "fnPort", unfollowed := true, recurses := true, apart := false }
def FnPortSaid : Prop := fnPortRow.holds Try.pinned (OpenSpec.ofChange fnPortSpec)

/-- ITS FALSE NEIGHBOUR: 'it returns false'. Refute it at one input. -/
def fnPortWrong : ChangeSpec := { name := "fnPort", fn := fun _ => fun
  | [d] => { results := [.lit (.bool false)], args := [d] }
  | _ => none }
def FnPortWrongFalsely : Prop := fnPortRow.holds Try.pinned (OpenSpec.ofChange fnPortWrong)

/-- 'laws.FnMask': WHATEVER THE INPUT: true; the input reads as it did. -/
def fnMaskSpec : ChangeSpec := { name := "fnMask", fn := fun _ => fun
  | [d1, d2] => { results := [.lit (.bool true)], args := [d1, d2] }
  | _ => none }
def fnMaskRow : OpenClaim := { program := "ytlgohaoplbiedaa", sum := "725005f9ff2f4eebe3bb206a2743404d089f2d1d0efb74954c89787d5817b807", func := "netreaders/laws.FnMask", spec := "fnMask", unfollowed := true, recurses := true, apart := false }
def FnMaskSaid : Prop := fnMaskRow.holds Try.pinned (OpenSpec.ofChange fnMaskSpec)

/-- ITS FALSE NEIGHBOUR: 'it returns false'. Refute it at one input. -/
def fnMaskWrong : ChangeSpec := { name := "fnMask", fn := fun _ => fun
  | [d1, d2] => { results := [.lit (.bool false)], args := [d1, d2] }
  | _ => none }
def FnMaskWrongFalsely : Prop := fnMaskRow.holds Try.pinned (OpenSpec.ofChange fnMaskWrong)

/- THE SECOND FORM. 'bulk': how many values and letters a reading holds, each counted each time it is reached (what is shared counts as often as it is met; a slice's spare places count too). A statement '..UptoSaid' is the law's where the arguments, and the package variables that the reading takes, are together of bulk at most 1048576: NARROWER than '..Said'. Prove '..Said' where nothing that the law and all that it calls make is longer than what came in: it says more and counts as full. Else prove '..UptoSaid'. A law counts once. -/
mutual
def uptoBulk {H : Type} : DataW H → Nat
  | .lit (.string bytes) => bytes.length + 1
  | .lit _ => 1
  | .nil => 1
  | .ptr d => uptoBulk d + 1
  | .slice elems spare => uptoBulkAll elems + uptoBulkAll spare + 1
  | .agg parts => uptoBulkAll parts + 1
  | .iface _ d => uptoBulk d + 1
  | .map entries => uptoBulkEntries entries + 1
  | .held _ => 1
def uptoBulkAll {H : Type} : List (DataW H) → Nat
  | [] => 0
  | d :: r => uptoBulk d + uptoBulkAll r
def uptoBulkEntries {H : Type} : List (Lit × DataW H) → Nat
  | [] => 0
  | x :: r => uptoBulkEntry x + uptoBulkEntries r
def uptoBulkEntry {H : Type} : Lit × DataW H → Nat
  | (.string bytes, d) => bytes.length + uptoBulk d + 1
  | (_, d) => uptoBulk d + 1
 end
def uptoSmall : (H : Type) → List (DataW H) → Bool := fun _ ds => decide (uptoBulkAll ds ≤ 1048576)
def OpenSpec.upto (s : _root_.Go.ChangeSpec) : _root_.Go.OpenSpec := { _root_.Go.OpenSpec.ofChange s with cond := some uptoSmall }

/-- 'laws.FnAbsolute', WHERE WHAT IT READS IS OF BULK AT MOST 1048576: true; the input reads as it did. -/
def fnAbsoluteUptoRow : OpenClaim := { program := "ytlgohaoplbiedaa", sum := "725005f9ff2f4eebe3bb206a2743404d089f2d1d0efb74954c89787d5817b807", func := "netreaders/laws.FnAbsolute", spec := "fnAbsolute", apart := false, narrowed := true }
def FnAbsoluteUptoSaid : Prop := fnAbsoluteUptoRow.holds Try.pinned (OpenSpec.upto fnAbsoluteSpec)

/-- 'laws.FnJoin', WHERE WHAT IT READS IS OF BULK AT MOST 1048576: true; the input reads as it did. -/
def fnJoinUptoRow : OpenClaim := { program := "ytlgohaoplbiedaa", sum := "725005f9ff2f4eebe3bb206a2743404d089f2d1d0efb74954c89787d5817b807", func := "netreaders/laws.FnJoin", spec := "fnJoin", apart := false, narrowed := true }
def FnJoinUptoSaid : Prop := fnJoinUptoRow.holds Try.pinned (OpenSpec.upto fnJoinSpec)

/-- 'laws.FnName', WHERE WHAT IT READS IS OF BULK AT MOST 1048576: true; the input reads as it did. -/
def fnNameUptoRow : OpenClaim := { program := "ytlgohaoplbiedaa", sum := "725005f9ff2f4eebe3bb206a2743404d089f2d1d0efb74954c89787d5817b807", func := "netreaders/laws.FnName", spec := "fnName", apart := false, narrowed := true }
def FnNameUptoSaid : Prop := fnNameUptoRow.holds Try.pinned (OpenSpec.upto fnNameSpec)

/-- 'laws.FnSplit', WHERE WHAT IT READS IS OF BULK AT MOST 1048576: true; the input reads as it did. -/
def fnSplitUptoRow : OpenClaim := { program := "ytlgohaoplbiedaa", sum := "725005f9ff2f4eebe3bb206a2743404d089f2d1d0efb74954c89787d5817b807", func := "netreaders/laws.FnSplit", spec := "fnSplit", unfollowed := true, recurses := true, apart := false, narrowed := true }
def FnSplitUptoSaid : Prop := fnSplitUptoRow.holds Try.pinned (OpenSpec.upto fnSplitSpec)

/-- 'laws.FnSplitJoined', WHERE WHAT IT READS IS OF BULK AT MOST 1048576: true; the input reads as it did. -/
def fnSplitJoinedUptoRow : OpenClaim := { program := "ytlgohaoplbiedaa", sum := "725005f9ff2f4eebe3bb206a2743404d089f2d1d0efb74954c89787d5817b807", func := "netreaders/laws.FnSplitJoined", spec := "fnSplitJoined", unfollowed := true, recurses := true, apart := false, narrowed := true }
def FnSplitJoinedUptoSaid : Prop := fnSplitJoinedUptoRow.holds Try.pinned (OpenSpec.upto fnSplitJoinedSpec)

/-- 'laws.FnNoZone', WHERE WHAT IT READS IS OF BULK AT MOST 1048576: true; the input reads as it did. -/
def fnNoZoneUptoRow : OpenClaim := { program := "ytlgohaoplbiedaa", sum := "725005f9ff2f4eebe3bb206a2743404d089f2d1d0efb74954c89787d5817b807", func := "netreaders/laws.FnNoZone", spec := "fnNoZone", unfollowed := true, recurses := true, apart := false, narrowed := true }
def FnNoZoneUptoSaid : Prop := fnNoZoneUptoRow.holds Try.pinned (OpenSpec.upto fnNoZoneSpec)

/-- 'laws.FnZone', WHERE WHAT IT READS IS OF BULK AT MOST 1048576: true; the input reads as it did. -/
def fnZoneUptoRow : OpenClaim := { program := "ytlgohaoplbiedaa", sum := "725005f9ff2f4eebe3bb206a2743404d089f2d1d0efb74954c89787d5817b807", func := "netreaders/laws.FnZone", spec := "fnZone", unfollowed := true, recurses := true, apart := false, narrowed := true }
def FnZoneUptoSaid : Prop := fnZoneUptoRow.holds Try.pinned (OpenSpec.upto fnZoneSpec)

/-- 'laws.FnDecimal', WHERE WHAT IT READS IS OF BULK AT MOST 1048576: true; the input reads as it did. -/
def fnDecimalUptoRow : OpenClaim := { program := "ytlgohaoplbiedaa", sum := "725005f9ff2f4eebe3bb206a2743404d089f2d1d0efb74954c89787d5817b807", func := "netreaders/laws.FnDecimal", spec := "fnDecimal", unfollowed := true, recurses := true, apart := false, narrowed := true }
def FnDecimalUptoSaid : Prop := fnDecimalUptoRow.holds Try.pinned (OpenSpec.upto fnDecimalSpec)

/-- 'laws.FnHexadecimal', WHERE WHAT IT READS IS OF BULK AT MOST 1048576: true; the input reads as it did. -/
def fnHexadecimalUptoRow : OpenClaim := { program := "ytlgohaoplbiedaa", sum := "725005f9ff2f4eebe3bb206a2743404d089f2d1d0efb74954c89787d5817b807", func := "netreaders/laws.FnHexadecimal", spec := "fnHexadecimal", unfollowed := true, recurses := true, apart := false, narrowed := true }
def FnHexadecimalUptoSaid : Prop := fnHexadecimalUptoRow.holds Try.pinned (OpenSpec.upto fnHexadecimalSpec)

/-- 'laws.FnFields', WHERE WHAT IT READS IS OF BULK AT MOST 1048576: true; the input reads as it did. -/
def fnFieldsUptoRow : OpenClaim := { program := "ytlgohaoplbiedaa", sum := "725005f9ff2f4eebe3bb206a2743404d089f2d1d0efb74954c89787d5817b807", func := "netreaders/laws.FnFields", spec := "fnFields", unfollowed := true, recurses := true, apart := false, narrowed := true }
def FnFieldsUptoSaid : Prop := fnFieldsUptoRow.holds Try.pinned (OpenSpec.upto fnFieldsSpec)

/-- 'laws.FnPort', WHERE WHAT IT READS IS OF BULK AT MOST 1048576: true; the input reads as it did. -/
def fnPortUptoRow : OpenClaim := { program := "ytlgohaoplbiedaa", sum := "725005f9ff2f4eebe3bb206a2743404d089f2d1d0efb74954c89787d5817b807", func := "netreaders/laws.FnPort", spec := "fnPort", unfollowed := true, recurses := true, apart := false, narrowed := true }
def FnPortUptoSaid : Prop := fnPortUptoRow.holds Try.pinned (OpenSpec.upto fnPortSpec)

/-- 'laws.FnMask', WHERE WHAT IT READS IS OF BULK AT MOST 1048576: true; the input reads as it did. -/
def fnMaskUptoRow : OpenClaim := { program := "ytlgohaoplbiedaa", sum := "725005f9ff2f4eebe3bb206a2743404d089f2d1d0efb74954c89787d5817b807", func := "netreaders/laws.FnMask", spec := "fnMask", unfollowed := true, recurses := true, apart := false, narrowed := true }
def FnMaskUptoSaid : Prop := fnMaskUptoRow.holds Try.pinned (OpenSpec.upto fnMaskSpec)

end Rows
end Go.Proofs.Ytlgohaoplbiedaa
