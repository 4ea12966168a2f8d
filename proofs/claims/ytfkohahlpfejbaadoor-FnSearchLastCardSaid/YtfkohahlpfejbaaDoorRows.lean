/-
  NARROWER THAN 'FOR EVERY INPUT', by the rows' own cells (each row's printed sentence says how): FnAddr: laid · FnHost: laid · FnHostsJoin: laid · FnResolvEmpty: laid · FnCIDR: laid · FnNetwork: laid · FnLiteral: laid · FnLiteralBytes: laid · FnResolv: laid · FnSearchLast: laid.
  DERIVED. THE GIVEN ROWS OF THIS SEAT. 10 by the template 'for every input the law returns true; each argument reads behind the call as it read before'; 0 by the template 'total and deterministic' (their statements: YtfkohahlpfejbaaDoorTotals.lean).
  GIVEN WITH THE SEED: the statements are not yours to turn. If you find one false, say at which input.
  Laid BY PROGRAM, IN A SANDBOX (cutbox-rows.mjs): the forced cells as the released guide's own fill.sh prints them over the translation 2fb4fc6c5839f9a6… (all of the seat's roots in one cut). By AI agents, Wed Nov 11 2026. No macro, syntax, notation, axiom, sorry.
-/
import Derived.Test.YtfkohahlpfejbaaDoorChecked
import GoSem.Claim
import GoSem.ClaimJoined
import GoSem.ClaimMapViews
import Derived.JoinedTies
import Derived.KernelRfl
namespace Go.Proofs.YtfkohahlpfejbaaDoor
/- THE CELL 'sum', in the pinned program and in every row, IS THE sha256 OF THE DUMP (.gsa) THAT YtfkohahlpfejbaaDoorProg.lean LOADS. Nothing in Lean hashes anything: it is a label: what it is worth is what the hold of that sum in a sandbox is worth. -/
noncomputable def Tryd.pinned : Pinned := { name := "ytfkohahlpfejbaadoor", sum := "2fb4fc6c5839f9a64fff504c969969e777161043423ce21a7448d1360d9e43d3", checked := Tryd.checked }
namespace Rows
def none {H : Type} : Left H := { results := [], args := [] }

/- WHAT THE LISTED PACKAGE-LEVEL VARIABLES READ AS WHEN THE CALL BEGINS. Each datum BY PROGRAM (the guide's laid-datum.mjs) off the statement by which the dump's own 'gosem.cut.vars' lays the variable. In a bare row this is a premise. The card (YtfkohahlpfejbaaDoorCards.lean) ties it to the program's text. -/
def laid_net_netip_z4 {H : Type} : DataW H := .agg [.ptr (.agg [.lit (.bool false), .lit (.string [])])]
def laid_net_netip_z6noz {H : Type} : DataW H := .agg [.ptr (.agg [.lit (.bool true), .lit (.string [])])]
def laid_net_netip_z0 {H : Type} : DataW H := .agg [.nil]

/-- 'laws.FnAddr': WHATEVER THE INPUT: true; the input reads as it did. -/
def fnAddrSpec : ChangeSpec := { name := "fnAddr", fn := fun _ => fun
  | [d1, d2, d3] => { results := [.lit (.bool true)], args := [d1, d2, d3] }
  | _ => none }
def fnAddrRow : OpenClaim := { program := "ytfkohahlpfejbaadoor", sum := "2fb4fc6c5839f9a64fff504c969969e777161043423ce21a7448d1360d9e43d3", func := "netreaders/laws.FnAddr", spec := "fnAddr", inPlace := ["internal/bytealg.IndexByteString", "unique.Make[net/netip.addrDetail]"], unfollowed := true, recurses := true, named := ["net/netip.z4", "net/netip.z6noz", "net/netip.z0"], apart := false, laid := [("net/netip.z4", laid_net_netip_z4), ("net/netip.z6noz", laid_net_netip_z6noz), ("net/netip.z0", laid_net_netip_z0)] }
def FnAddrSaid : Prop := fnAddrRow.holds Tryd.pinned (OpenSpec.ofChange fnAddrSpec)

/-- ITS FALSE NEIGHBOUR: 'it returns false'. Refute it at one input. -/
def fnAddrWrong : ChangeSpec := { name := "fnAddr", fn := fun _ => fun
  | [d1, d2, d3] => { results := [.lit (.bool false)], args := [d1, d2, d3] }
  | _ => none }
def FnAddrWrongFalsely : Prop := fnAddrRow.holds Tryd.pinned (OpenSpec.ofChange fnAddrWrong)

/-- 'laws.FnHost': WHATEVER THE INPUT: true; the input reads as it did. -/
def fnHostSpec : ChangeSpec := { name := "fnHost", fn := fun _ => fun
  | [d1, d2, d3] => { results := [.lit (.bool true)], args := [d1, d2, d3] }
  | _ => none }
def fnHostRow : OpenClaim := { program := "ytfkohahlpfejbaadoor", sum := "2fb4fc6c5839f9a64fff504c969969e777161043423ce21a7448d1360d9e43d3", func := "netreaders/laws.FnHost", spec := "fnHost", inPlace := ["internal/bytealg.IndexByteString", "unique.Make[net/netip.addrDetail]"], unfollowed := true, recurses := true, named := ["net/netip.z4", "net/netip.z6noz", "net/netip.z0"], apart := false, laid := [("net/netip.z4", laid_net_netip_z4), ("net/netip.z6noz", laid_net_netip_z6noz), ("net/netip.z0", laid_net_netip_z0)] }
def FnHostSaid : Prop := fnHostRow.holds Tryd.pinned (OpenSpec.ofChange fnHostSpec)

/-- ITS FALSE NEIGHBOUR: 'it returns false'. Refute it at one input. -/
def fnHostWrong : ChangeSpec := { name := "fnHost", fn := fun _ => fun
  | [d1, d2, d3] => { results := [.lit (.bool false)], args := [d1, d2, d3] }
  | _ => none }
def FnHostWrongFalsely : Prop := fnHostRow.holds Tryd.pinned (OpenSpec.ofChange fnHostWrong)

/-- 'laws.FnHostsJoin': WHATEVER THE INPUT: true; the input reads as it did. -/
def fnHostsJoinSpec : ChangeSpec := { name := "fnHostsJoin", fn := fun _ => fun
  | [d1, d2, d3, d4, d5] => { results := [.lit (.bool true)], args := [d1, d2, d3, d4, d5] }
  | _ => none }
def fnHostsJoinRow : OpenClaim := { program := "ytfkohahlpfejbaadoor", sum := "2fb4fc6c5839f9a64fff504c969969e777161043423ce21a7448d1360d9e43d3", func := "netreaders/laws.FnHostsJoin", spec := "fnHostsJoin", inPlace := ["internal/bytealg.IndexByteString", "unique.Make[net/netip.addrDetail]"], unfollowed := true, recurses := true, named := ["net/netip.z4", "net/netip.z6noz", "net/netip.z0"], apart := false, laid := [("net/netip.z4", laid_net_netip_z4), ("net/netip.z6noz", laid_net_netip_z6noz), ("net/netip.z0", laid_net_netip_z0)] }
def FnHostsJoinSaid : Prop := fnHostsJoinRow.holds Tryd.pinned (OpenSpec.ofChange fnHostsJoinSpec)

/-- ITS FALSE NEIGHBOUR: 'it returns false'. Refute it at one input. -/
def fnHostsJoinWrong : ChangeSpec := { name := "fnHostsJoin", fn := fun _ => fun
  | [d1, d2, d3, d4, d5] => { results := [.lit (.bool false)], args := [d1, d2, d3, d4, d5] }
  | _ => none }
def FnHostsJoinWrongFalsely : Prop := fnHostsJoinRow.holds Tryd.pinned (OpenSpec.ofChange fnHostsJoinWrong)

/-- 'laws.FnResolvEmpty': WHATEVER THE INPUT: true; the input reads as it did. -/
def fnResolvEmptySpec : ChangeSpec := { name := "fnResolvEmpty", fn := fun _ => fun
  | [d] => { results := [.lit (.bool true)], args := [d] }
  | _ => none }
def fnResolvEmptyRow : OpenClaim := { program := "ytfkohahlpfejbaadoor", sum := "2fb4fc6c5839f9a64fff504c969969e777161043423ce21a7448d1360d9e43d3", func := "netreaders/laws.FnResolvEmpty", spec := "fnResolvEmpty", inPlace := ["internal/bytealg.IndexByteString", "unique.Make[net/netip.addrDetail]"], named := ["net/netip.z4", "net/netip.z6noz", "net/netip.z0"], apart := false, laid := [("net/netip.z4", laid_net_netip_z4), ("net/netip.z6noz", laid_net_netip_z6noz), ("net/netip.z0", laid_net_netip_z0)] }
def FnResolvEmptySaid : Prop := fnResolvEmptyRow.holds Tryd.pinned (OpenSpec.ofChange fnResolvEmptySpec)

/-- ITS FALSE NEIGHBOUR: 'it returns false'. Refute it at one input. -/
def fnResolvEmptyWrong : ChangeSpec := { name := "fnResolvEmpty", fn := fun _ => fun
  | [d] => { results := [.lit (.bool false)], args := [d] }
  | _ => none }
def FnResolvEmptyWrongFalsely : Prop := fnResolvEmptyRow.holds Tryd.pinned (OpenSpec.ofChange fnResolvEmptyWrong)

/-- 'laws.FnCIDR': WHATEVER THE INPUT: true; the input reads as it did. -/
def fnCIDRSpec : ChangeSpec := { name := "fnCIDR", fn := fun _ => fun
  | [d] => { results := [.lit (.bool true)], args := [d] }
  | _ => none }
def fnCIDRRow : OpenClaim := { program := "ytfkohahlpfejbaadoor", sum := "2fb4fc6c5839f9a64fff504c969969e777161043423ce21a7448d1360d9e43d3", func := "netreaders/laws.FnCIDR", spec := "fnCIDR", inPlace := ["internal/bytealg.IndexByteString", "unique.Make[net/netip.addrDetail]"], unfollowed := true, recurses := true, named := ["net/netip.z4", "net/netip.z6noz", "net/netip.z0"], apart := false, laid := [("net/netip.z4", laid_net_netip_z4), ("net/netip.z6noz", laid_net_netip_z6noz), ("net/netip.z0", laid_net_netip_z0)] }
def FnCIDRSaid : Prop := fnCIDRRow.holds Tryd.pinned (OpenSpec.ofChange fnCIDRSpec)

/-- ITS FALSE NEIGHBOUR: 'it returns false'. Refute it at one input. -/
def fnCIDRWrong : ChangeSpec := { name := "fnCIDR", fn := fun _ => fun
  | [d] => { results := [.lit (.bool false)], args := [d] }
  | _ => none }
def FnCIDRWrongFalsely : Prop := fnCIDRRow.holds Tryd.pinned (OpenSpec.ofChange fnCIDRWrong)

/-- 'laws.FnNetwork': WHATEVER THE INPUT: true; the input reads as it did. -/
def fnNetworkSpec : ChangeSpec := { name := "fnNetwork", fn := fun _ => fun
  | [d1, d2] => { results := [.lit (.bool true)], args := [d1, d2] }
  | _ => none }
def fnNetworkRow : OpenClaim := { program := "ytfkohahlpfejbaadoor", sum := "2fb4fc6c5839f9a64fff504c969969e777161043423ce21a7448d1360d9e43d3", func := "netreaders/laws.FnNetwork", spec := "fnNetwork", inPlace := ["internal/bytealg.IndexByteString", "unique.Make[net/netip.addrDetail]"], unfollowed := true, recurses := true, named := ["net/netip.z4", "net/netip.z6noz", "net/netip.z0"], apart := false, laid := [("net/netip.z4", laid_net_netip_z4), ("net/netip.z6noz", laid_net_netip_z6noz), ("net/netip.z0", laid_net_netip_z0)] }
def FnNetworkSaid : Prop := fnNetworkRow.holds Tryd.pinned (OpenSpec.ofChange fnNetworkSpec)

/-- ITS FALSE NEIGHBOUR: 'it returns false'. Refute it at one input. -/
def fnNetworkWrong : ChangeSpec := { name := "fnNetwork", fn := fun _ => fun
  | [d1, d2] => { results := [.lit (.bool false)], args := [d1, d2] }
  | _ => none }
def FnNetworkWrongFalsely : Prop := fnNetworkRow.holds Tryd.pinned (OpenSpec.ofChange fnNetworkWrong)

/-- 'laws.FnLiteral': WHATEVER THE INPUT: true; the input reads as it did. -/
def fnLiteralSpec : ChangeSpec := { name := "fnLiteral", fn := fun _ => fun
  | [d] => { results := [.lit (.bool true)], args := [d] }
  | _ => none }
def fnLiteralRow : OpenClaim := { program := "ytfkohahlpfejbaadoor", sum := "2fb4fc6c5839f9a64fff504c969969e777161043423ce21a7448d1360d9e43d3", func := "netreaders/laws.FnLiteral", spec := "fnLiteral", inPlace := ["internal/bytealg.IndexByteString", "unique.Make[net/netip.addrDetail]"], unfollowed := true, recurses := true, named := ["net/netip.z4", "net/netip.z6noz", "net/netip.z0"], apart := false, laid := [("net/netip.z4", laid_net_netip_z4), ("net/netip.z6noz", laid_net_netip_z6noz), ("net/netip.z0", laid_net_netip_z0)] }
def FnLiteralSaid : Prop := fnLiteralRow.holds Tryd.pinned (OpenSpec.ofChange fnLiteralSpec)

/-- ITS FALSE NEIGHBOUR: 'it returns false'. Refute it at one input. -/
def fnLiteralWrong : ChangeSpec := { name := "fnLiteral", fn := fun _ => fun
  | [d] => { results := [.lit (.bool false)], args := [d] }
  | _ => none }
def FnLiteralWrongFalsely : Prop := fnLiteralRow.holds Tryd.pinned (OpenSpec.ofChange fnLiteralWrong)

/-- 'laws.FnLiteralBytes': WHATEVER THE INPUT: true; the input reads as it did. -/
def fnLiteralBytesSpec : ChangeSpec := { name := "fnLiteralBytes", fn := fun _ => fun
  | [d] => { results := [.lit (.bool true)], args := [d] }
  | _ => none }
def fnLiteralBytesRow : OpenClaim := { program := "ytfkohahlpfejbaadoor", sum := "2fb4fc6c5839f9a64fff504c969969e777161043423ce21a7448d1360d9e43d3", func := "netreaders/laws.FnLiteralBytes", spec := "fnLiteralBytes", inPlace := ["internal/bytealg.IndexByteString", "unique.Make[net/netip.addrDetail]"], unfollowed := true, recurses := true, named := ["net/netip.z4", "net/netip.z6noz", "net/netip.z0"], apart := false, laid := [("net/netip.z4", laid_net_netip_z4), ("net/netip.z6noz", laid_net_netip_z6noz), ("net/netip.z0", laid_net_netip_z0)] }
def FnLiteralBytesSaid : Prop := fnLiteralBytesRow.holds Tryd.pinned (OpenSpec.ofChange fnLiteralBytesSpec)

/-- ITS FALSE NEIGHBOUR: 'it returns false'. Refute it at one input. -/
def fnLiteralBytesWrong : ChangeSpec := { name := "fnLiteralBytes", fn := fun _ => fun
  | [d] => { results := [.lit (.bool false)], args := [d] }
  | _ => none }
def FnLiteralBytesWrongFalsely : Prop := fnLiteralBytesRow.holds Tryd.pinned (OpenSpec.ofChange fnLiteralBytesWrong)

/-- 'laws.FnResolv': WHATEVER THE INPUT: true; the input reads as it did. -/
def fnResolvSpec : ChangeSpec := { name := "fnResolv", fn := fun _ => fun
  | [d1, d2, d3] => { results := [.lit (.bool true)], args := [d1, d2, d3] }
  | _ => none }
def fnResolvRow : OpenClaim := { program := "ytfkohahlpfejbaadoor", sum := "2fb4fc6c5839f9a64fff504c969969e777161043423ce21a7448d1360d9e43d3", func := "netreaders/laws.FnResolv", spec := "fnResolv", inPlace := ["internal/bytealg.IndexByteString", "unique.Make[net/netip.addrDetail]"], unfollowed := true, recurses := true, named := ["net/netip.z4", "net/netip.z6noz", "net/netip.z0"], apart := false, laid := [("net/netip.z4", laid_net_netip_z4), ("net/netip.z6noz", laid_net_netip_z6noz), ("net/netip.z0", laid_net_netip_z0)] }
def FnResolvSaid : Prop := fnResolvRow.holds Tryd.pinned (OpenSpec.ofChange fnResolvSpec)

/-- ITS FALSE NEIGHBOUR: 'it returns false'. Refute it at one input. -/
def fnResolvWrong : ChangeSpec := { name := "fnResolv", fn := fun _ => fun
  | [d1, d2, d3] => { results := [.lit (.bool false)], args := [d1, d2, d3] }
  | _ => none }
def FnResolvWrongFalsely : Prop := fnResolvRow.holds Tryd.pinned (OpenSpec.ofChange fnResolvWrong)

/-- 'laws.FnSearchLast': WHATEVER THE INPUT: true; the input reads as it did. -/
def fnSearchLastSpec : ChangeSpec := { name := "fnSearchLast", fn := fun _ => fun
  | [d1, d2, d3] => { results := [.lit (.bool true)], args := [d1, d2, d3] }
  | _ => none }
def fnSearchLastRow : OpenClaim := { program := "ytfkohahlpfejbaadoor", sum := "2fb4fc6c5839f9a64fff504c969969e777161043423ce21a7448d1360d9e43d3", func := "netreaders/laws.FnSearchLast", spec := "fnSearchLast", inPlace := ["internal/bytealg.IndexByteString", "unique.Make[net/netip.addrDetail]"], unfollowed := true, recurses := true, named := ["net/netip.z4", "net/netip.z6noz", "net/netip.z0"], apart := false, laid := [("net/netip.z4", laid_net_netip_z4), ("net/netip.z6noz", laid_net_netip_z6noz), ("net/netip.z0", laid_net_netip_z0)] }
def FnSearchLastSaid : Prop := fnSearchLastRow.holds Tryd.pinned (OpenSpec.ofChange fnSearchLastSpec)

/-- ITS FALSE NEIGHBOUR: 'it returns false'. Refute it at one input. -/
def fnSearchLastWrong : ChangeSpec := { name := "fnSearchLast", fn := fun _ => fun
  | [d1, d2, d3] => { results := [.lit (.bool false)], args := [d1, d2, d3] }
  | _ => none }
def FnSearchLastWrongFalsely : Prop := fnSearchLastRow.holds Tryd.pinned (OpenSpec.ofChange fnSearchLastWrong)

/- THE SECOND FORM. 'bulk': how many values and letters a reading holds, each counted each time it is reached (what is shared counts as often as it is met; a slice's spare places count too). A statement '..UptoSaid' is the law's where the arguments, and the package variables that the reading takes, are together of bulk at most 1048576: NARROWER than '..Said'. Prove '..Said' where nothing that the law and all that it calls make is longer than what came in: it says more and counts as full. Else prove '..UptoSaid'. A law counts once. -/
mutual
def uptoBulk {H : Type} : DataW H → Nat
  | .lit (.string bytes) => bytes.length + 1
  | .lit _ => 1
  | .nil => 1
  | .ptr d => uptoBulk d + 1
  | .slice elems spare => uptoBulkAll elems + uptoBulkAll spare + 1
  | .agg parts => uptoBulkAll parts + 1
  | .iface _ d => uptoBulk d + 1
  | .map entries => uptoBulkEntries entries + 1
  | .held _ => 1
def uptoBulkAll {H : Type} : List (DataW H) → Nat
  | [] => 0
  | d :: r => uptoBulk d + uptoBulkAll r
def uptoBulkEntries {H : Type} : List (Lit × DataW H) → Nat
  | [] => 0
  | x :: r => uptoBulkEntry x + uptoBulkEntries r
def uptoBulkEntry {H : Type} : Lit × DataW H → Nat
  | (.string bytes, d) => bytes.length + uptoBulk d + 1
  | (_, d) => uptoBulk d + 1
 end
def uptoSmall : (H : Type) → List (DataW H) → Bool := fun _ ds => decide (uptoBulkAll ds ≤ 1048576)
def OpenSpec.upto (s : _root_.Go.ChangeSpec) : _root_.Go.OpenSpec := { _root_.Go.OpenSpec.ofChange s with cond := some uptoSmall }

/-- 'laws.FnAddr', WHERE WHAT IT READS IS OF BULK AT MOST 1048576: true; the input reads as it did. -/
def fnAddrUptoRow : OpenClaim := { program := "ytfkohahlpfejbaadoor", sum := "2fb4fc6c5839f9a64fff504c969969e777161043423ce21a7448d1360d9e43d3", func := "netreaders/laws.FnAddr", spec := "fnAddr", inPlace := ["internal/bytealg.IndexByteString", "unique.Make[net/netip.addrDetail]"], unfollowed := true, recurses := true, named := ["net/netip.z4", "net/netip.z6noz", "net/netip.z0"], apart := false, laid := [("net/netip.z4", laid_net_netip_z4), ("net/netip.z6noz", laid_net_netip_z6noz), ("net/netip.z0", laid_net_netip_z0)], narrowed := true }
def FnAddrUptoSaid : Prop := fnAddrUptoRow.holds Tryd.pinned (OpenSpec.upto fnAddrSpec)

/-- 'laws.FnHost', WHERE WHAT IT READS IS OF BULK AT MOST 1048576: true; the input reads as it did. -/
def fnHostUptoRow : OpenClaim := { program := "ytfkohahlpfejbaadoor", sum := "2fb4fc6c5839f9a64fff504c969969e777161043423ce21a7448d1360d9e43d3", func := "netreaders/laws.FnHost", spec := "fnHost", inPlace := ["internal/bytealg.IndexByteString", "unique.Make[net/netip.addrDetail]"], unfollowed := true, recurses := true, named := ["net/netip.z4", "net/netip.z6noz", "net/netip.z0"], apart := false, laid := [("net/netip.z4", laid_net_netip_z4), ("net/netip.z6noz", laid_net_netip_z6noz), ("net/netip.z0", laid_net_netip_z0)], narrowed := true }
def FnHostUptoSaid : Prop := fnHostUptoRow.holds Tryd.pinned (OpenSpec.upto fnHostSpec)

/-- 'laws.FnHostsJoin', WHERE WHAT IT READS IS OF BULK AT MOST 1048576: true; the input reads as it did. -/
def fnHostsJoinUptoRow : OpenClaim := { program := "ytfkohahlpfejbaadoor", sum := "2fb4fc6c5839f9a64fff504c969969e777161043423ce21a7448d1360d9e43d3", func := "netreaders/laws.FnHostsJoin", spec := "fnHostsJoin", inPlace := ["internal/bytealg.IndexByteString", "unique.Make[net/netip.addrDetail]"], unfollowed := true, recurses := true, named := ["net/netip.z4", "net/netip.z6noz", "net/netip.z0"], apart := false, laid := [("net/netip.z4", laid_net_netip_z4), ("net/netip.z6noz", laid_net_netip_z6noz), ("net/netip.z0", laid_net_netip_z0)], narrowed := true }
def FnHostsJoinUptoSaid : Prop := fnHostsJoinUptoRow.holds Tryd.pinned (OpenSpec.upto fnHostsJoinSpec)

/-- 'laws.FnResolvEmpty', WHERE WHAT IT READS IS OF BULK AT MOST 1048576: true; the input reads as it did. -/
def fnResolvEmptyUptoRow : OpenClaim := { program := "ytfkohahlpfejbaadoor", sum := "2fb4fc6c5839f9a64fff504c969969e777161043423ce21a7448d1360d9e43d3", func := "netreaders/laws.FnResolvEmpty", spec := "fnResolvEmpty", inPlace := ["internal/bytealg.IndexByteString", "unique.Make[net/netip.addrDetail]"], named := ["net/netip.z4", "net/netip.z6noz", "net/netip.z0"], apart := false, laid := [("net/netip.z4", laid_net_netip_z4), ("net/netip.z6noz", laid_net_netip_z6noz), ("net/netip.z0", laid_net_netip_z0)], narrowed := true }
def FnResolvEmptyUptoSaid : Prop := fnResolvEmptyUptoRow.holds Tryd.pinned (OpenSpec.upto fnResolvEmptySpec)

/-- 'laws.FnCIDR', WHERE WHAT IT READS IS OF BULK AT MOST 1048576: true; the input reads as it did. -/
def fnCIDRUptoRow : OpenClaim := { program := "ytfkohahlpfejbaadoor", sum := "2fb4fc6c5839f9a64fff504c969969e777161043423ce21a7448d1360d9e43d3", func := "netreaders/laws.FnCIDR", spec := "fnCIDR", inPlace := ["internal/bytealg.IndexByteString", "unique.Make[net/netip.addrDetail]"], unfollowed := true, recurses := true, named := ["net/netip.z4", "net/netip.z6noz", "net/netip.z0"], apart := false, laid := [("net/netip.z4", laid_net_netip_z4), ("net/netip.z6noz", laid_net_netip_z6noz), ("net/netip.z0", laid_net_netip_z0)], narrowed := true }
def FnCIDRUptoSaid : Prop := fnCIDRUptoRow.holds Tryd.pinned (OpenSpec.upto fnCIDRSpec)

/-- 'laws.FnNetwork', WHERE WHAT IT READS IS OF BULK AT MOST 1048576: true; the input reads as it did. -/
def fnNetworkUptoRow : OpenClaim := { program := "ytfkohahlpfejbaadoor", sum := "2fb4fc6c5839f9a64fff504c969969e777161043423ce21a7448d1360d9e43d3", func := "netreaders/laws.FnNetwork", spec := "fnNetwork", inPlace := ["internal/bytealg.IndexByteString", "unique.Make[net/netip.addrDetail]"], unfollowed := true, recurses := true, named := ["net/netip.z4", "net/netip.z6noz", "net/netip.z0"], apart := false, laid := [("net/netip.z4", laid_net_netip_z4), ("net/netip.z6noz", laid_net_netip_z6noz), ("net/netip.z0", laid_net_netip_z0)], narrowed := true }
def FnNetworkUptoSaid : Prop := fnNetworkUptoRow.holds Tryd.pinned (OpenSpec.upto fnNetworkSpec)

/-- 'laws.FnLiteral', WHERE WHAT IT READS IS OF BULK AT MOST 1048576: true; the input reads as it did. -/
def fnLiteralUptoRow : OpenClaim := { program := "ytfkohahlpfejbaadoor", sum := "2fb4fc6c5839f9a64fff504c969969e777161043423ce21a7448d1360d9e43d3", func := "netreaders/laws.FnLiteral", spec := "fnLiteral", inPlace := ["internal/bytealg.IndexByteString", "unique.Make[net/netip.addrDetail]"], unfollowed := true, recurses := true, named := ["net/netip.z4", "net/netip.z6noz", "net/netip.z0"], apart := false, laid := [("net/netip.z4", laid_net_netip_z4), ("net/netip.z6noz", laid_net_netip_z6noz), ("net/netip.z0", laid_net_netip_z0)], narrowed := true }
def FnLiteralUptoSaid : Prop := fnLiteralUptoRow.holds Tryd.pinned (OpenSpec.upto fnLiteralSpec)

/-- 'laws.FnLiteralBytes', WHERE WHAT IT READS IS OF BULK AT MOST 1048576: true; the input reads as it did. -/
def fnLiteralBytesUptoRow : OpenClaim := { program := "ytfkohahlpfejbaadoor", sum := "2fb4fc6c5839f9a64fff504c969969e777161043423ce21a7448d1360d9e43d3", func := "netreaders/laws.FnLiteralBytes", spec := "fnLiteralBytes", inPlace := ["internal/bytealg.IndexByteString", "unique.Make[net/netip.addrDetail]"], unfollowed := true, recurses := true, named := ["net/netip.z4", "net/netip.z6noz", "net/netip.z0"], apart := false, laid := [("net/netip.z4", laid_net_netip_z4), ("net/netip.z6noz", laid_net_netip_z6noz), ("net/netip.z0", laid_net_netip_z0)], narrowed := true }
def FnLiteralBytesUptoSaid : Prop := fnLiteralBytesUptoRow.holds Tryd.pinned (OpenSpec.upto fnLiteralBytesSpec)

/-- 'laws.FnResolv', WHERE WHAT IT READS IS OF BULK AT MOST 1048576: true; the input reads as it did. -/
def fnResolvUptoRow : OpenClaim := { program := "ytfkohahlpfejbaadoor", sum := "2fb4fc6c5839f9a64fff504c969969e777161043423ce21a7448d1360d9e43d3", func := "netreaders/laws.FnResolv", spec := "fnResolv", inPlace := ["internal/bytealg.IndexByteString", "unique.Make[net/netip.addrDetail]"], unfollowed := true, recurses := true, named := ["net/netip.z4", "net/netip.z6noz", "net/netip.z0"], apart := false, laid := [("net/netip.z4", laid_net_netip_z4), ("net/netip.z6noz", laid_net_netip_z6noz), ("net/netip.z0", laid_net_netip_z0)], narrowed := true }
def FnResolvUptoSaid : Prop := fnResolvUptoRow.holds Tryd.pinned (OpenSpec.upto fnResolvSpec)

/-- 'laws.FnSearchLast', WHERE WHAT IT READS IS OF BULK AT MOST 1048576: true; the input reads as it did. -/
def fnSearchLastUptoRow : OpenClaim := { program := "ytfkohahlpfejbaadoor", sum := "2fb4fc6c5839f9a64fff504c969969e777161043423ce21a7448d1360d9e43d3", func := "netreaders/laws.FnSearchLast", spec := "fnSearchLast", inPlace := ["internal/bytealg.IndexByteString", "unique.Make[net/netip.addrDetail]"], unfollowed := true, recurses := true, named := ["net/netip.z4", "net/netip.z6noz", "net/netip.z0"], apart := false, laid := [("net/netip.z4", laid_net_netip_z4), ("net/netip.z6noz", laid_net_netip_z6noz), ("net/netip.z0", laid_net_netip_z0)], narrowed := true }
def FnSearchLastUptoSaid : Prop := fnSearchLastUptoRow.holds Tryd.pinned (OpenSpec.upto fnSearchLastSpec)

end Rows
end Go.Proofs.YtfkohahlpfejbaaDoor
