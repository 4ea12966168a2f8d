/-
  DERIVED. GIVEN WITH THE SEED: THE PROGRAM's TIES (one call each: nine closed facts by the kernel) AND EACH ROW's TIE, after the 31st guide's Derived/Test/Toyas{Tie, Card}.lean. No idea stands in it: it is a product of the set-up. Laid BY PROGRAM, IN A SANDBOX (cutbox-door.mjs). By AI agents, Wed Nov 11 2026. No macro, syntax, notation, axiom, sorry.
-/
import Derived.Test.YtfkohahlpfejbaaDoorRows
import Derived.LaidByTextLater
import Derived.SevenTiedAt
import Derived.LaidSub
import Derived.LaidOnce
namespace Go.Proofs.YtfkohahlpfejbaaDoor
open Go
set_option maxRecDepth 100000
theorem seatTie1 : Tryd.prog.laidByTextLater [("net/netip.z4", Rows.laid_net_netip_z4), ("net/netip.z6noz", Rows.laid_net_netip_z6noz), ("net/netip.z0", Rows.laid_net_netip_z0)] [.called, .called, .zero] true :=
  Program.laidByTextLater_by_one 21 8 3 (by kernel_rfl) (by kernel_rfl) (by kernel_rfl) (by kernel_rfl) (by kernel_rfl) (by kernel_rfl) (fun _ _ => by kernel_rfl)
theorem noOwnUnsafe : Tryd.pinned.checked.prog.headLifts.contains "ownunsafe" = false := by kernel_rfl
theorem tie : Tryd.prog.laidByTextLater [("net/netip.z4", Rows.laid_net_netip_z4), ("net/netip.z6noz", Rows.laid_net_netip_z6noz), ("net/netip.z0", Rows.laid_net_netip_z0)] [.called, .called, .zero] true :=
  Program.laidByTextLater.sub seatTie1 ["net/netip.z4", "net/netip.z6noz", "net/netip.z0"] (by kernel_rfl) (by kernel_rfl)
theorem fnAddr_row_tie : Rows.fnAddrRow.laidByTextAt .later Tryd.pinned [.called, .called, .zero] true :=
  OpenClaim.laidByTextAt_later rfl rfl tie noOwnUnsafe
theorem fnHost_row_tie : Rows.fnHostRow.laidByTextAt .later Tryd.pinned [.called, .called, .zero] true :=
  OpenClaim.laidByTextAt_later rfl rfl tie noOwnUnsafe
theorem fnHostsJoin_row_tie : Rows.fnHostsJoinRow.laidByTextAt .later Tryd.pinned [.called, .called, .zero] true :=
  OpenClaim.laidByTextAt_later rfl rfl tie noOwnUnsafe
theorem fnResolvEmpty_row_tie : Rows.fnResolvEmptyRow.laidByTextAt .later Tryd.pinned [.called, .called, .zero] true :=
  OpenClaim.laidByTextAt_later rfl rfl tie noOwnUnsafe
theorem fnCIDR_row_tie : Rows.fnCIDRRow.laidByTextAt .later Tryd.pinned [.called, .called, .zero] true :=
  OpenClaim.laidByTextAt_later rfl rfl tie noOwnUnsafe
theorem fnNetwork_row_tie : Rows.fnNetworkRow.laidByTextAt .later Tryd.pinned [.called, .called, .zero] true :=
  OpenClaim.laidByTextAt_later rfl rfl tie noOwnUnsafe
theorem fnLiteral_row_tie : Rows.fnLiteralRow.laidByTextAt .later Tryd.pinned [.called, .called, .zero] true :=
  OpenClaim.laidByTextAt_later rfl rfl tie noOwnUnsafe
theorem fnLiteralBytes_row_tie : Rows.fnLiteralBytesRow.laidByTextAt .later Tryd.pinned [.called, .called, .zero] true :=
  OpenClaim.laidByTextAt_later rfl rfl tie noOwnUnsafe
theorem fnResolv_row_tie : Rows.fnResolvRow.laidByTextAt .later Tryd.pinned [.called, .called, .zero] true :=
  OpenClaim.laidByTextAt_later rfl rfl tie noOwnUnsafe
theorem fnSearchLast_row_tie : Rows.fnSearchLastRow.laidByTextAt .later Tryd.pinned [.called, .called, .zero] true :=
  OpenClaim.laidByTextAt_later rfl rfl tie noOwnUnsafe
theorem fnAddrUpto_row_tie : Rows.fnAddrUptoRow.laidByTextAt .later Tryd.pinned [.called, .called, .zero] true :=
  OpenClaim.laidByTextAt_later rfl rfl tie noOwnUnsafe
theorem fnHostUpto_row_tie : Rows.fnHostUptoRow.laidByTextAt .later Tryd.pinned [.called, .called, .zero] true :=
  OpenClaim.laidByTextAt_later rfl rfl tie noOwnUnsafe
theorem fnHostsJoinUpto_row_tie : Rows.fnHostsJoinUptoRow.laidByTextAt .later Tryd.pinned [.called, .called, .zero] true :=
  OpenClaim.laidByTextAt_later rfl rfl tie noOwnUnsafe
theorem fnResolvEmptyUpto_row_tie : Rows.fnResolvEmptyUptoRow.laidByTextAt .later Tryd.pinned [.called, .called, .zero] true :=
  OpenClaim.laidByTextAt_later rfl rfl tie noOwnUnsafe
theorem fnCIDRUpto_row_tie : Rows.fnCIDRUptoRow.laidByTextAt .later Tryd.pinned [.called, .called, .zero] true :=
  OpenClaim.laidByTextAt_later rfl rfl tie noOwnUnsafe
theorem fnNetworkUpto_row_tie : Rows.fnNetworkUptoRow.laidByTextAt .later Tryd.pinned [.called, .called, .zero] true :=
  OpenClaim.laidByTextAt_later rfl rfl tie noOwnUnsafe
theorem fnLiteralUpto_row_tie : Rows.fnLiteralUptoRow.laidByTextAt .later Tryd.pinned [.called, .called, .zero] true :=
  OpenClaim.laidByTextAt_later rfl rfl tie noOwnUnsafe
theorem fnLiteralBytesUpto_row_tie : Rows.fnLiteralBytesUptoRow.laidByTextAt .later Tryd.pinned [.called, .called, .zero] true :=
  OpenClaim.laidByTextAt_later rfl rfl tie noOwnUnsafe
theorem fnResolvUpto_row_tie : Rows.fnResolvUptoRow.laidByTextAt .later Tryd.pinned [.called, .called, .zero] true :=
  OpenClaim.laidByTextAt_later rfl rfl tie noOwnUnsafe
theorem fnSearchLastUpto_row_tie : Rows.fnSearchLastUptoRow.laidByTextAt .later Tryd.pinned [.called, .called, .zero] true :=
  OpenClaim.laidByTextAt_later rfl rfl tie noOwnUnsafe
end Go.Proofs.YtfkohahlpfejbaaDoor
