/-
  DERIVED. GIVEN WITH THE SEED: THE CARDS: each row of YtfkohahlpfejbaaDoorRows.lean that lists a variable, with what it lists TIED to the program's text (the seventh form; the later family's looks); each row that meets fmt, with fmt's text TOLD by the authors' own Lean function (tested against real Go, not proved from fmt's source: count such statements apart). THE CARD IS WHAT COUNTS. Prove the row's statement (the work); the ties are given (YtfkohahlpfejbaaDoorTie.lean); close each card by the builder's one call (the guide's Derived/Test/ToyasCard.lean, 'card_holds'). Laid BY PROGRAM, IN A SANDBOX (cutbox-door.mjs). By AI agents, Wed Nov 11 2026. No macro, syntax, notation, axiom, sorry.
-/
import Derived.Test.YtfkohahlpfejbaaDoorRows
import GoSem.ClaimSeven
namespace Go.Proofs.YtfkohahlpfejbaaDoor
namespace Rows

/-- THE TIED CARD OF 'laws.FnAddr'. -/
def fnAddrCard : Claim7 := { stood := { row := fnAddrRow, standIns := [], harness := (true, "70f95b1259bcb2b39d7112445e9e3c241bc11f54a9f7ad7d4e7285932a40e792"), looks := false }, kinds := [], alts := [], laidByText := true, laidKinds := [.called, .called, .zero], laidTests := true, laidLooks := .later }
def FnAddrCardSaid : Prop := Claim7.holds Tryd.pinned (.plain (OpenSpec.ofChange fnAddrSpec)) fnAddrCard

/-- THE TIED CARD OF 'laws.FnHost'. -/
def fnHostCard : Claim7 := { stood := { row := fnHostRow, standIns := [], harness := (true, "70f95b1259bcb2b39d7112445e9e3c241bc11f54a9f7ad7d4e7285932a40e792"), looks := false }, kinds := [], alts := [], laidByText := true, laidKinds := [.called, .called, .zero], laidTests := true, laidLooks := .later }
def FnHostCardSaid : Prop := Claim7.holds Tryd.pinned (.plain (OpenSpec.ofChange fnHostSpec)) fnHostCard

/-- THE TIED CARD OF 'laws.FnHostsJoin'. -/
def fnHostsJoinCard : Claim7 := { stood := { row := fnHostsJoinRow, standIns := [], harness := (true, "70f95b1259bcb2b39d7112445e9e3c241bc11f54a9f7ad7d4e7285932a40e792"), looks := false }, kinds := [], alts := [], laidByText := true, laidKinds := [.called, .called, .zero], laidTests := true, laidLooks := .later }
def FnHostsJoinCardSaid : Prop := Claim7.holds Tryd.pinned (.plain (OpenSpec.ofChange fnHostsJoinSpec)) fnHostsJoinCard

/-- THE TIED CARD OF 'laws.FnResolvEmpty'. -/
def fnResolvEmptyCard : Claim7 := { stood := { row := fnResolvEmptyRow, standIns := [], harness := (true, "70f95b1259bcb2b39d7112445e9e3c241bc11f54a9f7ad7d4e7285932a40e792"), looks := false }, kinds := [], alts := [], laidByText := true, laidKinds := [.called, .called, .zero], laidTests := true, laidLooks := .later }
def FnResolvEmptyCardSaid : Prop := Claim7.holds Tryd.pinned (.plain (OpenSpec.ofChange fnResolvEmptySpec)) fnResolvEmptyCard

/-- THE TIED CARD OF 'laws.FnCIDR'. -/
def fnCIDRCard : Claim7 := { stood := { row := fnCIDRRow, standIns := [], harness := (true, "70f95b1259bcb2b39d7112445e9e3c241bc11f54a9f7ad7d4e7285932a40e792"), looks := false }, kinds := [], alts := [], laidByText := true, laidKinds := [.called, .called, .zero], laidTests := true, laidLooks := .later }
def FnCIDRCardSaid : Prop := Claim7.holds Tryd.pinned (.plain (OpenSpec.ofChange fnCIDRSpec)) fnCIDRCard

/-- THE TIED CARD OF 'laws.FnNetwork'. -/
def fnNetworkCard : Claim7 := { stood := { row := fnNetworkRow, standIns := [], harness := (true, "70f95b1259bcb2b39d7112445e9e3c241bc11f54a9f7ad7d4e7285932a40e792"), looks := false }, kinds := [], alts := [], laidByText := true, laidKinds := [.called, .called, .zero], laidTests := true, laidLooks := .later }
def FnNetworkCardSaid : Prop := Claim7.holds Tryd.pinned (.plain (OpenSpec.ofChange fnNetworkSpec)) fnNetworkCard

/-- THE TIED CARD OF 'laws.FnLiteral'. -/
def fnLiteralCard : Claim7 := { stood := { row := fnLiteralRow, standIns := [], harness := (true, "70f95b1259bcb2b39d7112445e9e3c241bc11f54a9f7ad7d4e7285932a40e792"), looks := false }, kinds := [], alts := [], laidByText := true, laidKinds := [.called, .called, .zero], laidTests := true, laidLooks := .later }
def FnLiteralCardSaid : Prop := Claim7.holds Tryd.pinned (.plain (OpenSpec.ofChange fnLiteralSpec)) fnLiteralCard

/-- THE TIED CARD OF 'laws.FnLiteralBytes'. -/
def fnLiteralBytesCard : Claim7 := { stood := { row := fnLiteralBytesRow, standIns := [], harness := (true, "70f95b1259bcb2b39d7112445e9e3c241bc11f54a9f7ad7d4e7285932a40e792"), looks := false }, kinds := [], alts := [], laidByText := true, laidKinds := [.called, .called, .zero], laidTests := true, laidLooks := .later }
def FnLiteralBytesCardSaid : Prop := Claim7.holds Tryd.pinned (.plain (OpenSpec.ofChange fnLiteralBytesSpec)) fnLiteralBytesCard

/-- THE TIED CARD OF 'laws.FnResolv'. -/
def fnResolvCard : Claim7 := { stood := { row := fnResolvRow, standIns := [], harness := (true, "70f95b1259bcb2b39d7112445e9e3c241bc11f54a9f7ad7d4e7285932a40e792"), looks := false }, kinds := [], alts := [], laidByText := true, laidKinds := [.called, .called, .zero], laidTests := true, laidLooks := .later }
def FnResolvCardSaid : Prop := Claim7.holds Tryd.pinned (.plain (OpenSpec.ofChange fnResolvSpec)) fnResolvCard

/-- THE TIED CARD OF 'laws.FnSearchLast'. -/
def fnSearchLastCard : Claim7 := { stood := { row := fnSearchLastRow, standIns := [], harness := (true, "70f95b1259bcb2b39d7112445e9e3c241bc11f54a9f7ad7d4e7285932a40e792"), looks := false }, kinds := [], alts := [], laidByText := true, laidKinds := [.called, .called, .zero], laidTests := true, laidLooks := .later }
def FnSearchLastCardSaid : Prop := Claim7.holds Tryd.pinned (.plain (OpenSpec.ofChange fnSearchLastSpec)) fnSearchLastCard

/-- THE SECOND FORM's CARD OF 'laws.FnAddr'. -/
def fnAddrUptoCard : Claim7 := { stood := { row := fnAddrUptoRow, standIns := [], harness := (true, "70f95b1259bcb2b39d7112445e9e3c241bc11f54a9f7ad7d4e7285932a40e792"), looks := false }, kinds := [], alts := [], laidByText := true, laidKinds := [.called, .called, .zero], laidTests := true, laidLooks := .later }
def FnAddrUptoCardSaid : Prop := Claim7.holds Tryd.pinned (.plain (OpenSpec.upto fnAddrSpec)) fnAddrUptoCard

/-- THE SECOND FORM's CARD OF 'laws.FnHost'. -/
def fnHostUptoCard : Claim7 := { stood := { row := fnHostUptoRow, standIns := [], harness := (true, "70f95b1259bcb2b39d7112445e9e3c241bc11f54a9f7ad7d4e7285932a40e792"), looks := false }, kinds := [], alts := [], laidByText := true, laidKinds := [.called, .called, .zero], laidTests := true, laidLooks := .later }
def FnHostUptoCardSaid : Prop := Claim7.holds Tryd.pinned (.plain (OpenSpec.upto fnHostSpec)) fnHostUptoCard

/-- THE SECOND FORM's CARD OF 'laws.FnHostsJoin'. -/
def fnHostsJoinUptoCard : Claim7 := { stood := { row := fnHostsJoinUptoRow, standIns := [], harness := (true, "70f95b1259bcb2b39d7112445e9e3c241bc11f54a9f7ad7d4e7285932a40e792"), looks := false }, kinds := [], alts := [], laidByText := true, laidKinds := [.called, .called, .zero], laidTests := true, laidLooks := .later }
def FnHostsJoinUptoCardSaid : Prop := Claim7.holds Tryd.pinned (.plain (OpenSpec.upto fnHostsJoinSpec)) fnHostsJoinUptoCard

/-- THE SECOND FORM's CARD OF 'laws.FnResolvEmpty'. -/
def fnResolvEmptyUptoCard : Claim7 := { stood := { row := fnResolvEmptyUptoRow, standIns := [], harness := (true, "70f95b1259bcb2b39d7112445e9e3c241bc11f54a9f7ad7d4e7285932a40e792"), looks := false }, kinds := [], alts := [], laidByText := true, laidKinds := [.called, .called, .zero], laidTests := true, laidLooks := .later }
def FnResolvEmptyUptoCardSaid : Prop := Claim7.holds Tryd.pinned (.plain (OpenSpec.upto fnResolvEmptySpec)) fnResolvEmptyUptoCard

/-- THE SECOND FORM's CARD OF 'laws.FnCIDR'. -/
def fnCIDRUptoCard : Claim7 := { stood := { row := fnCIDRUptoRow, standIns := [], harness := (true, "70f95b1259bcb2b39d7112445e9e3c241bc11f54a9f7ad7d4e7285932a40e792"), looks := false }, kinds := [], alts := [], laidByText := true, laidKinds := [.called, .called, .zero], laidTests := true, laidLooks := .later }
def FnCIDRUptoCardSaid : Prop := Claim7.holds Tryd.pinned (.plain (OpenSpec.upto fnCIDRSpec)) fnCIDRUptoCard

/-- THE SECOND FORM's CARD OF 'laws.FnNetwork'. -/
def fnNetworkUptoCard : Claim7 := { stood := { row := fnNetworkUptoRow, standIns := [], harness := (true, "70f95b1259bcb2b39d7112445e9e3c241bc11f54a9f7ad7d4e7285932a40e792"), looks := false }, kinds := [], alts := [], laidByText := true, laidKinds := [.called, .called, .zero], laidTests := true, laidLooks := .later }
def FnNetworkUptoCardSaid : Prop := Claim7.holds Tryd.pinned (.plain (OpenSpec.upto fnNetworkSpec)) fnNetworkUptoCard

/-- THE SECOND FORM's CARD OF 'laws.FnLiteral'. -/
def fnLiteralUptoCard : Claim7 := { stood := { row := fnLiteralUptoRow, standIns := [], harness := (true, "70f95b1259bcb2b39d7112445e9e3c241bc11f54a9f7ad7d4e7285932a40e792"), looks := false }, kinds := [], alts := [], laidByText := true, laidKinds := [.called, .called, .zero], laidTests := true, laidLooks := .later }
def FnLiteralUptoCardSaid : Prop := Claim7.holds Tryd.pinned (.plain (OpenSpec.upto fnLiteralSpec)) fnLiteralUptoCard

/-- THE SECOND FORM's CARD OF 'laws.FnLiteralBytes'. -/
def fnLiteralBytesUptoCard : Claim7 := { stood := { row := fnLiteralBytesUptoRow, standIns := [], harness := (true, "70f95b1259bcb2b39d7112445e9e3c241bc11f54a9f7ad7d4e7285932a40e792"), looks := false }, kinds := [], alts := [], laidByText := true, laidKinds := [.called, .called, .zero], laidTests := true, laidLooks := .later }
def FnLiteralBytesUptoCardSaid : Prop := Claim7.holds Tryd.pinned (.plain (OpenSpec.upto fnLiteralBytesSpec)) fnLiteralBytesUptoCard

/-- THE SECOND FORM's CARD OF 'laws.FnResolv'. -/
def fnResolvUptoCard : Claim7 := { stood := { row := fnResolvUptoRow, standIns := [], harness := (true, "70f95b1259bcb2b39d7112445e9e3c241bc11f54a9f7ad7d4e7285932a40e792"), looks := false }, kinds := [], alts := [], laidByText := true, laidKinds := [.called, .called, .zero], laidTests := true, laidLooks := .later }
def FnResolvUptoCardSaid : Prop := Claim7.holds Tryd.pinned (.plain (OpenSpec.upto fnResolvSpec)) fnResolvUptoCard

/-- THE SECOND FORM's CARD OF 'laws.FnSearchLast'. -/
def fnSearchLastUptoCard : Claim7 := { stood := { row := fnSearchLastUptoRow, standIns := [], harness := (true, "70f95b1259bcb2b39d7112445e9e3c241bc11f54a9f7ad7d4e7285932a40e792"), looks := false }, kinds := [], alts := [], laidByText := true, laidKinds := [.called, .called, .zero], laidTests := true, laidLooks := .later }
def FnSearchLastUptoCardSaid : Prop := Claim7.holds Tryd.pinned (.plain (OpenSpec.upto fnSearchLastSpec)) fnSearchLastUptoCard
end Rows
end Go.Proofs.YtfkohahlpfejbaaDoor
