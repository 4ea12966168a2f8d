/-
  THE WALK of FnCIDR, joined.
-/
import Derived.Test.YtfkohahlpfejbaaDoorCidS
import Derived.Test.YtfkohahlpfejbaaDoorCidL
import Derived.Test.YtfkohahlpfejbaaDoorCidL16
namespace Go.Proofs.YtfkohahlpfejbaaDoor
open Go.RowKit

theorem pl.cidr_some (l b : List UInt8) (n : Nat) (h : pl.cidr l = some (b, n)) : (b.length = 4 ∨ b.length = 16) ∧ n ≤ 8 * b.length := by
  rcases pl.cidr_cases l with ⟨_, h2⟩ | ⟨_, ⟨_, h2⟩ | ⟨b', ha, ⟨_, h2⟩ | ⟨n', _, ⟨_, h2⟩ | ⟨hn, h2⟩⟩⟩⟩
  all_goals rw [h] at h2
  all_goals first | cases h2 | skip
  exact ⟨pl.addr_len _ _ ha, hn⟩

set_option maxRecDepth 100000 in
set_option maxHeartbeats 2000000 in
theorem cid_law (g4 o4 g6 o6 : Nat) (s : ByteArray) (w : World) (hI : IpVars w g4 o4 g6 o6) :
    Calls Tryd.prog 7 #[.string s] w fun e w' => e = .returned (.bool true) ∧ Below w.heap.size w w' := by
  by_cases hs : 2147483647 < s.size
  · go_enter Tryd.func7, Tryd.ntmps7
    go_wp2_with fail
    go_ret
    exact ⟨rfl, Below.refl _ _⟩
  · have hs2 : s.size ≤ 2147483648 := by omega
    obtain ⟨r, hr, HSD⟩ := said_det s hs2
    cases r with
    | false => exact cidl_un s w (by omega) HSD
    | true =>
      obtain ⟨h37, h7⟩ := hr rfl
      have him := fun W (hW : Below w.heap.size w W) => icidr_sp g4 o4 g6 o6 s W hs2 (hI.below hW (Nat.le_refl _)) h37 h7
      have hsp := fun W => cspec_sp s W hs2
      cases hc : pl.cidr s.data.toList with
      | none =>
        refine cidl_no s w (by omega) HSD (Lib.hid fun W => (hsp W).mono fun e w' ⟨hb, hr⟩ => ?_) (Lib.hid fun W hW => ici_no s W (him W hW) hc)
        rcases hr with ⟨_, h⟩ | ⟨b, n, v, h, _⟩
        · exact ⟨h, hb⟩
        · rw [hc] at h; cases h
      | some bn =>
        obtain ⟨b, n⟩ := bn
        obtain ⟨hbl, hn⟩ := pl.cidr_some _ _ _ hc
        have hspy : ∀ L, b.length = L → ∀ W, Below w.heap.size w W → Calls Tryd.prog 26 #[.string s] W fun e w' => ∃ a c, e = .returned (.tuple #[.slice a L c, .int .i64 (n : Int), .bool true]) ∧ Hid (Reads w' (.slice a L c) b) ∧ Hid (Below W.heap.size W w') := fun L hL W _ => (hsp W).mono fun e w' ⟨hb, hr⟩ => by
          rcases hr with ⟨h, _⟩ | ⟨b', n', v, h, _, _, he, hR⟩
          · rw [hc] at h; cases h
          · rw [hc] at h
            injection h with h
            injection h with e1 e2
            subst e1 e2 hL
            have hR' := hR.out
            obtain ⟨a, c, rfl, _⟩ := hR.out
            exact ⟨_, _, he, Lib.hid hR', hb⟩
        rcases hbl with hb | hb
        · refine cidl_4 s b n w (by omega) hb (by omega) (Lib.hid fun W _ => HSD.out W) (Lib.hid (hspy 4 hb)) (Lib.hid fun W hW => ?_)
          have h := ici_yes s b n 4 W (him W hW) hc hb
          have hlong : pl.long b = pl.pre12 ++ b := by unfold pl.long; rw [if_pos hb]
          rw [hlong] at h
          exact h
        · refine cidl_16 s b n w (by omega) hb (by omega) (Lib.hid fun W _ => HSD.out W) (Lib.hid (hspy 16 hb)) (Lib.hid fun W hW => ?_)
          have h := ici_yes s b n 16 W (him W hW) hc hb
          have hlong : pl.long b = b := by unfold pl.long; rw [if_neg (by omega)]
          rw [hlong] at h
          exact h

theorem walk_FnCIDR (s : ByteArray) (W : World) (_hs : s.size ≤ maxLen) (hL : laidMetH Tryd.prog Rows.fnCIDRRow.laid W) :
    Calls Tryd.prog 7 #[.string s] W fun e w' => e = .returned (.bool true) ∧ Below W.heap.size W w' := by
  rw [MakeChecks.laidMetH_plain _ _ _ (by kernel_rfl)] at hL
  obtain ⟨g4, o4, g6, o6, hI⟩ := ip_of_laid hL
  exact cid_law g4 o4 g6 o6 s W hI

end Go.Proofs.YtfkohahlpfejbaaDoor
