/-
  WALKS: Digit, xtoi; the thin package's Dtoi and Xtoi.
-/
import Derived.Test.YtfkohahlpfejbaaDoorNum
namespace Go.Proofs.YtfkohahlpfejbaaDoor
open Go.RowKit

/-- what Digit returns -/
theorem dig_sp (b : UInt8) (w : World) :
    Calls Tryd.prog 62 #[.int .u8 b.toNat] w fun e w' => e = .returned (.tuple #[.int .i64 ((pl.hexv b).getD 0 : Nat), .bool (pl.hexv b).isSome]) ∧ w = w' := by
  have hby := UInt8.toNat_lt b
  have HE := pl.hexv_cases b
  obtain ⟨x, hx⟩ : ∃ x : Int, (b.toNat : Int) = x := ⟨_, rfl⟩
  rw [hx] at HE ⊢
  have hx0 : 0 ≤ x := by omega
  have hx1 : x < 256 := by omega
  clear hx
  rcases HE with ⟨HE, h1, h2⟩ | ⟨HE, h1, h2⟩ | ⟨HE, h1, h2⟩ | ⟨HE, h1⟩ | ⟨HE, h1, h2⟩ | ⟨HE, h1, h2⟩ | ⟨HE, h1⟩
  all_goals
    go_enter Tryd.func62, Tryd.ntmps62
    go_wp2
    go_ret2
    exact ⟨ret_ib HE.1.out.symm HE.2.out.symm, rfl⟩

end Go.Proofs.YtfkohahlpfejbaaDoor
