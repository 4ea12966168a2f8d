/-
  WALKS: the laws FnDecimal, FnHexadecimal.
-/
import Derived.Test.YtabeklpllphiaaaHex
import Derived.Test.YtabeklpllphiaaaHost2
import Derived.Test.YtabeklpllphiaaaPlHostLaw
namespace Go.Proofs.Ytabeklpllphiaaa
open Go.RowKit

theorem app_data (a b : ByteArray) : (a ++ b).data.toList = a.data.toList ++ b.data.toList := by simp [ByteArray.data_append]

theorem dig_val (b : UInt8) (d : Nat) (o : Bool) (w : World) (h1 : (pl.hexv b).getD 0 = d) (h2 : (pl.hexv b).isSome = o) :
    Calls Try.prog 38 #[.int .u8 b.toNat] w fun e w' => e = .returned (.tuple #[.int .i64 d, .bool o]) ∧ w = w' := by
  rw [← h1, ← h2]; exact dig_sp b w

end Go.Proofs.Ytabeklpllphiaaa
