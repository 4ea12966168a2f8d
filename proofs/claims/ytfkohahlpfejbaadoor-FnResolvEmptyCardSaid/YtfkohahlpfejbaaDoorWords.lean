/-
  WALKS: Words of the reference; the statements' same.
-/
import Derived.Test.YtfkohahlpfejbaaDoorIdx
import Derived.Test.YtfkohahlpfejbaaDoorMem
import Derived.Test.YtfkohahlpfejbaaDoorPlWords
import Derived.Test.YtfkohahlpfejbaaDoorHost2
namespace Go.Proofs.YtfkohahlpfejbaaDoor
open Go.RowKit

theorem has_val' (s t : ByteArray) (b : Bool) (w : World) (hs : s.size ≤ 17592186044416) (ht : t.size ≤ 17592186044416) (h : pl.has s.data.toList t.data.toList = b) :
    Calls Tryd.prog 35 #[.string s, .string t] w fun e w' => e = .returned (.bool b) ∧ ∃ n, w' = w.drewN n := by
  rw [← h]; exact has_any s t w hs ht

theorem Strs.drewN {w : World} {B : Nat} {v : Value} {l : List (List UInt8)} (h : Strs w B v l) (n : Nat) : Strs (w.drewN n) B v l := h.below (below_drewN (Below.refl _ _) _)

end Go.Proofs.YtfkohahlpfejbaaDoor
