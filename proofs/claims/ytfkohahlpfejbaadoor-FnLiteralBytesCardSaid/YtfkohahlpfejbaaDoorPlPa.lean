/-
  PLAIN: which reader an address goes to.
-/
import Derived.Test.YtfkohahlpfejbaaDoorPlTrip
namespace Go.Proofs.YtfkohahlpfejbaaDoor.pl

theorem addr_dot (p r : List UInt8) (hp : ∀ y ∈ p, isB 58 y = false) (h46 : ∀ y ∈ p, isB 46 y = false) : addr (p ++ 46 :: r) = four (p ++ 46 :: r) := by
  cases hf : four (p ++ 46 :: r) with
  | some l => unfold addr; rw [hf]
  | none =>
    rw [← rest6_all _ hf]
    by_cases h0 : p = []
    · subst h0; exact rest6_dot0 _ _ _
    · have hg : ∀ q, hexG (p ++ 46 :: q) = none := fun q => hexG_char _ 46 (by simp) (by decide)
      rcases first_at 58 r with hr | ⟨q, x, r', rfl, hq, hx⟩
      · refine rest6_bad1 [] none _ (fun y hy => ?_) (hg _) hf
        rcases List.mem_append.1 hy with hy | hy
        · exact hp y hy
        · rcases List.mem_cons.1 hy with rfl | hy
          · decide
          · exact hr y hy
      · rw [(isC x).1 hx, show p ++ 46 :: (q ++ 58 :: r') = (p ++ 46 :: q) ++ 58 :: r' by simp]
        refine rest6_bad2 [] none (p ++ 46 :: q) r' (fun y hy => ?_) (hg _) (.inl (by simp))
        rcases List.mem_append.1 hy with hy | hy
        · exact hp y hy
        · rcases List.mem_cons.1 hy with rfl | hy
          · decide
          · exact hq y hy
theorem addr_plain (s : List UInt8) (h58 : ∀ y ∈ s, isB 58 y = false) (h46 : ∀ y ∈ s, isB 46 y = false) : addr s = none := by
  have hf := four_one s h46
  rw [← rest6_all _ hf]
  cases hg : hexG s with
  | none => exact rest6_bad1 [] none s h58 hg hf
  | some b =>
    have hok : okG s := by
      unfold hexG at hg
      split at hg
      · assumption
      · cases hg
    rw [rest6_end [] none s hok]
    rfl

end Go.Proofs.YtfkohahlpfejbaaDoor.pl
