/-
  PLAIN: numbers in a base.
-/
import Derived.Test.YtabeklpllphiaaaPlMac
namespace Go.Proofs.Ytabeklpllphiaaa.pl

def numF : Nat → Nat → Nat → List UInt8
  | 0, _, _ => []
  | f + 1, b, n => (if n / b = 0 then [] else numF f b (n / b)) ++ [hx (n % b)]
def num (b n : Nat) : List UInt8 := numF 64 b n

theorem numF_more (b : Nat) (hb : 2 ≤ b) : ∀ (f g n : Nat), n < 2 ^ f → n < 2 ^ g → 1 ≤ f → 1 ≤ g → numF f b n = numF g b n
  | 0, _, _, _, _, h, _ => absurd h (by omega)
  | _ + 1, 0, _, _, _, _, h => absurd h (by omega)
  | f + 1, g + 1, n, hf, hg, _, _ => by
    show (if n / b = 0 then [] else numF f b (n / b)) ++ _ = (if n / b = 0 then [] else numF g b (n / b)) ++ _
    by_cases h0 : n / b = 0
    · rw [if_pos h0, if_pos h0]
    · rw [if_neg h0, if_neg h0]
      have h2 : n / b ≤ n / 2 := Nat.div_le_div_left hb (by omega)
      have hf' : n / b < 2 ^ f := by rw [Nat.pow_succ] at hf; omega
      have hg' : n / b < 2 ^ g := by rw [Nat.pow_succ] at hg; omega
      have f1 : 1 ≤ f := by
        rcases f with _ | f
        · have := Nat.pos_of_ne_zero h0; rw [Nat.pow_zero] at hf'; omega
        · omega
      have g1 : 1 ≤ g := by
        rcases g with _ | g
        · have := Nat.pos_of_ne_zero h0; rw [Nat.pow_zero] at hg'; omega
        · omega
      rw [numF_more b hb f g (n / b) hf' hg' f1 g1]

theorem num_step (b n : Nat) (hb : 2 ≤ b) (hn : n < 2 ^ 63) : num b n = (if n / b = 0 then [] else num b (n / b)) ++ [hx (n % b)] := by
  show (if n / b = 0 then [] else numF 63 b (n / b)) ++ _ = _
  by_cases h0 : n / b = 0
  · rw [if_pos h0, if_pos h0]
  · rw [if_neg h0, if_neg h0]
    have h2 : n / b ≤ n := Nat.div_le_self _ _
    rw [show num b (n / b) = numF 64 b (n / b) from rfl, numF_more b hb 63 64 (n / b) (by omega) (by omega) (by omega) (by omega)]

/-- what the loop has at its head -/
def numHead (b n m : Nat) (acc : List UInt8) : Prop := (acc = [] ∧ m = n) ∨ (acc ≠ [] ∧ num b n = (if m = 0 then [] else num b m) ++ acc)

theorem numHead_step (b n m : Nat) (acc : List UInt8) (hb : 2 ≤ b) (hm : m < 2 ^ 63) (h : numHead b n m acc) (hgo : 0 < m ∨ acc = []) : numHead b n (m / b) (hx (m % b) :: acc) := by
  right
  refine ⟨by simp, ?_⟩
  rcases h with ⟨rfl, rfl⟩ | ⟨ha, hn⟩
  · exact num_step b m hb hm
  · rcases hgo with h0 | h0
    · rw [hn, if_neg (by omega), num_step b m hb hm, List.append_assoc]
      rfl
    · exact absurd h0 ha
theorem numHead_end (b n : Nat) (acc : List UInt8) (h : numHead b n 0 acc) (ha : acc ≠ []) : acc = num b n := by
  rcases h with ⟨h, _⟩ | ⟨_, h⟩
  · exact absurd h ha
  · rw [h]; simp

end Go.Proofs.Ytabeklpllphiaaa.pl
