/-
  PLAIN: reading an address of hardware.
-/
import Derived.Test.YtlgohaoplbiedaaPlMac
import Derived.Test.YtlgohaoplbiedaaPlNum
namespace Go.Proofs.Ytlgohaoplbiedaa

def pl.pair (a b : UInt8) : Option UInt8 := match pl.hexv a, pl.hexv b with
  | some x, some y => some (UInt8.ofNat (x * 16 + y))
  | _, _ => none

theorem pl.xt_pair (a b : UInt8) : (pl.pair a b = none ∧ ∃ (v : UInt8) (i : Nat) (k : Bool), pl.xt [a, b] 0 0 = (v.toNat, i, k) ∧ i < 2) ∨ (∃ u, pl.pair a b = some u ∧ pl.xt [a, b] 0 0 = (u.toNat, 2, true)) := by
  unfold pl.pair
  cases ha : pl.hexv a with
  | none => exact Or.inl ⟨rfl, 0, 0, false, by simp [pl.xt, ha], by omega⟩
  | some x =>
    have hx := pl.hexv_lt a x ha
    cases hb : pl.hexv b with
    | none => 
      have e1 : (UInt8.ofNat x).toNat = x := by rw [UInt8.toNat_ofNat']; omega
      refine Or.inl ⟨rfl, UInt8.ofNat x, 1, true, ?_, by omega⟩
      rw [pl.xt, ha]
      simp only []
      rw [if_neg (by omega), pl.xt, hb]
      simp only []
      rw [if_neg (by omega), e1, Nat.zero_mul, Nat.zero_add]
    | some y =>
      have hy := pl.hexv_lt b y hb
      have e1 : (UInt8.ofNat (x * 16 + y)).toNat = x * 16 + y := by rw [UInt8.toNat_ofNat']; omega
      refine Or.inr ⟨_, rfl, ?_⟩
      rw [pl.xt, ha]
      simp only []
      rw [if_neg (by omega), pl.xt, hb]
      simp only []
      rw [if_neg (by omega), pl.xt, if_neg (by omega), e1, Nat.zero_mul, Nat.zero_add]

def pl.x2 : List UInt8 → UInt8 → Option UInt8
  | [a, b], _ => pl.pair a b
  | a :: b :: c :: _, e => if c = e then pl.pair a b else none
  | _, _ => none

theorem pl.x2_long (s : ByteArray) (e : UInt8) (h : 2 < s.size) : pl.x2 s.data.toList e = if s[2] = e then pl.pair s[0] s[1] else none := by
  obtain ⟨d⟩ := s
  obtain ⟨l⟩ := d
  match l, h with
  | a :: b :: c :: t, _ => rfl

theorem pl.x2_short (s : ByteArray) (e : UInt8) (h : s.size = 2) : pl.x2 s.data.toList e = pl.pair s[0] s[1] := by
  obtain ⟨d⟩ := s
  obtain ⟨l⟩ := d
  match l, h with
  | [a, b], _ => rfl

theorem pl.head2 (s : ByteArray) (h : 2 ≤ s.size) : (s.extract 0 2).data.toList = [s[0], s[1]] := by
  obtain ⟨d⟩ := s
  obtain ⟨l⟩ := d
  match l, h with
  | a :: b :: t, _ => simp; exact ⟨rfl, rfl⟩

end Go.Proofs.Ytlgohaoplbiedaa
