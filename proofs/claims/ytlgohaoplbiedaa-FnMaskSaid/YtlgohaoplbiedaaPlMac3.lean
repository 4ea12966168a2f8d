/-
  PLAIN: the three forms of an address of hardware, as the package reads them.
-/
import Derived.Test.YtlgohaoplbiedaaPlMac2
namespace Go.Proofs.Ytlgohaoplbiedaa

def pl.g1 (c : UInt8) : Nat → List UInt8 → Option (List UInt8)
  | 0, _ => some []
  | n + 1, t => (pl.x2 t c).bind fun u => (pl.g1 c n (t.drop 3)).map (u :: ·)

def pl.g2 (d : UInt8) : Nat → List UInt8 → Option (List UInt8)
  | 0, _ => some []
  | n + 1, t => (pl.x2 (t.take 2) 0).bind fun u => (pl.x2 (t.drop 2) d).bind fun v => (pl.g2 d n (t.drop 5)).map (fun r => u :: v :: r)

def pl.g3 : Nat → List UInt8 → Option (List UInt8)
  | 0, _ => some []
  | n + 1, t => (pl.x2 (t.take 2) 0).bind fun u => (pl.g3 n (t.drop 2)).map (u :: ·)

def pl.ok (n : Nat) : Bool := n == 6 || n == 8 || n == 20

def pl.mac (s : List UInt8) : Option (List UInt8) :=
  if s.length < 12 then none
  else if s.getD 2 0 = 58 ∨ s.getD 2 0 = 45 then (if (s.length + 1) % 3 = 0 ∧ pl.ok ((s.length + 1) / 3) = true then pl.g1 (s.getD 2 0) ((s.length + 1) / 3) s else none)
  else if s.getD 4 0 = 46 then (if (s.length + 1) % 5 = 0 ∧ pl.ok (2 * (s.length + 1) / 5) = true then pl.g2 46 ((s.length + 1) / 5) s else none)
  else (if s.length % 2 = 0 ∧ pl.ok (s.length / 2) = true then pl.g3 (s.length / 2) s else none)

/-- the row so far -/
def pl.rowOf (acc : List UInt8) (n : Nat) : List UInt8 := acc ++ List.replicate (n - acc.length) 0

theorem pl.rowOf_set (acc : List UInt8) (n : Nat) (u : UInt8) (h : acc.length < n) : (pl.rowOf acc n).set acc.length u = pl.rowOf (acc ++ [u]) n := by
  unfold pl.rowOf
  obtain ⟨m, hm⟩ : ∃ m, n - acc.length = m + 1 := ⟨n - acc.length - 1, by omega⟩
  have h2 : n - (acc ++ [u]).length = m := by simp; omega
  rw [h2, hm, List.replicate_succ, List.set_append_right _ _ (Nat.le_refl _), Nat.sub_self, List.set_cons_zero, List.append_assoc]
  rfl

theorem pl.rowOf_len (acc : List UInt8) (n : Nat) (h : acc.length ≤ n) : (pl.rowOf acc n).length = n := by
  unfold pl.rowOf; simp; omega

theorem pl.rowOf_full (acc : List UInt8) : pl.rowOf acc acc.length = acc := by unfold pl.rowOf; simp

theorem pl.ok_cases (n : Nat) : (pl.ok n = true ∧ (n = 6 ∨ n = 8 ∨ n = 20)) ∨ (pl.ok n = false ∧ n ≠ 6 ∧ n ≠ 8 ∧ n ≠ 20) := by
  unfold pl.ok
  by_cases h1 : n = 6
  · left; subst h1; decide
  by_cases h2 : n = 8
  · left; subst h2; decide
  by_cases h3 : n = 20
  · left; subst h3; decide
  · right; simp [h1, h2, h3]

theorem pl.tail_of (s : ByteArray) (x : Nat) : (s.extract x s.size).data.toList = s.data.toList.drop x := by
  obtain ⟨d⟩ := s
  obtain ⟨l⟩ := d
  simp only [ByteArray.data_extract, Array.toList_extract, List.extract_eq_take_drop, ByteArray.size]
  exact List.take_of_length_le (by simp)

theorem pl.mid_of (s : ByteArray) (x y : Nat) : (s.extract x y).data.toList = (s.data.toList.drop x).take (y - x) := by
  obtain ⟨d⟩ := s
  obtain ⟨l⟩ := d
  simp only [ByteArray.data_extract, Array.toList_extract, List.extract_eq_take_drop]

/-- one group more: fine -/
theorem pl.g1_step (c u : UInt8) (s : List UInt8) (n k : Nat) (acc : List UInt8) (R : Option (List UInt8)) (hk : k < n) (h : R = (pl.g1 c (n - k) (s.drop (3 * k))).map (acc ++ ·)) (hx : pl.x2 (s.drop (3 * k)) c = some u) :
    R = (pl.g1 c (n - (k + 1)) (s.drop (3 * (k + 1)))).map ((acc ++ [u]) ++ ·) := by
  obtain ⟨m, hm⟩ : ∃ m, n - k = m + 1 := ⟨n - k - 1, by omega⟩
  rw [h, hm, show n - (k + 1) = m by omega, pl.g1, hx, Option.bind_some, List.drop_drop, show 3 * k + 3 = 3 * (k + 1) by omega, Option.map_map]
  congr 1
  funext r
  simp

theorem pl.g1_fail (c : UInt8) (s : List UInt8) (n k : Nat) (acc : List UInt8) (R : Option (List UInt8)) (hk : k < n) (h : R = (pl.g1 c (n - k) (s.drop (3 * k))).map (acc ++ ·)) (hx : pl.x2 (s.drop (3 * k)) c = none) : R = none := by
  obtain ⟨m, hm⟩ : ∃ m, n - k = m + 1 := ⟨n - k - 1, by omega⟩
  rw [h, hm, pl.g1, hx]; rfl

theorem pl.g1_end (c : UInt8) (s : List UInt8) (n : Nat) (acc : List UInt8) (R : Option (List UInt8)) (h : R = (pl.g1 c (n - n) (s.drop (3 * n))).map (acc ++ ·)) : R = some acc := by
  rw [h, Nat.sub_self, pl.g1]; simp

theorem pl.g3_step (u : UInt8) (s : List UInt8) (n k : Nat) (acc : List UInt8) (R : Option (List UInt8)) (hk : k < n) (h : R = (pl.g3 (n - k) (s.drop (2 * k))).map (acc ++ ·)) (hx : pl.x2 ((s.drop (2 * k)).take 2) 0 = some u) :
    R = (pl.g3 (n - (k + 1)) (s.drop (2 * (k + 1)))).map ((acc ++ [u]) ++ ·) := by
  obtain ⟨m, hm⟩ : ∃ m, n - k = m + 1 := ⟨n - k - 1, by omega⟩
  rw [h, hm, show n - (k + 1) = m by omega, pl.g3, hx, Option.bind_some, List.drop_drop, show 2 * k + 2 = 2 * (k + 1) by omega, Option.map_map]
  congr 1
  funext r
  simp

theorem pl.g3_fail (s : List UInt8) (n k : Nat) (acc : List UInt8) (R : Option (List UInt8)) (hk : k < n) (h : R = (pl.g3 (n - k) (s.drop (2 * k))).map (acc ++ ·)) (hx : pl.x2 ((s.drop (2 * k)).take 2) 0 = none) : R = none := by
  obtain ⟨m, hm⟩ : ∃ m, n - k = m + 1 := ⟨n - k - 1, by omega⟩
  rw [h, hm, pl.g3, hx]; rfl

theorem pl.g3_end (s : List UInt8) (n : Nat) (acc : List UInt8) (R : Option (List UInt8)) (h : R = (pl.g3 (n - n) (s.drop (2 * n))).map (acc ++ ·)) : R = some acc := by
  rw [h, Nat.sub_self, pl.g3]; simp

theorem pl.g2_step (d u v : UInt8) (s : List UInt8) (n k : Nat) (acc : List UInt8) (R : Option (List UInt8)) (hk : k < n) (h : R = (pl.g2 d (n - k) (s.drop (5 * k))).map (acc ++ ·)) (hx : pl.x2 ((s.drop (5 * k)).take 2) 0 = some u) (hy : pl.x2 ((s.drop (5 * k)).drop 2) d = some v) :
    R = (pl.g2 d (n - (k + 1)) (s.drop (5 * (k + 1)))).map ((acc ++ [u] ++ [v]) ++ ·) := by
  obtain ⟨m, hm⟩ : ∃ m, n - k = m + 1 := ⟨n - k - 1, by omega⟩
  rw [h, hm, show n - (k + 1) = m by omega, pl.g2, hx, Option.bind_some, hy, Option.bind_some, List.drop_drop, show 5 * k + 5 = 5 * (k + 1) by omega, Option.map_map]
  congr 1
  funext r
  simp

theorem pl.g2_fail1 (d : UInt8) (s : List UInt8) (n k : Nat) (acc : List UInt8) (R : Option (List UInt8)) (hk : k < n) (h : R = (pl.g2 d (n - k) (s.drop (5 * k))).map (acc ++ ·)) (hx : pl.x2 ((s.drop (5 * k)).take 2) 0 = none) : R = none := by
  obtain ⟨m, hm⟩ : ∃ m, n - k = m + 1 := ⟨n - k - 1, by omega⟩
  rw [h, hm, pl.g2, hx]; rfl

theorem pl.g2_fail2 (d u : UInt8) (s : List UInt8) (n k : Nat) (acc : List UInt8) (R : Option (List UInt8)) (hk : k < n) (h : R = (pl.g2 d (n - k) (s.drop (5 * k))).map (acc ++ ·)) (hx : pl.x2 ((s.drop (5 * k)).take 2) 0 = some u) (hy : pl.x2 ((s.drop (5 * k)).drop 2) d = none) : R = none := by
  obtain ⟨m, hm⟩ : ∃ m, n - k = m + 1 := ⟨n - k - 1, by omega⟩
  rw [h, hm, pl.g2, hx, Option.bind_some, hy]; rfl

theorem pl.g2_end (d : UInt8) (s : List UInt8) (n : Nat) (acc : List UInt8) (R : Option (List UInt8)) (h : R = (pl.g2 d (n - n) (s.drop (5 * n))).map (acc ++ ·)) : R = some acc := by
  rw [h, Nat.sub_self, pl.g2]; simp

end Go.Proofs.Ytlgohaoplbiedaa
