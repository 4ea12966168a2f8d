/-
  PLAIN: masks.
-/
import Derived.Test.YtlgohaoplbiedaaPlMac3
namespace Go.Proofs.Ytlgohaoplbiedaa

/-- so many ones ahead in a byte -/
def pl.hb (n : Nat) : UInt8 := if 8 ≤ n then 255 else UInt8.ofNat (255 - 255 / 2 ^ n)
def pl.mask (ones L : Nat) : List UInt8 := (List.range L).map (fun i => pl.hb (ones - 8 * i))

theorem pl.mask_len (ones L : Nat) : (pl.mask ones L).length = L := by simp [pl.mask]

theorem pl.mask_zero (L : Nat) : pl.mask 0 L = List.replicate L 0 := by
  unfold pl.mask
  apply List.ext_getElem
  · simp
  · intro i h1 h2
    simp [pl.hb]

theorem pl.mask_at (ones L q : Nat) (h : q < L) : (pl.mask ones L)[q]? = some (pl.hb (ones - 8 * q)) := by
  unfold pl.mask
  rw [List.getElem?_map, List.getElem?_range h]; rfl

/-- the package's way: byte after byte -/
theorem pl.mask_row (ones L k : Nat) (hk : k < L) : (pl.rowOf ((pl.mask ones L).take k) L).set k (pl.hb (ones - 8 * k)) = pl.rowOf ((pl.mask ones L).take (k + 1)) L := by
  have hl : ((pl.mask ones L).take k).length = k := by rw [List.length_take, pl.mask_len]; omega
  have h := pl.rowOf_set ((pl.mask ones L).take k) L (pl.hb (ones - 8 * k)) (by omega)
  rw [hl] at h
  rw [h, List.take_add_one, pl.mask_at ones L k hk]
  rfl

theorem pl.hb_bit (r : Nat) (hr : r < 8) : pl.hb (r + 1) = pl.hb r ||| (128 >>> UInt8.ofNat r) := by
  have : ∀ r : Fin 8, pl.hb (r.val + 1) = pl.hb r.val ||| (128 >>> UInt8.ofNat r.val) := by decide
  exact this ⟨r, hr⟩

/-- the reference's way: one after the other -/
theorem pl.mask_succ (i L q r : Nat) (hi : i = 8 * q + r) (hr : r < 8) (hq : q < L) : (pl.mask i L).set q (pl.hb (r + 1)) = pl.mask (i + 1) L := by
  apply List.ext_getElem?
  intro j
  by_cases hj : j < L
  · rw [List.getElem?_set, pl.mask_at _ _ _ hj, pl.mask_at _ _ _ hj, pl.mask_len]
    by_cases hqj : q = j
    · subst hqj
      rw [if_pos rfl, if_pos hq]
      congr 2
      omega
    · rw [if_neg hqj]
      congr 1
      rcases Nat.lt_or_gt_of_ne hqj with h | h
      · rw [show i - 8 * j = 0 by omega, show i + 1 - 8 * j = 0 by omega]
      · have h1 : 8 ≤ i - 8 * j := by omega
        have h2 : 8 ≤ i + 1 - 8 * j := by omega
        unfold pl.hb
        rw [if_pos h1, if_pos h2]
  · rw [List.getElem?_eq_none (by rw [List.length_set, pl.mask_len]; omega), List.getElem?_eq_none (by rw [pl.mask_len]; omega)]

/-- what a mask leaves -/
def pl.and (b m : List UInt8) : List UInt8 := List.zipWith (· &&& ·) b m

theorem pl.and_succ (b m : List UInt8) (k : Nat) (x y : UInt8) (hx : b[k]? = some x) (hy : m[k]? = some y) : (pl.and b m).take (k + 1) = (pl.and b m).take k ++ [x &&& y] := by
  have : (pl.and b m)[k]? = some (x &&& y) := by
    unfold pl.and
    rw [List.getElem?_zipWith, hx, hy]
  rw [List.take_add_one, this]; rfl

theorem pl.and_len (b m : List UInt8) (h : b.length = m.length) : (pl.and b m).length = b.length := by
  unfold pl.and; simp; omega

end Go.Proofs.Ytlgohaoplbiedaa
