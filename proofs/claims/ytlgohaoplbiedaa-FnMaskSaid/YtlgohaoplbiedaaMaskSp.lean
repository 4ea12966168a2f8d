/-
  WALKS: the reference's Mask.
-/
import Derived.Test.YtlgohaoplbiedaaByt
import Derived.Test.YtlgohaoplbiedaaPlMask
namespace Go.Proofs.Ytlgohaoplbiedaa
open Go.RowKit

set_option maxRecDepth 100000 in
set_option maxHeartbeats 4000000 in
theorem msk_sp (ones L : Nat) (w : World) (hL : L ≤ 16) (ho : ones ≤ 8 * L) :
    Calls Try.prog 35 #[.int .i64 (ones : Int), .int .i64 (L : Int)] w fun e w' => ∃ v, e = .returned v ∧ Byts w' w.heap.size v (pl.mask ones L) ∧ Below w.heap.size w w' := by
  obtain ⟨i0, hi, hz0, hz1, hz2⟩ := info_parts infoByte
  go_enter Try.func35, Try.ntmps35
  go_wp2_with (at_make; refine wpList_make_full _ rfl _ _ 41 rfl w.heap.size 5 i0 (.int .u8 0) 1 Try.underlying41 hi hz0 hz1 _ _ _ _ L rfl rfl rfl rfl (by rw [hz2]; omega) (by unfold maxLen; omega) (Nat.le_refl _) ?_)
  intro w1 hown1 hg1
  have hbel1 : Below w.heap.size w w1 := (Below.refl _ _).grown hg1 (Nat.le_refl _) (fun k hk => by simp at hk)
  have hby1 := Byts.made (n := L) (by rw [Nat.mul_one]; exact hown1)
  rw [← pl.mask_zero] at hby1
  clear hown1 hg1
  go_wp2_with fail
  go_loopw [10] (fun iv wr => ∃ i : Nat, i ≤ ones ∧ iv = .int .i64 i ∧ Byts wr w.heap.size (.slice (some ⟨w.heap.size, 0, none⟩) L L) (pl.mask i L) ∧ Below w.heap.size w wr) (fun iv _ => ones - (intOf iv).toNat)
  case atStart => exact ⟨0, by omega, rfl, hby1, hbel1⟩
  case round =>
    obtain ⟨i, hk, rfl, hrow, hbel⟩ := hrel
    by_cases hlt : i < ones
    · obtain ⟨q, r, hq, hr, hiq⟩ : ∃ q r, q < L ∧ r < 8 ∧ i = 8 * q + r := ⟨i / 8, i % 8, by omega, by omega, by omega⟩
      have hlen := pl.mask_len i L
      have hat := pl.mask_at i L q hq
      rw [show i - 8 * q = r by omega] at hat
      have hcell : wr.cell? ⟨w.heap.size, q, none⟩ = some (.int .u8 ((pl.hb r).toNat : Int)) := by
        have := World.ownsRow.cellAt (by have h := hrow; unfold Byts at h; rw [hlen] at h; exact h) q (by omega)
        rw [this, List.getElem?_map, hat]; rfl
      have hfr := hrow.frozen hlen q
      have hset := hrow.set hlen q (pl.hb (r + 1))
      rw [pl.mask_succ i L q r hiq hr hq] at hset
      have HS := Lib.hid hset
      have t1 : Int.tdiv (i : Int) 8 = (q : Int) := by rw [Int.tdiv_eq_ediv_of_nonneg (by omega)]; omega
      have t2 : Int.tmod (i : Int) 8 = (r : Int) := by rw [Int.tmod_eq_emod_of_nonneg (by omega)]; omega
      have q0 : (0 : Int) ≤ (q : Int) := by omega
      have q1 : (q : Int) < (L : Int) := by omega
      have HQ := Lib.hid hiq
      clear hset hlen hat hiq
      have hr8 : r = 0 ∨ r = 1 ∨ r = 2 ∨ r = 3 ∨ r = 4 ∨ r = 5 ∨ r = 6 ∨ r = 7 := by omega
      rcases hr8 with rfl | rfl | rfl | rfl | rfl | rfl | rfl | rfl
      all_goals
        go_wp2_with fail
        go_region
        go_wp2_with fail
        go_roundw
        case rel => exact ⟨i + 1, by omega, by go_num, HS.out, (hbel.setCell (Nat.le_refl _) _).drew⟩
        case measure => simp [intOf]; omega
    · have hie : i = ones := by omega
      subst hie
      go_wp2_with fail
      go_ret
      exact ⟨_, rfl, hrow, hbel⟩

end Go.Proofs.Ytlgohaoplbiedaa
