/-
  WALKS: CIDRMask.
-/
import Derived.Test.YtlgohaoplbiedaaByt
import Derived.Test.YtlgohaoplbiedaaPlMask
namespace Go.Proofs.Ytlgohaoplbiedaa
open Go.RowKit

set_option maxRecDepth 100000 in
set_option maxHeartbeats 4000000 in
theorem cm_4 (ones : Nat) (w : World) (ho : ones ≤ 32) :
    Calls Try.prog 50 #[.int .i64 (ones : Int), .int .i64 32] w fun e w' => ∃ v, e = .returned v ∧ Byts w' w.heap.size v (pl.mask ones 4) ∧ Below w.heap.size w w' := by
  obtain ⟨i0, hi, hz0, hz1, hz2⟩ := info_parts infoByte
  have hoB : (ones : Int) ≤ 32 := by omega
  go_enter Try.func50, Try.ntmps50
  go_wp2_with (at_make; refine wpList_make_full _ rfl _ _ 51 rfl w.heap.size 5 i0 (.int .u8 0) 1 Try.underlying51 hi hz0 hz1 _ _ _ _ 4 rfl rfl rfl rfl (by rw [hz2]; omega) (by unfold maxLen; omega) (Nat.le_refl _) ?_)
  intro w1 hown1 hg1
  have hbel1 : Below w.heap.size w w1 := (Below.refl _ _).grown hg1 (Nat.le_refl _) (fun k hk => by simp at hk)
  have hby1 := Byts.made hown1
  clear hown1 hg1
  go_wp2_with fail
  go_loopw [7, 8] (fun nv i wr => ∃ k n : Nat, k ≤ 4 ∧ i = .int .i64 k ∧ nv = .int .u64 n ∧ Hid (n = ones - 8 * k) ∧ n ≤ 128 ∧ Byts wr w.heap.size (.slice (some ⟨w.heap.size, 0, none⟩) 4 4) (pl.rowOf ((pl.mask ones 4).take k) 4) ∧ Below w.heap.size w wr) (fun _ i _ => 4 - (intOf i).toNat)
  case atStart => exact ⟨0, ones, by omega, rfl, rfl, Lib.hid (by omega), by omega, by simpa [pl.rowOf] using hby1, hbel1⟩
  case round =>
    obtain ⟨k, n, hk, rfl, rfl, HN, hn, hrow, hbel⟩ := hrel
    by_cases hlt : k < 4
    · have hlen : (pl.rowOf ((pl.mask ones 4).take k) 4).length = 4 := pl.rowOf_len _ 4 (by rw [List.length_take, pl.mask_len]; omega)
      obtain ⟨old, hcell⟩ := hrow.cell hlen k hlt
      have hfr := hrow.frozen hlen k
      have hset := hrow.set hlen k (pl.hb n)
      rw [show pl.hb n = pl.hb (ones - 8 * k) by rw [HN.out], pl.mask_row ones 4 k hlt, ← HN.out] at hset
      have HS := Lib.hid hset
      clear hset hlen
      by_cases h8 : 8 ≤ n
      · have hv : pl.hb n = 255 := by unfold pl.hb; rw [if_pos h8]
        rw [hv] at HS
        clear hv
        go_wp2_with fail
        go_roundw
        case rel => exact ⟨k + 1, n - 8, by omega, by go_num, by go_num, Lib.hid (by rw [HN.out]; omega), by omega, HS.out, hbel.setCell (Nat.le_refl _) _⟩
        case measure => simp [intOf]; omega
      · have hn8 : n = 0 ∨ n = 1 ∨ n = 2 ∨ n = 3 ∨ n = 4 ∨ n = 5 ∨ n = 6 ∨ n = 7 := by omega
        rcases hn8 with rfl | rfl | rfl | rfl | rfl | rfl | rfl | rfl
        all_goals
          go_wp2_with fail
          go_roundw
          case rel => exact ⟨k + 1, 0, by omega, by go_num, by go_num, Lib.hid (by have := HN.out; omega), by omega, HS.out, hbel.setCell (Nat.le_refl _) _⟩
          case measure => simp [intOf]; omega
    · have hke : k = 4 := by omega
      subst hke
      rw [List.take_of_length_le (by rw [pl.mask_len]; omega)] at hrow
      have hf : pl.rowOf (pl.mask ones 4) 4 = pl.mask ones 4 := by have := pl.rowOf_full (pl.mask ones 4); rwa [pl.mask_len] at this
      rw [hf] at hrow
      clear hf
      go_wp2_with fail
      go_ret
      exact ⟨_, rfl, hrow, hbel⟩

set_option maxRecDepth 100000 in
set_option maxHeartbeats 4000000 in
theorem cm_16 (ones : Nat) (w : World) (ho : ones ≤ 128) :
    Calls Try.prog 50 #[.int .i64 (ones : Int), .int .i64 128] w fun e w' => ∃ v, e = .returned v ∧ Byts w' w.heap.size v (pl.mask ones 16) ∧ Below w.heap.size w w' := by
  obtain ⟨i0, hi, hz0, hz1, hz2⟩ := info_parts infoByte
  have hoB : (ones : Int) ≤ 128 := by omega
  go_enter Try.func50, Try.ntmps50
  go_wp2_with (at_make; refine wpList_make_full _ rfl _ _ 51 rfl w.heap.size 5 i0 (.int .u8 0) 1 Try.underlying51 hi hz0 hz1 _ _ _ _ 16 rfl rfl rfl rfl (by rw [hz2]; omega) (by unfold maxLen; omega) (Nat.le_refl _) ?_)
  intro w1 hown1 hg1
  have hbel1 : Below w.heap.size w w1 := (Below.refl _ _).grown hg1 (Nat.le_refl _) (fun k hk => by simp at hk)
  have hby1 := Byts.made hown1
  clear hown1 hg1
  go_wp2_with fail
  go_loopw [7, 8] (fun nv i wr => ∃ k n : Nat, k ≤ 16 ∧ i = .int .i64 k ∧ nv = .int .u64 n ∧ Hid (n = ones - 8 * k) ∧ n ≤ 128 ∧ Byts wr w.heap.size (.slice (some ⟨w.heap.size, 0, none⟩) 16 16) (pl.rowOf ((pl.mask ones 16).take k) 16) ∧ Below w.heap.size w wr) (fun _ i _ => 16 - (intOf i).toNat)
  case atStart => exact ⟨0, ones, by omega, rfl, rfl, Lib.hid (by omega), by omega, by simpa [pl.rowOf] using hby1, hbel1⟩
  case round =>
    obtain ⟨k, n, hk, rfl, rfl, HN, hn, hrow, hbel⟩ := hrel
    by_cases hlt : k < 16
    · have hlen : (pl.rowOf ((pl.mask ones 16).take k) 16).length = 16 := pl.rowOf_len _ 16 (by rw [List.length_take, pl.mask_len]; omega)
      obtain ⟨old, hcell⟩ := hrow.cell hlen k hlt
      have hfr := hrow.frozen hlen k
      have hset := hrow.set hlen k (pl.hb n)
      rw [show pl.hb n = pl.hb (ones - 8 * k) by rw [HN.out], pl.mask_row ones 16 k hlt, ← HN.out] at hset
      have HS := Lib.hid hset
      clear hset hlen
      by_cases h8 : 8 ≤ n
      · have hv : pl.hb n = 255 := by unfold pl.hb; rw [if_pos h8]
        rw [hv] at HS
        clear hv
        go_wp2_with fail
        go_roundw
        case rel => exact ⟨k + 1, n - 8, by omega, by go_num, by go_num, Lib.hid (by rw [HN.out]; omega), by omega, HS.out, hbel.setCell (Nat.le_refl _) _⟩
        case measure => simp [intOf]; omega
      · have hn8 : n = 0 ∨ n = 1 ∨ n = 2 ∨ n = 3 ∨ n = 4 ∨ n = 5 ∨ n = 6 ∨ n = 7 := by omega
        rcases hn8 with rfl | rfl | rfl | rfl | rfl | rfl | rfl | rfl
        all_goals
          go_wp2_with fail
          go_roundw
          case rel => exact ⟨k + 1, 0, by omega, by go_num, by go_num, Lib.hid (by have := HN.out; omega), by omega, HS.out, hbel.setCell (Nat.le_refl _) _⟩
          case measure => simp [intOf]; omega
    · have hke : k = 16 := by omega
      subst hke
      rw [List.take_of_length_le (by rw [pl.mask_len]; omega)] at hrow
      have hf : pl.rowOf (pl.mask ones 16) 16 = pl.mask ones 16 := by have := pl.rowOf_full (pl.mask ones 16); rwa [pl.mask_len] at this
      rw [hf] at hrow
      clear hf
      go_wp2_with fail
      go_ret
      exact ⟨_, rfl, hrow, hbel⟩

end Go.Proofs.Ytlgohaoplbiedaa
