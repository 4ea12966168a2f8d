/-
  WALKS: IP.Mask at a mask of the address's length.
-/
import Derived.Test.YtlgohaoplbiedaaAnd
import Derived.RegionTactic
import Derived.WalkSmall
namespace Go.Proofs.Ytlgohaoplbiedaa
open Go.RowKit

set_option maxRecDepth 100000 in
set_option maxHeartbeats 4000000 in
theorem ipm_4 (vb vm : Value) (b m : List UInt8) (w : World) (hb : Reads w vb b) (hm : Reads w vm m) (hL : b.length = 4) (hl : m.length = 4) :
    Calls Try.prog 51 #[vb, vm] w fun e w' => ∃ v, e = .returned v ∧ Byts w' w.heap.size v (pl.and b m) ∧ Below w.heap.size w w' := by
  obtain ⟨i0, hi, hz0, hz1, hz2⟩ := info_parts infoByte
  obtain ⟨ab, cb, rfl, hb1, hb2, hb0, hb3⟩ := hb
  obtain ⟨am, cm, rfl, hm1, hm2, hm0, hm3⟩ := hm
  have hand := pl.and_len b m (by omega)
  rw [hL] at hand
  have hrow0 : pl.rowOf ((pl.and b m).take 0) 4 = List.replicate 4 0 := by simp [pl.rowOf]
  have HB := Lib.hid hb3
  have HM := Lib.hid hm3
  rw [hl, hL]
  have HL := Lib.hid hl
  have HB' := Lib.hid hL
  have HA := Lib.hid hand
  have HR := Lib.hid hrow0
  clear hb3 hm3 hb0 hm0 hm1 hb1 hl hL hand hrow0
  go_enter Try.func51, Try.ntmps51
  go_wp2_with fail
  go_quiet (fail)
  go_wp2_with (at_make; refine wpList_make_full _ rfl _ _ 53 rfl w.heap.size 5 i0 (.int .u8 0) 1 Try.underlying53 hi hz0 hz1 _ _ _ _ 4 rfl rfl rfl rfl (by rw [hz2]; omega) (by unfold maxLen; omega) (by simp) ?_)
  intro w1 hown1 hg1
  have hbel1 : Below w.heap.size w w1 := (show Below w.heap.size w (w.drewN nq) from below_drewN (Below.refl _ _) nq).grown hg1 (Nat.le_refl _) (fun k hk => by simp at hk)
  have hby1 := Byts.made hown1
  rw [← HR.out] at hby1
  clear hown1 hg1
  go_wp2_with fail
  go_loopw [7] (fun iv wr => ∃ k : Nat, k ≤ 4 ∧ iv = .int .i64 k ∧ Byts wr w.heap.size (.slice (some ⟨w.heap.size, 0, none⟩) 4 4) (pl.rowOf ((pl.and b m).take k) 4) ∧ Below w.heap.size w wr) (fun iv _ => 4 - (intOf iv).toNat)
  case atStart => exact ⟨0, by omega, rfl, hby1, hbel1⟩
  case round =>
    obtain ⟨k, hk, rfl, hown, hbel⟩ := hrel
    by_cases hlt : k < 4
    · obtain ⟨x, hx⟩ : ∃ x, b[k]? = some x := ⟨_, List.getElem?_eq_getElem (by have := HB'.out; omega)⟩
      obtain ⟨y, hy⟩ : ∃ y, m[k]? = some y := ⟨_, List.getElem?_eq_getElem (by have := HL.out; omega)⟩
      obtain ⟨g1, o1, rfl, hg1, hc1⟩ := HB.out k x hx
      obtain ⟨g2, o2, rfl, hg2, hc2⟩ := HM.out k y hy
      have hc1' : wr.cell? ⟨g1, o1 + k, none⟩ = some (.int .u8 (x.toNat : Int)) := by rw [below_cell hbel _ _ hg1]; exact hc1
      have hc2' : wr.cell? ⟨g2, o2 + k, none⟩ = some (.int .u8 (y.toNat : Int)) := by rw [below_cell hbel _ _ hg2]; exact hc2
      have hxb := UInt8.toNat_lt x
      have hyb := UInt8.toNat_lt y
      have hsz := hbel.size
      have hlen : (pl.rowOf ((pl.and b m).take k) 4).length = 4 := pl.rowOf_len _ 4 (by rw [List.length_take, HA.out]; omega)
      obtain ⟨old, hcell⟩ := hown.cell hlen k hlt
      have hfr := hown.frozen hlen k
      have hset := hown.set hlen k (x &&& y)
      have hrs := pl.rowOf_set ((pl.and b m).take k) 4 (x &&& y) (by rw [List.length_take, HA.out]; omega)
      rw [show ((pl.and b m).take k).length = k by rw [List.length_take, HA.out]; omega, ← pl.and_succ b m k x y hx hy] at hrs
      rw [hrs] at hset
      have hand := pl.and_bits x y
      have HS := Lib.hid hset
      have HN := Lib.hid hand
      have HX := Lib.hid hx
      have HY := Lib.hid hy
      have HC1 := Lib.hid hc1
      have HC2 := Lib.hid hc2
      clear hset hlen hrs hx hy hc1 hc2 hand
      go_wp2_with fail
      go_region
      rw [HN.out]
      go_wp2_with fail
      go_roundw
      case rel => exact ⟨k + 1, by omega, by go_num, HS.out, (hbel.setCell (Nat.le_refl _) _).drew⟩
      case measure => simp [intOf]; omega
    · have hke : k = 4 := by omega
      subst hke
      rw [List.take_of_length_le (by rw [HA.out]; omega)] at hown
      have hf := pl.rowOf_full (pl.and b m)
      rw [HA.out] at hf
      rw [hf] at hown
      clear hf
      go_wp2_with fail
      go_ret
      exact ⟨_, rfl, hown, hbel⟩

set_option maxRecDepth 100000 in
set_option maxHeartbeats 4000000 in
theorem ipm_16 (vb vm : Value) (b m : List UInt8) (w : World) (hb : Reads w vb b) (hm : Reads w vm m) (hL : b.length = 16) (hl : m.length = 16) :
    Calls Try.prog 51 #[vb, vm] w fun e w' => ∃ v, e = .returned v ∧ Byts w' w.heap.size v (pl.and b m) ∧ Below w.heap.size w w' := by
  obtain ⟨i0, hi, hz0, hz1, hz2⟩ := info_parts infoByte
  obtain ⟨ab, cb, rfl, hb1, hb2, hb0, hb3⟩ := hb
  obtain ⟨am, cm, rfl, hm1, hm2, hm0, hm3⟩ := hm
  have hand := pl.and_len b m (by omega)
  rw [hL] at hand
  have hrow0 : pl.rowOf ((pl.and b m).take 0) 16 = List.replicate 16 0 := by simp [pl.rowOf]
  have HB := Lib.hid hb3
  have HM := Lib.hid hm3
  rw [hl, hL]
  have HL := Lib.hid hl
  have HB' := Lib.hid hL
  have HA := Lib.hid hand
  have HR := Lib.hid hrow0
  clear hb3 hm3 hb0 hm0 hm1 hb1 hl hL hand hrow0
  go_enter Try.func51, Try.ntmps51
  go_wp2_with fail
  go_quiet (fail)
  go_wp2_with (at_make; refine wpList_make_full _ rfl _ _ 53 rfl w.heap.size 5 i0 (.int .u8 0) 1 Try.underlying53 hi hz0 hz1 _ _ _ _ 16 rfl rfl rfl rfl (by rw [hz2]; omega) (by unfold maxLen; omega) (by simp) ?_)
  intro w1 hown1 hg1
  have hbel1 : Below w.heap.size w w1 := (show Below w.heap.size w (w.drewN nq) from below_drewN (Below.refl _ _) nq).grown hg1 (Nat.le_refl _) (fun k hk => by simp at hk)
  have hby1 := Byts.made hown1
  rw [← HR.out] at hby1
  clear hown1 hg1
  go_wp2_with fail
  go_loopw [7] (fun iv wr => ∃ k : Nat, k ≤ 16 ∧ iv = .int .i64 k ∧ Byts wr w.heap.size (.slice (some ⟨w.heap.size, 0, none⟩) 16 16) (pl.rowOf ((pl.and b m).take k) 16) ∧ Below w.heap.size w wr) (fun iv _ => 16 - (intOf iv).toNat)
  case atStart => exact ⟨0, by omega, rfl, hby1, hbel1⟩
  case round =>
    obtain ⟨k, hk, rfl, hown, hbel⟩ := hrel
    by_cases hlt : k < 16
    · obtain ⟨x, hx⟩ : ∃ x, b[k]? = some x := ⟨_, List.getElem?_eq_getElem (by have := HB'.out; omega)⟩
      obtain ⟨y, hy⟩ : ∃ y, m[k]? = some y := ⟨_, List.getElem?_eq_getElem (by have := HL.out; omega)⟩
      obtain ⟨g1, o1, rfl, hg1, hc1⟩ := HB.out k x hx
      obtain ⟨g2, o2, rfl, hg2, hc2⟩ := HM.out k y hy
      have hc1' : wr.cell? ⟨g1, o1 + k, none⟩ = some (.int .u8 (x.toNat : Int)) := by rw [below_cell hbel _ _ hg1]; exact hc1
      have hc2' : wr.cell? ⟨g2, o2 + k, none⟩ = some (.int .u8 (y.toNat : Int)) := by rw [below_cell hbel _ _ hg2]; exact hc2
      have hxb := UInt8.toNat_lt x
      have hyb := UInt8.toNat_lt y
      have hsz := hbel.size
      have hlen : (pl.rowOf ((pl.and b m).take k) 16).length = 16 := pl.rowOf_len _ 16 (by rw [List.length_take, HA.out]; omega)
      obtain ⟨old, hcell⟩ := hown.cell hlen k hlt
      have hfr := hown.frozen hlen k
      have hset := hown.set hlen k (x &&& y)
      have hrs := pl.rowOf_set ((pl.and b m).take k) 16 (x &&& y) (by rw [List.length_take, HA.out]; omega)
      rw [show ((pl.and b m).take k).length = k by rw [List.length_take, HA.out]; omega, ← pl.and_succ b m k x y hx hy] at hrs
      rw [hrs] at hset
      have hand := pl.and_bits x y
      have HS := Lib.hid hset
      have HN := Lib.hid hand
      have HX := Lib.hid hx
      have HY := Lib.hid hy
      have HC1 := Lib.hid hc1
      have HC2 := Lib.hid hc2
      clear hset hlen hrs hx hy hc1 hc2 hand
      go_wp2_with fail
      go_region
      rw [HN.out]
      go_wp2_with fail
      go_roundw
      case rel => exact ⟨k + 1, by omega, by go_num, HS.out, (hbel.setCell (Nat.le_refl _) _).drew⟩
      case measure => simp [intOf]; omega
    · have hke : k = 16 := by omega
      subst hke
      rw [List.take_of_length_le (by rw [HA.out]; omega)] at hown
      have hf := pl.rowOf_full (pl.and b m)
      rw [HA.out] at hf
      rw [hf] at hown
      clear hf
      go_wp2_with fail
      go_ret
      exact ⟨_, rfl, hown, hbel⟩

end Go.Proofs.Ytlgohaoplbiedaa
