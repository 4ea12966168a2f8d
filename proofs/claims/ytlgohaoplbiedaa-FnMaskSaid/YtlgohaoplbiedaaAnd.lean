/-
  WALKS: the reference's And.
-/
import Derived.Test.YtlgohaoplbiedaaByt
import Derived.Test.YtlgohaoplbiedaaPlMask
import Derived.Deep.AppendLies
import Derived.Deep.RegionHeld3
import Derived.Laws.BitsLemmas
namespace Go.Proofs.Ytlgohaoplbiedaa
open Go.RowKit

theorem pl.and_bits (x y : UInt8) : bits BinOp.and .u8 (x.toNat : Int) (y.toNat : Int) = ((x &&& y).toNat : Int) := by
  rw [(bits_nat .u8 8 (by decide) wraps_u8 x.toNat y.toNat (UInt8.toNat_lt x) (UInt8.toNat_lt y)).1, UInt8.toNat_and]

theorem grown_below {w wr w1 : World} {ob : Obj} {v : Value} {l : List UInt8} (hb : Below w.heap.size w wr) (hown : Byts wr w.heap.size v l) (hg : (wr.alloc ob).drew.grownBy w1 v.ownBlock) : Below w.heap.size w w1 := by
  have hsz := hb.size
  exact (hb.alloc hsz ob).drew.grown hg (by simp; omega) (fun k hk => ((World.ownsRow.lt hown) k hk).1)

set_option maxRecDepth 100000 in
set_option maxHeartbeats 4000000 in
theorem and_sp (vb vm : Value) (b m : List UInt8) (w : World) (hb : Reads w vb b) (hm : Reads w vm m) (hl : b.length = m.length) (h16 : b.length ≤ 16) :
    Calls Try.prog 37 #[vb, vm] w fun e w' => ∃ v, e = .returned v ∧ Byts w' w.heap.size v (pl.and b m) ∧ Below w.heap.size w w' := by
  obtain ⟨i0, hi, hz0, hz1, hz2⟩ := info_parts infoByte
  obtain ⟨ab, cb, rfl, hb1, hb2, hb0, hb3⟩ := hb
  obtain ⟨am, cm, rfl, hm1, hm2, hm0, hm3⟩ := hm
  have HB := Lib.hid hb3
  have HM := Lib.hid hm3
  clear hb3 hm3 hb0 hm0
  go_enter Try.func37, Try.ntmps37
  go_wp2_with fail
  go_loopw [5, 9] (fun v iv wr => ∃ i : Nat, i ≤ b.length ∧ iv = .int .i64 i ∧ Byts wr w.heap.size v ((pl.and b m).take i) ∧ Below w.heap.size w wr) (fun _ iv _ => b.length - (intOf iv).toNat)
  case atStart => exact ⟨0, by omega, rfl, Byts.nil _ _, Below.refl _ _⟩
  case round =>
    obtain ⟨i, hk, rfl, hown, hbel⟩ := hrel
    by_cases hlt : i < b.length
    · obtain ⟨x, hx⟩ : ∃ x, b[i]? = some x := ⟨_, List.getElem?_eq_getElem hlt⟩
      obtain ⟨y, hy⟩ : ∃ y, m[i]? = some y := ⟨_, List.getElem?_eq_getElem (by omega)⟩
      obtain ⟨g1, o1, rfl, hg1, hc1⟩ := HB.out i x hx
      obtain ⟨g2, o2, rfl, hg2, hc2⟩ := HM.out i y hy
      have hc1' : wr.cell? ⟨g1, o1 + i, none⟩ = some (.int .u8 (x.toNat : Int)) := by rw [below_cell hbel _ _ hg1]; exact hc1
      have hc2' : wr.cell? ⟨g2, o2 + i, none⟩ = some (.int .u8 (y.toNat : Int)) := by rw [below_cell hbel _ _ hg2]; exact hc2
      have hxb := UInt8.toNat_lt x
      have hyb := UInt8.toNat_lt y
      have hsz := hbel.size
      have hlt1 : ((pl.and b m).take i).length = i := by rw [List.length_take, pl.and_len _ _ hl]; omega
      have hand := pl.and_bits x y
      have hsucc := pl.and_succ b m i x y hx hy
      have hownI : wr.ownsRow w.heap.size 5 1 u5 i (((pl.and b m).take i).map pl.byteV) := by have h := hown; unfold Byts at h; rw [hlt1] at h; exact h
      have hlm : i < m.length := by omega
      have HX := Lib.hid hx
      have HY := Lib.hid hy
      have HA := Lib.hid hand
      have HS := Lib.hid hsucc
      have HL := Lib.hid hlt1
      have HC1 := Lib.hid hc1
      have HC2 := Lib.hid hc2
      have HLEN := Lib.hid hl
      clear hx hy hc1 hc2 hand hsucc hlt1 hl
      go_wp2_with fail
      go_region_held3 (fun w' => w'.cell? ⟨g1, o1 + i, none⟩ = some (.int .u8 (x.toNat : Int)) ∧ w'.cell? ⟨g2, o2 + i, none⟩ = some (.int .u8 (y.toNat : Int))) (first | exact ⟨hk1, hk2⟩ | go_keep) ((refine step_append_lies _ (by rfl) _ _ _ (by rfl) w.heap.size 5 i0 (.int .u8 0) 1 1 (by kernel_rfl) hi hz0 hz1 hz2 rfl (by decide) _ _ _ (by rfl) (World.ownsRow.alloc hownI _) ⟨wr.heap.size, 0, none⟩ 1 1 [pl.byteV (x &&& y)] (by rfl) rfl (by rw [HA.out]; exact cell_one_new _ _ _) (by intro u hu; rw [List.mem_singleton] at hu; subst hu; rfl) (by decide) (by unfold maxLen; omega) (by omega) (by simp; omega) _ rfl ?_; intro g cap w1 hown1 hgrow hat hlt; have hbel1 := grown_below hbel hown hgrow; have hk1 : w1.cell? ⟨g1, o1 + i, none⟩ = some (.int .u8 (x.toNat : Int)) := by { rw [below_cell hbel1 _ _ hg1]; exact HC1.out }; have hk2 : w1.cell? ⟨g2, o2 + i, none⟩ = some (.int .u8 (y.toNat : Int)) := by { rw [below_cell hbel1 _ _ hg2]; exact HC2.out }; clear hat hlt hgrow))
      have hby : Byts w1 w.heap.size (.slice (some ⟨g, 0, none⟩) (i + 1) cap) ((pl.and b m).take (i + 1)) := by
        rw [HS.out]
        unfold Byts
        rw [List.length_append, HL.out, List.map_append]
        exact hown1
      have HBY := Lib.hid hby
      clear hby hown1
      go_wp2_with fail
      go_roundw
      case rel => exact ⟨i + 1, by omega, by go_num, HBY.out, hbel1⟩
      case measure => simp [intOf]; omega
    · have hie : i = b.length := by omega
      subst hie
      rw [List.take_of_length_le (by rw [pl.and_len _ _ hl]; omega)] at hown
      go_wp2_with fail
      go_ret
      exact ⟨_, rfl, hown, hbel⟩

end Go.Proofs.Ytlgohaoplbiedaa
