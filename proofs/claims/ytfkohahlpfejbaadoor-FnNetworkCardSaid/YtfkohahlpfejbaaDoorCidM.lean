/-
  WALK: IP.Mask at an address of 16 bytes and a mask of 4.
-/
import Derived.Test.YtfkohahlpfejbaaDoorCid1
namespace Go.Proofs.YtfkohahlpfejbaaDoor
open Go.RowKit

theorem Byts.lower {w : World} {B B' : Nat} {v : Value} {l : List UInt8} (h : Byts w B v l) (hb : B' ≤ B) : Byts w B' v l :=
  ⟨h.1, h.2.imp id (fun ⟨g, cap, cur, h1, h2, h3⟩ => ⟨g, cap, cur, h1, Nat.le_trans hb h2, h3⟩)⟩
theorem wpAny_norm {P : Program} {md : Region.Mode} {ops : Array Oper} {Q : Exit → Act → World → Prop} {fuel : Nat} {l l' : Array Bool} {a a' : Act} {w : World} (hl : l = l') (ha : a = a') (h : wpAny P md ops Q fuel l' a' w) : wpAny P md ops Q fuel l a w := by
  subst hl ha; exact h

set_option maxRecDepth 100000 in
set_option maxHeartbeats 2000000 in
theorem ipm_64 (g : Nat) (vm : Value) (b m : List UInt8) (w : World) (hb : Reads w (.slice (some ⟨g, 0, none⟩) 16 16) (pl.pre12 ++ b)) (hm : Reads w vm m) (hL : b.length = 4) (hl : m.length = 4) :
    Calls Tryd.prog 56 #[.slice (some ⟨g, 0, none⟩) 16 16, vm] w fun e w' => ∃ v, e = .returned v ∧ Byts w' w.heap.size v (pl.and b m) ∧ Below w.heap.size w w' := by
  obtain ⟨i0, hi, hz0, hz1, hz2⟩ := info_parts infoByte
  have hb12 := hb.take 12 (by decide)
  have hb4 := hb.drop 12 (by decide)
  rw [show (pl.pre12 ++ b).take 12 = pl.pre12 from rfl] at hb12
  rw [show (pl.pre12 ++ b).drop 12 = b from rfl] at hb4
  have HB12 := Lib.hid hb12
  have HBM := Lib.hid hm
  have HBB := Lib.hid hb4
  obtain ⟨ab, cb, he, hb1, hb2, hb0, hb3⟩ := hb4
  obtain ⟨am, cm, rfl, hm1, hm2, hm0, hm3⟩ := hm
  have hand := pl.and_len b m (by omega)
  rw [hL] at hand
  have hrow0 : pl.rowOf ((pl.and b m).take 0) 4 = List.replicate 4 0 := by simp [pl.rowOf]
  rw [hl] at HBM ⊢
  have HL := Lib.hid hl
  have HB' := Lib.hid hL
  have HA := Lib.hid hand
  have HR := Lib.hid hrow0
  clear hb3 hm3 hb0 hm0 hm1 hb1 hl hL hand hrow0 he hb2 hb12 hb
  go_enter Tryd.func56, Tryd.ntmps56
  go_wp2_with fail
  refine wp_region_any (by kernel_rfl) ?_
  try (change wpAny _ _ _ _ _ _ _ (World.drew _))
  refine wpAny_take (i := 0) (v := ?_) rfl (by kernel_rfl) (by kernel_rfl) (by kernel_rfl) (fun _ _ _ h => h) (Or.inl ⟨by kernel_rfl, ?_⟩) ?_
  rotate_left 1
  · intro w; go_simp; try with_reducible rfl
  refine wpAny_take (i := 1) (v := ?_) rfl (by kernel_rfl) (by kernel_rfl) (by kernel_rfl) (fun _ _ _ h => h) (Or.inl ⟨by kernel_rfl, ?_⟩) ?_
  rotate_left 1
  · intro w; go_simp; try with_reducible rfl
  refine wpAny_take (i := 2) (v := ?_) rfl (by kernel_rfl) (by kernel_rfl) (by kernel_rfl) (fun _ _ _ h => h) (Or.inl ⟨by kernel_rfl, ?_⟩) ?_
  rotate_left 1
  · intro w; go_simp; try with_reducible rfl
  refine wpAny_take (i := 3) (v := ?_) rfl (by kernel_rfl) (by kernel_rfl) (by kernel_rfl) (fun _ _ _ h => h) (Or.inl ⟨by kernel_rfl, ?_⟩) ?_
  rotate_left 1
  · intro w; go_simp; try with_reducible rfl
  refine wpAny_take (i := 4) (v := ?_) rfl (by kernel_rfl) (by kernel_rfl) (by kernel_rfl) (fun _ _ _ h => h) (Or.inl ⟨by kernel_rfl, ?_⟩) ?_
  rotate_left 1
  · intro w; go_simp; try with_reducible rfl
  refine wpAny_take (i := 5) (v := ?_) rfl (by kernel_rfl) (by kernel_rfl) (by kernel_rfl) (fun _ _ _ h => h) (Or.inl ⟨by kernel_rfl, ?_⟩) ?_
  rotate_left 1
  · intro w; go_simp; try with_reducible rfl
  refine wpAny_take (i := 6) (v := ?_) rfl (by kernel_rfl) (by kernel_rfl) (by kernel_rfl) (fun _ _ _ h => h) (Or.inl ⟨by kernel_rfl, ?_⟩) ?_
  rotate_left 1
  · intro w; go_simp; try with_reducible rfl
  refine wpAny_take (i := 7) (v := ?_) rfl (by kernel_rfl) (by kernel_rfl) (by kernel_rfl) (fun _ _ _ h => h) (Or.inl ⟨by kernel_rfl, ?_⟩) ?_
  rotate_left 1
  · intro w; go_simp; try with_reducible rfl
  refine wpAny_take (i := 8) (v := ?_) rfl (by kernel_rfl) (by kernel_rfl) (by kernel_rfl) (fun _ _ _ h => h) (Or.inl ⟨by kernel_rfl, ?_⟩) ?_
  rotate_left 1
  · intro w; go_simp; try with_reducible rfl
  refine wpAny_take (i := 9) (v := ?_) rfl (by kernel_rfl) (by kernel_rfl) (by kernel_rfl) (fun _ _ _ h => h) (Or.inl ⟨by kernel_rfl, ?_⟩) ?_
  rotate_left 1
  · intro w; go_simp; try with_reducible rfl
  refine wpAny_norm (l' := #[true, true, true, true, true, true, true, true, true, true, false, false, false, false]) (a' := { tmps := #[.slice (some ⟨g, 0, none⟩) 16 16, .slice am 4 cm, undef, undef, .slice none 0 0, undef, undef, undef, .slice am 4 cm, .int .i64 4, .bool false, .bool false, undef, undef, undef, .bool false, .bool false, undef, undef, undef, .bool false, undef, undef, .slice am 4 cm, .int .i64 4, .bool true, .bool true, .slice (some ⟨g, 0, none⟩) 16 16, .int .i64 16, .bool true, .bool true, .bool true, .slice (some ⟨g, 0, none⟩) 16 16, undef, undef, undef, undef, undef, undef, undef, undef, undef, undef, undef, undef, undef, undef, undef, undef, undef, undef, undef, undef, undef, undef, undef, undef, undef, undef, undef, undef, undef, undef, undef, undef], defers := [] }) (by kernel_rfl) (by kernel_rfl) ?_
  refine wpAny_ready (rs := [10, 11]) (by kernel_rfl) (by simp) ?_
  refine AllReady.cons rfl (fun K hK => ?_) (AllReady.cons rfl (fun K hK => ?_) AllReady.nil)
  · go_simp
    refine hK _ _ ?_
    clear hK K
    refine wpAny_norm (l' := #[true, true, true, true, true, true, true, true, true, true, true, false, false, false]) (a' := { tmps := #[.slice (some ⟨g, 0, none⟩) 16 16, .slice am 4 cm, undef, undef, .slice none 0 0, undef, undef, undef, .slice am 4 cm, .int .i64 4, .bool false, .bool false, undef, undef, undef, .bool false, .bool false, undef, undef, undef, .bool false, undef, undef, .slice am 4 cm, .int .i64 4, .bool true, .bool true, .slice (some ⟨g, 0, none⟩) 16 16, .int .i64 16, .bool true, .bool true, .bool true, .slice (some ⟨g, 0, none⟩) 16 16, .slice (some ⟨g, 0, none⟩) 12 16, undef, undef, undef, undef, undef, undef, undef, undef, undef, undef, undef, undef, undef, undef, undef, undef, undef, undef, undef, undef, undef, undef, undef, undef, undef, undef, undef, undef, undef, undef, undef], defers := [] }) (by kernel_rfl) (by kernel_rfl) ?_
    refine wpAny_ready (rs := [11]) (by kernel_rfl) (by simp) ?_
    refine AllReady.cons rfl (fun K hK => ?_) AllReady.nil
    go_simp
    refine (v4p_sp _).mono ?_
    rintro e w3 ⟨v3, rfl, hV2, hV3⟩
    have hx3 : Below w.heap.size w w3 := (below_drewN (Below.refl _ _) 1).trans hV3
    have HV2 := Lib.hid hV2
    have HV3 := Lib.hid hx3
    clear hV2 hV3 hx3
    refine hK _ _ ?_
    clear hK K
    refine wpAny_norm (l' := #[true, true, true, true, true, true, true, true, true, true, true, true, false, false]) (a' := { tmps := #[.slice (some ⟨g, 0, none⟩) 16 16, .slice am 4 cm, undef, undef, .slice none 0 0, undef, undef, undef, .slice am 4 cm, .int .i64 4, .bool false, .bool false, undef, undef, undef, .bool false, .bool false, undef, undef, undef, .bool false, undef, undef, .slice am 4 cm, .int .i64 4, .bool true, .bool true, .slice (some ⟨g, 0, none⟩) 16 16, .int .i64 16, .bool true, .bool true, .bool true, .slice (some ⟨g, 0, none⟩) 16 16, .slice (some ⟨g, 0, none⟩) 12 16, v3, undef, undef, undef, undef, undef, undef, undef, undef, undef, undef, undef, undef, undef, undef, undef, undef, undef, undef, undef, undef, undef, undef, undef, undef, undef, undef, undef, undef, undef, undef], defers := [] }) (by kernel_rfl) (by kernel_rfl) ?_
    refine wpAny_ready (rs := [12]) (by kernel_rfl) (by simp) ?_
    refine AllReady.cons rfl (fun K hK => ?_) AllReady.nil
    go_simp
    refine (eqb_sp _ _ pl.pre12 pl.pre12 _ (HB12.out.below HV3.out) HV2.out true (by decide)).mono ?_
    rintro e w4 ⟨rfl, rfl⟩
    refine hK _ _ ?_
    clear hK K
    refine wpAny_norm (l' := #[true, true, true, true, true, true, true, true, true, true, true, true, true, false]) (a' := { tmps := #[.slice (some ⟨g, 0, none⟩) 16 16, .slice am 4 cm, undef, undef, .slice none 0 0, undef, undef, undef, .slice am 4 cm, .int .i64 4, .bool false, .bool false, undef, undef, undef, .bool false, .bool false, undef, undef, undef, .bool false, undef, undef, .slice am 4 cm, .int .i64 4, .bool true, .bool true, .slice (some ⟨g, 0, none⟩) 16 16, .int .i64 16, .bool true, .bool true, .bool true, .slice (some ⟨g, 0, none⟩) 16 16, .slice (some ⟨g, 0, none⟩) 12 16, v3, .bool true, undef, undef, undef, undef, undef, undef, undef, undef, undef, undef, undef, undef, undef, undef, undef, undef, undef, undef, undef, undef, undef, undef, undef, undef, undef, undef, undef, undef, undef], defers := [] }) (by kernel_rfl) (by kernel_rfl) ?_
    refine wpAny_ready (rs := [13]) (by kernel_rfl) (by simp) ?_
    refine AllReady.cons rfl (fun K hK => ?_) AllReady.nil
    go_simp
    refine hK _ _ ?_
    clear hK K
    refine wpAny_norm (l' := #[true, true, true, true, true, true, true, true, true, true, true, true, true, true]) (a' := { tmps := #[.slice (some ⟨g, 0, none⟩) 16 16, .slice am 4 cm, undef, undef, .slice none 0 0, undef, undef, undef, .slice am 4 cm, .int .i64 4, .bool false, .bool false, undef, undef, undef, .bool false, .bool false, undef, undef, undef, .bool false, undef, undef, .slice am 4 cm, .int .i64 4, .bool true, .bool true, .slice (some ⟨g, 0, none⟩) 16 16, .int .i64 16, .bool true, .bool true, .bool true, .slice (some ⟨g, 0, none⟩) 16 16, .slice (some ⟨g, 0, none⟩) 12 16, v3, .bool true, .bool true, undef, undef, undef, undef, undef, undef, undef, undef, undef, undef, undef, undef, undef, undef, undef, undef, undef, undef, undef, undef, undef, undef, undef, undef, undef, undef, undef, undef], defers := [] }) (by kernel_rfl) (by kernel_rfl) ?_
    refine wpAny_done (by kernel_rfl) ?_ _
    dsimp only
    obtain ⟨ab, cb, he, _, _, _, hb3⟩ := HBB.out.below HV3.out
    injection he with e1 e2 e3
    have hb3' : ∀ k x, b[k]? = some x → g < w3.heap.size ∧ w3.cell? ⟨g, 12 + k, none⟩ = some (.int .u8 (x.toNat : Int)) := fun k x hk => by
      obtain ⟨g', o', ha, hg, hc⟩ := hb3 k x hk
      rw [← e1] at ha
      injection ha with ha
      injection ha with d1 d2
      subst d1 d2
      rw [Nat.zero_add] at hc
      exact ⟨hg, hc⟩
    obtain ⟨a2, c2, he2, hm1, _, _, hm3⟩ := HBM.out.below HV3.out
    injection he2 with f1 f2 f3
    subst f1 f3
    have HB := Lib.hid hb3'
    have HM := Lib.hid hm3
    clear hb3 hb3' hm1 hm3 e1 e2 e3 f2
    go_wp2_with (at_make; refine wpList_make_full _ rfl _ _ 78 rfl w3.heap.size 5 i0 (.int .u8 0) 1 Tryd.underlying78 hi hz0 hz1 _ _ _ _ 4 rfl rfl rfl rfl (by rw [hz2]; omega) (by unfold maxLen; omega) (by simp) ?_)
    intro w1 hown1 hg1
    have hbel1 : Below w3.heap.size w3 w1 := (Below.refl _ _).grown hg1 (Nat.le_refl _) (fun k hk => by simp at hk)
    have hby1 := Byts.made hown1
    rw [← HR.out] at hby1
    clear hown1 hg1
    go_wp2_with fail
    go_loopw [7] (fun iv wr => ∃ k : Nat, k ≤ 4 ∧ iv = .int .i64 k ∧ Byts wr w3.heap.size (.slice (some ⟨w3.heap.size, 0, none⟩) 4 4) (pl.rowOf ((pl.and b m).take k) 4) ∧ Below w3.heap.size w3 wr) (fun iv _ => 4 - (intOf iv).toNat)
    case atStart => exact ⟨0, by omega, rfl, hby1, hbel1⟩
    case round =>
      obtain ⟨k, hk, rfl, hown, hbel⟩ := hrel
      by_cases hlt : k < 4
      · obtain ⟨x, hx⟩ : ∃ x, b[k]? = some x := ⟨_, List.getElem?_eq_getElem (by have := HB'.out; omega)⟩
        obtain ⟨y, hy⟩ : ∃ y, m[k]? = some y := ⟨_, List.getElem?_eq_getElem (by have := HL.out; omega)⟩
        obtain ⟨hg1, hc1⟩ := HB.out k x hx
        obtain ⟨g2, o2, rfl, hg2, hc2⟩ := HM.out k y hy
        have hc1' : wr.cell? ⟨g, 12 + k, none⟩ = some (.int .u8 (x.toNat : Int)) := by rw [below_cell hbel _ _ hg1]; exact hc1
        have hc2' : wr.cell? ⟨g2, o2 + k, none⟩ = some (.int .u8 (y.toNat : Int)) := by rw [below_cell hbel _ _ hg2]; exact hc2
        have hxb := UInt8.toNat_lt x
        have hyb := UInt8.toNat_lt y
        have hsz := hbel.size
        have hlen : (pl.rowOf ((pl.and b m).take k) 4).length = 4 := pl.rowOf_len _ 4 (by rw [List.length_take, HA.out]; omega)
        obtain ⟨old, hcell⟩ := hown.cell hlen k hlt
        have hfr := hown.frozen hlen k
        have hset := hown.set hlen k (x &&& y)
        have hrs := pl.rowOf_set ((pl.and b m).take k) 4 (x &&& y) (by rw [List.length_take, HA.out]; omega)
        rw [show ((pl.and b m).take k).length = k by rw [List.length_take, HA.out]; omega, ← pl.and_succ b m k x y hx hy] at hrs
        rw [hrs] at hset
        have hand := pl.and_bits x y
        have HS := Lib.hid hset
        have HN := Lib.hid hand
        have HX := Lib.hid hx
        have HY := Lib.hid hy
        have HC1 := Lib.hid hc1
        have HC2 := Lib.hid hc2
        clear hset hlen hrs hx hy hc1 hc2 hand
        go_wp2_with fail
        go_region
        rw [HN.out]
        go_wp2_with fail
        go_roundw
        case rel => exact ⟨k + 1, by omega, by go_num, HS.out, (hbel.setCell (Nat.le_refl _) _).drew⟩
        case measure => simp [intOf]; omega
      · have hke : k = 4 := by omega
        subst hke
        rw [List.take_of_length_le (by rw [HA.out]; omega)] at hown
        have hf := pl.rowOf_full (pl.and b m)
        rw [HA.out] at hf
        rw [hf] at hown
        clear hf
        go_wp2_with fail
        go_ret
        exact ⟨_, rfl, Byts.lower hown HV3.out.size, HV3.out.trans (hbel.mono HV3.out.size)⟩
  · go_simp
    refine (v4p_sp _).mono ?_
    rintro e w3 ⟨v3, rfl, hV2, hV3⟩
    have hx3 : Below w.heap.size w w3 := (below_drewN (Below.refl _ _) 1).trans hV3
    have HV2 := Lib.hid hV2
    have HV3 := Lib.hid hx3
    clear hV2 hV3 hx3
    refine hK _ _ ?_
    clear hK K
    refine wpAny_norm (l' := #[true, true, true, true, true, true, true, true, true, true, false, true, false, false]) (a' := { tmps := #[.slice (some ⟨g, 0, none⟩) 16 16, .slice am 4 cm, undef, undef, .slice none 0 0, undef, undef, undef, .slice am 4 cm, .int .i64 4, .bool false, .bool false, undef, undef, undef, .bool false, .bool false, undef, undef, undef, .bool false, undef, undef, .slice am 4 cm, .int .i64 4, .bool true, .bool true, .slice (some ⟨g, 0, none⟩) 16 16, .int .i64 16, .bool true, .bool true, .bool true, .slice (some ⟨g, 0, none⟩) 16 16, undef, v3, undef, undef, undef, undef, undef, undef, undef, undef, undef, undef, undef, undef, undef, undef, undef, undef, undef, undef, undef, undef, undef, undef, undef, undef, undef, undef, undef, undef, undef, undef], defers := [] }) (by kernel_rfl) (by kernel_rfl) ?_
    refine wpAny_ready (rs := [10]) (by kernel_rfl) (by simp) ?_
    refine AllReady.cons rfl (fun K hK => ?_) AllReady.nil
    go_simp
    refine hK _ _ ?_
    clear hK K
    refine wpAny_norm (l' := #[true, true, true, true, true, true, true, true, true, true, true, true, false, false]) (a' := { tmps := #[.slice (some ⟨g, 0, none⟩) 16 16, .slice am 4 cm, undef, undef, .slice none 0 0, undef, undef, undef, .slice am 4 cm, .int .i64 4, .bool false, .bool false, undef, undef, undef, .bool false, .bool false, undef, undef, undef, .bool false, undef, undef, .slice am 4 cm, .int .i64 4, .bool true, .bool true, .slice (some ⟨g, 0, none⟩) 16 16, .int .i64 16, .bool true, .bool true, .bool true, .slice (some ⟨g, 0, none⟩) 16 16, .slice (some ⟨g, 0, none⟩) 12 16, v3, undef, undef, undef, undef, undef, undef, undef, undef, undef, undef, undef, undef, undef, undef, undef, undef, undef, undef, undef, undef, undef, undef, undef, undef, undef, undef, undef, undef, undef, undef], defers := [] }) (by kernel_rfl) (by kernel_rfl) ?_
    refine wpAny_ready (rs := [12]) (by kernel_rfl) (by simp) ?_
    refine AllReady.cons rfl (fun K hK => ?_) AllReady.nil
    go_simp
    refine (eqb_sp _ _ pl.pre12 pl.pre12 _ (HB12.out.below HV3.out) HV2.out true (by decide)).mono ?_
    rintro e w4 ⟨rfl, rfl⟩
    refine hK _ _ ?_
    clear hK K
    refine wpAny_norm (l' := #[true, true, true, true, true, true, true, true, true, true, true, true, true, false]) (a' := { tmps := #[.slice (some ⟨g, 0, none⟩) 16 16, .slice am 4 cm, undef, undef, .slice none 0 0, undef, undef, undef, .slice am 4 cm, .int .i64 4, .bool false, .bool false, undef, undef, undef, .bool false, .bool false, undef, undef, undef, .bool false, undef, undef, .slice am 4 cm, .int .i64 4, .bool true, .bool true, .slice (some ⟨g, 0, none⟩) 16 16, .int .i64 16, .bool true, .bool true, .bool true, .slice (some ⟨g, 0, none⟩) 16 16, .slice (some ⟨g, 0, none⟩) 12 16, v3, .bool true, undef, undef, undef, undef, undef, undef, undef, undef, undef, undef, undef, undef, undef, undef, undef, undef, undef, undef, undef, undef, undef, undef, undef, undef, undef, undef, undef, undef, undef], defers := [] }) (by kernel_rfl) (by kernel_rfl) ?_
    refine wpAny_ready (rs := [13]) (by kernel_rfl) (by simp) ?_
    refine AllReady.cons rfl (fun K hK => ?_) AllReady.nil
    go_simp
    refine hK _ _ ?_
    clear hK K
    refine wpAny_norm (l' := #[true, true, true, true, true, true, true, true, true, true, true, true, true, true]) (a' := { tmps := #[.slice (some ⟨g, 0, none⟩) 16 16, .slice am 4 cm, undef, undef, .slice none 0 0, undef, undef, undef, .slice am 4 cm, .int .i64 4, .bool false, .bool false, undef, undef, undef, .bool false, .bool false, undef, undef, undef, .bool false, undef, undef, .slice am 4 cm, .int .i64 4, .bool true, .bool true, .slice (some ⟨g, 0, none⟩) 16 16, .int .i64 16, .bool true, .bool true, .bool true, .slice (some ⟨g, 0, none⟩) 16 16, .slice (some ⟨g, 0, none⟩) 12 16, v3, .bool true, .bool true, undef, undef, undef, undef, undef, undef, undef, undef, undef, undef, undef, undef, undef, undef, undef, undef, undef, undef, undef, undef, undef, undef, undef, undef, undef, undef, undef, undef], defers := [] }) (by kernel_rfl) (by kernel_rfl) ?_
    refine wpAny_done (by kernel_rfl) ?_ _
    dsimp only
    obtain ⟨ab, cb, he, _, _, _, hb3⟩ := HBB.out.below HV3.out
    injection he with e1 e2 e3
    have hb3' : ∀ k x, b[k]? = some x → g < w3.heap.size ∧ w3.cell? ⟨g, 12 + k, none⟩ = some (.int .u8 (x.toNat : Int)) := fun k x hk => by
      obtain ⟨g', o', ha, hg, hc⟩ := hb3 k x hk
      rw [← e1] at ha
      injection ha with ha
      injection ha with d1 d2
      subst d1 d2
      rw [Nat.zero_add] at hc
      exact ⟨hg, hc⟩
    obtain ⟨a2, c2, he2, hm1, _, _, hm3⟩ := HBM.out.below HV3.out
    injection he2 with f1 f2 f3
    subst f1 f3
    have HB := Lib.hid hb3'
    have HM := Lib.hid hm3
    clear hb3 hb3' hm1 hm3 e1 e2 e3 f2
    go_wp2_with (at_make; refine wpList_make_full _ rfl _ _ 78 rfl w3.heap.size 5 i0 (.int .u8 0) 1 Tryd.underlying78 hi hz0 hz1 _ _ _ _ 4 rfl rfl rfl rfl (by rw [hz2]; omega) (by unfold maxLen; omega) (by simp) ?_)
    intro w1 hown1 hg1
    have hbel1 : Below w3.heap.size w3 w1 := (Below.refl _ _).grown hg1 (Nat.le_refl _) (fun k hk => by simp at hk)
    have hby1 := Byts.made hown1
    rw [← HR.out] at hby1
    clear hown1 hg1
    go_wp2_with fail
    go_loopw [7] (fun iv wr => ∃ k : Nat, k ≤ 4 ∧ iv = .int .i64 k ∧ Byts wr w3.heap.size (.slice (some ⟨w3.heap.size, 0, none⟩) 4 4) (pl.rowOf ((pl.and b m).take k) 4) ∧ Below w3.heap.size w3 wr) (fun iv _ => 4 - (intOf iv).toNat)
    case atStart => exact ⟨0, by omega, rfl, hby1, hbel1⟩
    case round =>
      obtain ⟨k, hk, rfl, hown, hbel⟩ := hrel
      by_cases hlt : k < 4
      · obtain ⟨x, hx⟩ : ∃ x, b[k]? = some x := ⟨_, List.getElem?_eq_getElem (by have := HB'.out; omega)⟩
        obtain ⟨y, hy⟩ : ∃ y, m[k]? = some y := ⟨_, List.getElem?_eq_getElem (by have := HL.out; omega)⟩
        obtain ⟨hg1, hc1⟩ := HB.out k x hx
        obtain ⟨g2, o2, rfl, hg2, hc2⟩ := HM.out k y hy
        have hc1' : wr.cell? ⟨g, 12 + k, none⟩ = some (.int .u8 (x.toNat : Int)) := by rw [below_cell hbel _ _ hg1]; exact hc1
        have hc2' : wr.cell? ⟨g2, o2 + k, none⟩ = some (.int .u8 (y.toNat : Int)) := by rw [below_cell hbel _ _ hg2]; exact hc2
        have hxb := UInt8.toNat_lt x
        have hyb := UInt8.toNat_lt y
        have hsz := hbel.size
        have hlen : (pl.rowOf ((pl.and b m).take k) 4).length = 4 := pl.rowOf_len _ 4 (by rw [List.length_take, HA.out]; omega)
        obtain ⟨old, hcell⟩ := hown.cell hlen k hlt
        have hfr := hown.frozen hlen k
        have hset := hown.set hlen k (x &&& y)
        have hrs := pl.rowOf_set ((pl.and b m).take k) 4 (x &&& y) (by rw [List.length_take, HA.out]; omega)
        rw [show ((pl.and b m).take k).length = k by rw [List.length_take, HA.out]; omega, ← pl.and_succ b m k x y hx hy] at hrs
        rw [hrs] at hset
        have hand := pl.and_bits x y
        have HS := Lib.hid hset
        have HN := Lib.hid hand
        have HX := Lib.hid hx
        have HY := Lib.hid hy
        have HC1 := Lib.hid hc1
        have HC2 := Lib.hid hc2
        clear hset hlen hrs hx hy hc1 hc2 hand
        go_wp2_with fail
        go_region
        rw [HN.out]
        go_wp2_with fail
        go_roundw
        case rel => exact ⟨k + 1, by omega, by go_num, HS.out, (hbel.setCell (Nat.le_refl _) _).drew⟩
        case measure => simp [intOf]; omega
      · have hke : k = 4 := by omega
        subst hke
        rw [List.take_of_length_le (by rw [HA.out]; omega)] at hown
        have hf := pl.rowOf_full (pl.and b m)
        rw [HA.out] at hf
        rw [hf] at hown
        clear hf
        go_wp2_with fail
        go_ret
        exact ⟨_, rfl, Byts.lower hown HV3.out.size, HV3.out.trans (hbel.mono HV3.out.size)⟩

end Go.Proofs.YtfkohahlpfejbaaDoor
