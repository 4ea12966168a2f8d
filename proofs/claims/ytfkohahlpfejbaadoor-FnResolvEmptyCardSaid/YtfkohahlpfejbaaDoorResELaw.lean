/-
  WALK: the law FnResolvEmpty.
-/
import Derived.Test.YtfkohahlpfejbaaDoorResE3
import Derived.Test.YtfkohahlpfejbaaDoorSfxE
import Derived.Test.YtfkohahlpfejbaaDoorSame
import Derived.Deep.RegionHeld3
import Derived.Test.YtfkohahlpfejbaaDoorHost2
namespace Go.Proofs.YtfkohahlpfejbaaDoor
open Go.RowKit

theorem pl.defS_len (l : List UInt8) : (pl.defS l).length ≤ 1 := by
  unfold pl.defS
  split <;> simp

set_option maxRecDepth 100000 in
set_option maxHeartbeats 4000000 in
theorem walk_FnResolvEmpty (a0 : ByteArray) (w : World) (_ : a0.size ≤ maxLen) :
    Calls Tryd.prog 6 #[.string a0] w fun e w' => e = .returned (.bool true) ∧ Below w.heap.size w w' := by
  by_cases hbig : a0.size ≤ 2147483647
  · go_enter Tryd.func6, Tryd.ntmps6
    go_wp2_with fail
    refine (rri_empty _ a0 w rfl (by omega)).mono ?_
    rintro e V2 ⟨vs, vq, rfl, hb2, hS, hQ⟩
    obtain ⟨a1, k1, rfl, _⟩ := hS.form
    obtain ⟨a2, k2, rfl, _⟩ := hQ.form
    unfold resE resA
    go_wp2_with fail
    have hB := Blk.new V2 (resA (.slice a1 2 k1) (.slice a2 (pl.defS a0.data.toList).length k2)) 41
    have hb3 := hb2.alloc hb2.size (.cells (resA (.slice a1 2 k1) (.slice a2 (pl.defS a0.data.toList).length k2)) 41)
    have hQ3 := hQ.below ((Below.refl V2.heap.size V2).alloc (Nat.le_refl _) (.cells (resA (.slice a1 2 k1) (.slice a2 (pl.defS a0.data.toList).length k2)) 41))
    change Code.wp _ _ _ _ (V2.alloc (.cells (resA (.slice a1 2 k1) (.slice a2 (pl.defS a0.data.toList).length k2)) 41))
    obtain ⟨G, hG⟩ : ∃ G, V2.heap.size = G := ⟨_, rfl⟩
    rw [hG] at hB
    simp only [hG]
    clear hG hS hQ
    generalize V2.alloc (.cells (resA (.slice a1 2 k1) (.slice a2 (pl.defS a0.data.toList).length k2)) 41) = V at hB hb3 hQ3 ⊢
    have hlen := pl.defS_len a0.data.toList
    obtain ⟨D, hD⟩ : ∃ D, pl.defS a0.data.toList = D := ⟨_, rfl⟩
    rw [hD] at hB hQ3 hlen
    rw [hD]
    have c0 : V.cell? ⟨G, 0, none⟩ = some (.slice a1 2 k1) := hB.cell 0
    have c1 : V.cell? ⟨G, 1, none⟩ = some (.slice a2 D.length k2) := hB.cell 1
    have c2 : V.cell? ⟨G, 2, none⟩ = some (.int .i64 1) := hB.cell 2
    have c3 : V.cell? ⟨G, 3, none⟩ = some (.int .i64 5) := hB.cell 3
    have c4 : V.cell? ⟨G, 4, none⟩ = some (.int .i64 2) := hB.cell 4
    have c5 : V.cell? ⟨G, 5, none⟩ = some (.bool false) := hB.cell 5
    have c8 : V.cell? ⟨G, 8, none⟩ = some (.bool false) := hB.cell 8
    have hGl := hB.lt
    have HD := Lib.hid hD
    have HB := Lib.hid hB
    have HQ := Lib.hid hQ3
    have HL := Lib.hid hlen
    clear hD hB hQ3 hlen
    go_region_held3 (fun w' => w'.cell? ⟨G, 0, none⟩ = some (.slice a1 2 k1) ∧ w'.cell? ⟨G, 1, none⟩ = some (.slice a2 D.length k2) ∧ w'.cell? ⟨G, 2, none⟩ = some (.int .i64 1) ∧ w'.cell? ⟨G, 3, none⟩ = some (.int .i64 5) ∧ w'.cell? ⟨G, 4, none⟩ = some (.int .i64 2) ∧ w'.cell? ⟨G, 5, none⟩ = some (.bool false) ∧ w'.cell? ⟨G, 8, none⟩ = some (.bool false))
      (first | exact ⟨d0, d1, d2, d3, d4, d5, d8⟩ | exact ⟨e0, e1, e2, e3, e4, e5, e8⟩ | go_keep)
      (first
        | (go_at_call 24; refine (sfx_empty a0 _ (by omega)).mono ?_; rintro e w4 ⟨v4, rfl, hY, hb4⟩; rw [HD.out] at hY; obtain ⟨a4, k4, rfl, _⟩ := hY.form
           have hb4' := bel_d (n := 1) hb4
           have hB4 := HB.out.below hb4' hGl
           have d0 : w4.cell? ⟨G, 0, none⟩ = some (.slice a1 2 k1) := hB4.cell 0
           have d1 : w4.cell? ⟨G, 1, none⟩ = some (.slice a2 D.length k2) := hB4.cell 1
           have d2 : w4.cell? ⟨G, 2, none⟩ = some (.int .i64 1) := hB4.cell 2
           have d3 : w4.cell? ⟨G, 3, none⟩ = some (.int .i64 5) := hB4.cell 3
           have d4 : w4.cell? ⟨G, 4, none⟩ = some (.int .i64 2) := hB4.cell 4
           have d5 : w4.cell? ⟨G, 5, none⟩ = some (.bool false) := hB4.cell 5
           have d8 : w4.cell? ⟨G, 8, none⟩ = some (.bool false) := hB4.cell 8
           have hQ4 := HQ.out.below hb4'
           have HY := Lib.hid hY
           have HQ4 := Lib.hid hQ4
           clear hY hQ4)
        | (go_at_call 17; refine (same_any _ _ D D _ _ _ HQ4.out HY.out (by have := HL.out; omega) (by have := HL.out; omega)).mono ?_; rintro e w5 ⟨rfl, n5, rfl⟩
           have e0 : (w4.drewN n5).cell? ⟨G, 0, none⟩ = some (.slice a1 2 k1) := d0
           have e1 : (w4.drewN n5).cell? ⟨G, 1, none⟩ = some (.slice a2 D.length k2) := d1
           have e2 : (w4.drewN n5).cell? ⟨G, 2, none⟩ = some (.int .i64 1) := d2
           have e3 : (w4.drewN n5).cell? ⟨G, 3, none⟩ = some (.int .i64 5) := d3
           have e4 : (w4.drewN n5).cell? ⟨G, 4, none⟩ = some (.int .i64 2) := d4
           have e5 : (w4.drewN n5).cell? ⟨G, 5, none⟩ = some (.bool false) := d5
           have e8 : (w4.drewN n5).cell? ⟨G, 8, none⟩ = some (.bool false) := d8))
    go_wp2_with fail
    go_ret
    exact ⟨rfl, below_drewN (hb3.trans (hb4'.mono hb3.size)) _⟩
  · go_enter Tryd.func6, Tryd.ntmps6
    go_wp2_with fail
    go_ret
    exact ⟨rfl, Below.refl _ _⟩

end Go.Proofs.YtfkohahlpfejbaaDoor
