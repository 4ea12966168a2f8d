/-
  WALKS: net/netip: Is4In6, Unmap, appendTo4In6; the groups by their number.
-/
import Derived.Test.YtfkohahlpfejbaaDoorStr6
import Derived.Test.YtfkohahlpfejbaaDoorV6L
namespace Go.Proofs.YtfkohahlpfejbaaDoor
open Go.RowKit

theorem pl.be_hi (b : List UInt8) (h : b.length = 16) : ∃ g0 g1 g2 g3 g4 g5 g6 g7, pl.gs b = [g0, g1, g2, g3, g4, g5, g6, g7] ∧ g0 < 65536 ∧ g1 < 65536 ∧ g2 < 65536 ∧ g3 < 65536 ∧ g4 < 65536 ∧ g5 < 65536 ∧ g6 < 65536 ∧ g7 < 65536 ∧
    pl.be (b.take 8) = g0 * 281474976710656 + g1 * 4294967296 + g2 * 65536 + g3 ∧ pl.be (b.drop 8) = g4 * 281474976710656 + g5 * 4294967296 + g6 * 65536 + g7 := by
  obtain ⟨b0, b1, b2, b3, b4, b5, b6, b7, b8, b9, b10, b11, b12, b13, b14, b15, rfl⟩ := pl.list16 b h
  have k0 := b0.toNat_lt
  have k1 := b1.toNat_lt
  have k2 := b2.toNat_lt
  have k3 := b3.toNat_lt
  have k4 := b4.toNat_lt
  have k5 := b5.toNat_lt
  have k6 := b6.toNat_lt
  have k7 := b7.toNat_lt
  have k8 := b8.toNat_lt
  have k9 := b9.toNat_lt
  have k10 := b10.toNat_lt
  have k11 := b11.toNat_lt
  have k12 := b12.toNat_lt
  have k13 := b13.toNat_lt
  have k14 := b14.toNat_lt
  have k15 := b15.toNat_lt
  refine ⟨_, _, _, _, _, _, _, _, rfl, by omega, by omega, by omega, by omega, by omega, by omega, by omega, by omega, ?_, ?_⟩
  · simp only [pl.be, List.take_succ_cons, List.take_zero, List.foldl_cons, List.foldl_nil]; omega
  · simp only [pl.be, List.drop_succ_cons, List.drop_zero, List.foldl_cons, List.foldl_nil]; omega

theorem v6u_any (b : List UInt8) (hb : b.length = 16) (g o j x : Nat) (hx : (pl.gs b)[j]? = some x) (w : World) :
    Calls Tryd.prog 116 #[.agg #[.int .u64 (pl.be (b.take 8) : Nat), .int .u64 (pl.be (b.drop 8) : Nat), .pointer (some ⟨g, o, none⟩)], .int .u8 (j : Int)] w fun e w' => e = .returned (.int .u16 (x : Int)) ∧ Below w.heap.size w w' := by
  have hj : j < 8 := by have := (List.getElem?_eq_some_iff.1 hx).1; rw [pl.gs_len 8 b hb] at this; exact this
  obtain ⟨g0, g1, g2, g3, g4, g5, g6, g7, hg, k0, k1, k2, k3, k4, k5, k6, k7, hh, hl⟩ := pl.be_hi b hb
  obtain ⟨hi, hhi⟩ : ∃ hi, pl.be (b.take 8) = hi := ⟨_, rfl⟩
  obtain ⟨lo, hlo⟩ : ∃ lo, pl.be (b.drop 8) = lo := ⟨_, rfl⟩
  rw [hhi] at hh ⊢
  rw [hlo] at hl ⊢
  rw [hg] at hx
  match j, hj with
  | 0, _ => injection hx with hx; subst hx; exact v6u0_sp hi lo g o _ (by omega) (by omega) w
  | 1, _ => injection hx with hx; subst hx; exact v6u1_sp hi lo g o _ (by omega) w
  | 2, _ => injection hx with hx; subst hx; exact v6u2_sp hi lo g o _ (by omega) w
  | 3, _ => injection hx with hx; subst hx; exact v6u3_sp hi lo g o _ (by omega) w
  | 4, _ => injection hx with hx; subst hx; exact v6u4_sp hi lo g o _ (by omega) (by omega) w
  | 5, _ => injection hx with hx; subst hx; exact v6u5_sp hi lo g o _ (by omega) w
  | 6, _ => injection hx with hx; subst hx; exact v6u6_sp hi lo g o _ (by omega) w
  | 7, _ => injection hx with hx; subst hx; exact v6u7_sp hi lo g o _ (by omega) w

theorem pl.mapped_be (b : List UInt8) (hb : b.length = 16) (h : pl.mapped b = true) : ∃ x y z u, b.drop 12 = [x, y, z, u] ∧ pl.be (b.take 8) = 0 ∧ pl.be (b.drop 8) = 281470681743360 + pl.be [x, y, z, u] := by
  have h1 := pl.mapped_eq b h
  have hd : (b.drop 12).length = 4 := by rw [List.length_drop]; omega
  match hx : b.drop 12, hd with
  | [x, y, z, u], _ =>
    refine ⟨x, y, z, u, rfl, ?_, ?_⟩
    · rw [h1, hx]; rfl
    · rw [h1, hx, pl.be4]
      show pl.be [0, 0, 255, 255, x, y, z, u] = _
      simp only [pl.be, List.foldl_cons, List.foldl_nil]
      have e1 : (255 : UInt8).toNat = 255 := rfl
      have e2 : (0 : UInt8).toNat = 0 := rfl
      omega
theorem pl.mapped_no (b : List UInt8) (hb : b.length = 16) (h : pl.mapped b = false) : pl.be (b.take 8) ≠ 0 ∨ pl.be (b.drop 8) / 4294967296 ≠ 65535 := by
  obtain ⟨b0, b1, b2, b3, b4, b5, b6, b7, b8, b9, b10, b11, b12, b13, b14, b15, rfl⟩ := pl.list16 b hb
  by_cases hc : pl.be [b0, b1, b2, b3, b4, b5, b6, b7] = 0 ∧ pl.be [b8, b9, b10, b11, b12, b13, b14, b15] / 4294967296 = 65535
  · exfalso
    obtain ⟨h1, h2⟩ := hc
    simp only [pl.be, List.foldl_cons, List.foldl_nil] at h1 h2
    have k8 := b8.toNat_lt
    have k9 := b9.toNat_lt
    have k10 := b10.toNat_lt
    have k11 := b11.toNat_lt
    have k12 := b12.toNat_lt
    have k13 := b13.toNat_lt
    have k14 := b14.toNat_lt
    have k15 := b15.toNat_lt
    have z : ∀ x : UInt8, x.toNat = 0 → x = 0 := fun x hx => UInt8.toNat_inj.1 hx
    have f : ∀ x : UInt8, x.toNat = 255 → x = 255 := fun x hx => UInt8.toNat_inj.1 hx
    have e0 := z b0 (by omega)
    have e1 := z b1 (by omega)
    have e2 := z b2 (by omega)
    have e3 := z b3 (by omega)
    have e4 := z b4 (by omega)
    have e5 := z b5 (by omega)
    have e6 := z b6 (by omega)
    have e7 := z b7 (by omega)
    have e8 := z b8 (by omega)
    have e9 := z b9 (by omega)
    have e10 := f b10 (by omega)
    have e11 := f b11 (by omega)
    subst e0 e1 e2 e3 e4 e5 e6 e7 e8 e9 e10 e11
    revert h
    show ¬ (pl.pre12 == pl.pre12) = false
    decide
  · by_cases h1 : pl.be [b0, b1, b2, b3, b4, b5, b6, b7] = 0
    · exact .inr (fun h2 => hc ⟨h1, h2⟩)
    · exact .inl h1

set_option maxRecDepth 100000 in
set_option maxHeartbeats 4000000 in
theorem is46_zero (g4 o4 g6 o6 lo : Nat) (r : Bool) (hq : ((lo : Int) / 4294967296 == 65535) = r) (w : World) (hI : IpVars w g4 o4 g6 o6) :
    Calls Tryd.prog 102 #[.agg #[.int .u64 0, .int .u64 (lo : Int), .pointer (some ⟨g6, o6, none⟩)]] w fun e w' => e = .returned (.bool r) ∧ Below w.heap.size w w' := by
  obtain ⟨gb, hgb⟩ : ∃ gb, w.heap.size = gb := ⟨_, rfl⟩
  obtain ⟨W1, hW1⟩ : ∃ W1, w.alloc (Obj.cells #[Value.int IntKind.u64 0, Value.int IntKind.u64 (lo : Int), Value.pointer (some ⟨g6, o6, none⟩)] 119) = W1 := ⟨_, rfl⟩
  have hA : Blk W1 gb #[Value.int IntKind.u64 0, Value.int IntKind.u64 (lo : Int), Value.pointer (some ⟨g6, o6, none⟩)] 119 := by rw [← hW1, ← hgb]; exact Blk.new w _ _
  have hb : Below gb w W1 := by rw [← hW1, ← hgb]; exact (Below.refl _ _).alloc (Nat.le_refl _) _
  have hgl : gb ≤ W1.heap.size := Nat.le_of_lt hA.lt
  have his := is6_6 g4 o4 g6 o6 0 lo W1 (hI.below hb (by omega))
  have hip : ipV 0 lo g6 o6 = .agg #[.int .u64 0, .int .u64 (lo : Int), .pointer (some ⟨g6, o6, none⟩)] := rfl
  rw [hip] at his
  have HIS := Lib.hid his
  have HA := Lib.hid hA
  obtain ⟨c0, c1, c2, _⟩ := blk3 hA
  clear his hip hA hI
  go_enter Tryd.func102, Tryd.ntmps102
  go_wp2_with (go_at_call 114; refine HIS.out.mono ?_; rintro e w2 ⟨rfl, hb2⟩; obtain ⟨d0, d1, _⟩ := blk3 (HA.out.below hb2 HA.out.lt); have hb3 := hb.trans (hb2.mono hgl))
  go_ret
  exact ⟨rfl, hgb ▸ hb3⟩

set_option maxRecDepth 100000 in
set_option maxHeartbeats 4000000 in
theorem is46_hi (g4 o4 g6 o6 hi lo : Nat) (h0 : hi ≠ 0) (w : World) (hI : IpVars w g4 o4 g6 o6) :
    Calls Tryd.prog 102 #[.agg #[.int .u64 (hi : Int), .int .u64 (lo : Int), .pointer (some ⟨g6, o6, none⟩)]] w fun e w' => e = .returned (.bool false) ∧ Below w.heap.size w w' := by
  obtain ⟨gb, hgb⟩ : ∃ gb, w.heap.size = gb := ⟨_, rfl⟩
  obtain ⟨W1, hW1⟩ : ∃ W1, w.alloc (Obj.cells #[Value.int IntKind.u64 (hi : Int), Value.int IntKind.u64 (lo : Int), Value.pointer (some ⟨g6, o6, none⟩)] 119) = W1 := ⟨_, rfl⟩
  have hA : Blk W1 gb #[Value.int IntKind.u64 (hi : Int), Value.int IntKind.u64 (lo : Int), Value.pointer (some ⟨g6, o6, none⟩)] 119 := by rw [← hW1, ← hgb]; exact Blk.new w _ _
  have hb : Below gb w W1 := by rw [← hW1, ← hgb]; exact (Below.refl _ _).alloc (Nat.le_refl _) _
  have hgl : gb ≤ W1.heap.size := Nat.le_of_lt hA.lt
  have his := is6_6 g4 o4 g6 o6 hi lo W1 (hI.below hb (by omega))
  have hip : ipV hi lo g6 o6 = .agg #[.int .u64 (hi : Int), .int .u64 (lo : Int), .pointer (some ⟨g6, o6, none⟩)] := rfl
  rw [hip] at his
  have HIS := Lib.hid his
  have HA := Lib.hid hA
  obtain ⟨c0, c1, c2, _⟩ := blk3 hA
  clear his hip hA hI
  have hq : ((hi : Int) == 0) = false := by rw [beq_eq_false_iff_ne]; omega
  clear h0
  go_enter Tryd.func102, Tryd.ntmps102
  go_wp2_with (go_at_call 114; refine HIS.out.mono ?_; rintro e w2 ⟨rfl, hb2⟩; obtain ⟨d0, d1, _⟩ := blk3 (HA.out.below hb2 HA.out.lt); have hb3 := hb.trans (hb2.mono hgl))
  go_ret
  exact ⟨rfl, hgb ▸ hb3⟩

end Go.Proofs.YtfkohahlpfejbaaDoor
