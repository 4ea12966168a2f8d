/-
  WALKS: net/netip: the text of an address of IPv4.
-/
import Derived.Test.YtfkohahlpfejbaaDoorDecHex
namespace Go.Proofs.YtfkohahlpfejbaaDoor
open Go.RowKit

theorem pl.be4 (x y z u : UInt8) : pl.be [x, y, z, u] = x.toNat * 16777216 + y.toNat * 65536 + z.toNat * 256 + u.toNat := by
  simp only [pl.be, List.foldl_cons, List.foldl_nil]; omega

set_option maxRecDepth 100000 in
set_option maxHeartbeats 4000000 in
theorem v40_sp (hi lo g o : Nat) (x y z u : UInt8) (hlo : lo = 281470681743360 + pl.be [x, y, z, u]) (w : World) :
    Calls Tryd.prog 113 #[.agg #[.int .u64 (hi : Int), .int .u64 (lo : Int), .pointer (some ⟨g, o, none⟩)], .int .u8 0] w fun e w' => e = .returned (.int .u8 (x.toNat : Int)) ∧ Below w.heap.size w w' := by
  have hx := x.toNat_lt
  have hy := y.toNat_lt
  have hz := z.toNat_lt
  have hu := u.toNat_lt
  rw [pl.be4] at hlo
  have hq : (lo : Int) / 16777216 % 256 = (x.toNat : Int) := by omega
  have hl0 : lo < 281474976710656 := by omega
  clear hlo hx hy hz hu
  go_enter Tryd.func113, Tryd.ntmps113
  go_wp2_with fail
  go_ret
  exact ⟨by rw [← hq]; rfl, (Below.refl _ _).alloc (Nat.le_refl _) _⟩

set_option maxRecDepth 100000 in
set_option maxHeartbeats 4000000 in
theorem v41_sp (hi lo g o : Nat) (x y z u : UInt8) (hlo : lo = 281470681743360 + pl.be [x, y, z, u]) (w : World) :
    Calls Tryd.prog 113 #[.agg #[.int .u64 (hi : Int), .int .u64 (lo : Int), .pointer (some ⟨g, o, none⟩)], .int .u8 1] w fun e w' => e = .returned (.int .u8 (y.toNat : Int)) ∧ Below w.heap.size w w' := by
  have hx := x.toNat_lt
  have hy := y.toNat_lt
  have hz := z.toNat_lt
  have hu := u.toNat_lt
  rw [pl.be4] at hlo
  have hq : (lo : Int) / 65536 % 256 = (y.toNat : Int) := by omega
  have hl0 : lo < 281474976710656 := by omega
  clear hlo hx hy hz hu
  go_enter Tryd.func113, Tryd.ntmps113
  go_wp2_with fail
  go_ret
  exact ⟨by rw [← hq]; rfl, (Below.refl _ _).alloc (Nat.le_refl _) _⟩

set_option maxRecDepth 100000 in
set_option maxHeartbeats 4000000 in
theorem v42_sp (hi lo g o : Nat) (x y z u : UInt8) (hlo : lo = 281470681743360 + pl.be [x, y, z, u]) (w : World) :
    Calls Tryd.prog 113 #[.agg #[.int .u64 (hi : Int), .int .u64 (lo : Int), .pointer (some ⟨g, o, none⟩)], .int .u8 2] w fun e w' => e = .returned (.int .u8 (z.toNat : Int)) ∧ Below w.heap.size w w' := by
  have hx := x.toNat_lt
  have hy := y.toNat_lt
  have hz := z.toNat_lt
  have hu := u.toNat_lt
  rw [pl.be4] at hlo
  have hq : (lo : Int) / 256 % 256 = (z.toNat : Int) := by omega
  have hl0 : lo < 281474976710656 := by omega
  clear hlo hx hy hz hu
  go_enter Tryd.func113, Tryd.ntmps113
  go_wp2_with fail
  go_ret
  exact ⟨by rw [← hq]; rfl, (Below.refl _ _).alloc (Nat.le_refl _) _⟩

set_option maxRecDepth 100000 in
set_option maxHeartbeats 4000000 in
theorem v43_sp (hi lo g o : Nat) (x y z u : UInt8) (hlo : lo = 281470681743360 + pl.be [x, y, z, u]) (w : World) :
    Calls Tryd.prog 113 #[.agg #[.int .u64 (hi : Int), .int .u64 (lo : Int), .pointer (some ⟨g, o, none⟩)], .int .u8 3] w fun e w' => e = .returned (.int .u8 (u.toNat : Int)) ∧ Below w.heap.size w w' := by
  have hx := x.toNat_lt
  have hy := y.toNat_lt
  have hz := z.toNat_lt
  have hu := u.toNat_lt
  rw [pl.be4] at hlo
  have hq : (lo : Int) % 256 = (u.toNat : Int) := by omega
  have hl0 : lo < 281474976710656 := by omega
  clear hlo hx hy hz hu
  go_enter Tryd.func113, Tryd.ntmps113
  go_wp2_with fail
  go_ret
  exact ⟨by rw [← hq]; rfl, (Below.refl _ _).alloc (Nat.le_refl _) _⟩

theorem Fr.alloc0 {B : Nat} {w : World} (o : Obj) (hB : B ≤ w.heap.size) : Fr B w (w.alloc o) := (Fr.refl B w).alloc o hB

set_option maxRecDepth 100000 in
set_option maxHeartbeats 4000000 in
theorem ap4_sp (hi lo g o : Nat) (x y z u : UInt8) (hlo : lo = 281470681743360 + pl.be [x, y, z, u]) (v : Value) (l : List UInt8) (w : World) (B : Nat) (hv : Byts w B v l) (hB : B ≤ w.heap.size) (hl : l.length ≤ 100) :
    Calls Tryd.prog 101 #[.agg #[.int .u64 (hi : Int), .int .u64 (lo : Int), .pointer (some ⟨g, o, none⟩)], v] w fun e w' => ∃ v', e = .returned v' ∧ Byts w' B v' (l ++ pl.dots [x, y, z, u]) ∧ Fr B w w' := by
  have k0 := v40_sp hi lo g o x y z u hlo
  have k1 := v41_sp hi lo g o x y z u hlo
  have k2 := v42_sp hi lo g o x y z u hlo
  have k3 := v43_sp hi lo g o x y z u hlo
  have K0 := Lib.hid k0
  have K1 := Lib.hid k1
  have K2 := Lib.hid k2
  have K3 := Lib.hid k3
  clear k0 k1 k2 k3 hlo
  have n0 := (pl.oct_num x).2.2.2
  have n1 := (pl.oct_num y).2.2.2
  have n2 := (pl.oct_num z).2.2.2
  have hd : pl.dots [x, y, z, u] = pl.num 10 x.toNat ++ 46 :: (pl.num 10 y.toNat ++ 46 :: (pl.num 10 z.toNat ++ 46 :: pl.num 10 u.toNat)) := rfl
  rw [hd]
  clear hd
  obtain ⟨a0, ha0⟩ : ∃ a, pl.num 10 x.toNat = a := ⟨_, rfl⟩
  obtain ⟨a1, ha1⟩ : ∃ a, pl.num 10 y.toNat = a := ⟨_, rfl⟩
  obtain ⟨a2, ha2⟩ : ∃ a, pl.num 10 z.toNat = a := ⟨_, rfl⟩
  obtain ⟨a3, ha3⟩ : ∃ a, pl.num 10 u.toNat = a := ⟨_, rfl⟩
  rw [ha0] at n0
  rw [ha1] at n1
  rw [ha2] at n2
  rw [ha0, ha1, ha2, ha3]
  have hp0 := fun v l w B => apd_sp v l x w B
  have hp1 := fun v l w B => apd_sp v l y w B
  have hp2 := fun v l w B => apd_sp v l z w B
  have hp3 := fun v l w B => apd_sp v l u w B
  rw [ha0] at hp0
  rw [ha1] at hp1
  rw [ha2] at hp2
  rw [ha3] at hp3
  have P0 := Lib.hid hp0
  have P1 := Lib.hid hp1
  have P2 := Lib.hid hp2
  have P3 := Lib.hid hp3
  clear hp0 hp1 hp2 hp3 ha0 ha1 ha2 ha3
  obtain ⟨gb, hgb⟩ : ∃ gb, w.heap.size = gb := ⟨_, rfl⟩
  obtain ⟨W1, hW1⟩ : ∃ W1, w.alloc (Obj.cells #[Value.int IntKind.u64 (hi : Int), Value.int IntKind.u64 (lo : Int), Value.pointer (some ⟨g, o, none⟩)] 119) = W1 := ⟨_, rfl⟩
  have hA : Blk W1 gb #[Value.int IntKind.u64 (hi : Int), Value.int IntKind.u64 (lo : Int), Value.pointer (some ⟨g, o, none⟩)] 119 := by
    rw [← hW1, ← hgb]; exact Blk.new w _ _
  have f0 : Fr B w W1 := by rw [← hW1]; exact Fr.alloc0 _ hB
  have v0 : Byts W1 B v l := by rw [← hW1]; exact World.ownsRow.alloc hv _
  have hB1 : B ≤ W1.heap.size := Nat.le_trans hB f0.bel.size
  have r0 : Fr B W1 W1 := Fr.refl _ _
  obtain ⟨c0, c1, c2, _⟩ := blk3 hA
  have HA := Lib.hid hA
  clear hA
  go_enter Tryd.func101, Tryd.ntmps101
  go_wp2_with (first
    | (go_at_call 112; refine (P3.out _ _ _ B va3 sa3 (by first | omega | (simp; omega))).mono ?_; rintro e wb3 ⟨vb3, rfl, hvb3, hfb3⟩; have fb3 := fa3.trans hfb3)
    | (go_at_call 113; have hx0 := fc2; clear hx0; refine (K3.out _).mono ?_; rintro e wa3 ⟨rfl, hba3⟩; have fa3 := fc2.trans (Fr.of hba3 (Nat.le_trans hB1 fc2.bel.size)); have va3 := hvc2.below hba3; have sa3 := Nat.le_trans hB1 fa3.bel.size)
    | (at_builtin; refine app_byte_fr (w := W1) 46 26 Tryd.underlying26 rfl _ _ rfl rfl B hvb2 rfl rfl (by first | omega | (simp; omega)) fb2 hB1 ?_; intro vc2 wc2 hvc2 fc2; obtain ⟨c0, c1, c2, _⟩ := blk3 (fc2.oth _ _ _ (by decide) HA.out))
    | (go_at_call 112; refine (P2.out _ _ _ B va2 sa2 (by first | omega | (simp; omega))).mono ?_; rintro e wb2 ⟨vb2, rfl, hvb2, hfb2⟩; have fb2 := fa2.trans hfb2)
    | (go_at_call 113; have hx0 := fc1; clear hx0; refine (K2.out _).mono ?_; rintro e wa2 ⟨rfl, hba2⟩; have fa2 := fc1.trans (Fr.of hba2 (Nat.le_trans hB1 fc1.bel.size)); have va2 := hvc1.below hba2; have sa2 := Nat.le_trans hB1 fa2.bel.size)
    | (at_builtin; refine app_byte_fr (w := W1) 46 26 Tryd.underlying26 rfl _ _ rfl rfl B hvb1 rfl rfl (by first | omega | (simp; omega)) fb1 hB1 ?_; intro vc1 wc1 hvc1 fc1; obtain ⟨c0, c1, c2, _⟩ := blk3 (fc1.oth _ _ _ (by decide) HA.out))
    | (go_at_call 112; refine (P1.out _ _ _ B va1 sa1 (by first | omega | (simp; omega))).mono ?_; rintro e wb1 ⟨vb1, rfl, hvb1, hfb1⟩; have fb1 := fa1.trans hfb1)
    | (go_at_call 113; have hx0 := fc0; clear hx0; refine (K1.out _).mono ?_; rintro e wa1 ⟨rfl, hba1⟩; have fa1 := fc0.trans (Fr.of hba1 (Nat.le_trans hB1 fc0.bel.size)); have va1 := hvc0.below hba1; have sa1 := Nat.le_trans hB1 fa1.bel.size)
    | (at_builtin; refine app_byte_fr (w := W1) 46 26 Tryd.underlying26 rfl _ _ rfl rfl B hvb0 rfl rfl (by first | omega | (simp; omega)) fb0 hB1 ?_; intro vc0 wc0 hvc0 fc0; obtain ⟨c0, c1, c2, _⟩ := blk3 (fc0.oth _ _ _ (by decide) HA.out))
    | (go_at_call 112; refine (P0.out _ _ _ B va0 sa0 (by first | omega | (simp; omega))).mono ?_; rintro e wb0 ⟨vb0, rfl, hvb0, hfb0⟩; have fb0 := fa0.trans hfb0)
    | (go_at_call 113; have hx0 := r0; clear hx0; refine (K0.out _).mono ?_; rintro e wa0 ⟨rfl, hba0⟩; have fa0 := r0.trans (Fr.of hba0 (Nat.le_trans hB1 r0.bel.size)); have va0 := v0.below hba0; have sa0 := Nat.le_trans hB1 fa0.bel.size))
  go_ret
  exact ⟨_, rfl, by simpa using hvb3, f0.trans fb3⟩

end Go.Proofs.YtfkohahlpfejbaaDoor
