/-
  WALKS: net/netip: Unmap, appendTo4In6.
-/
import Derived.Test.YtfkohahlpfejbaaDoorStr7
namespace Go.Proofs.YtfkohahlpfejbaaDoor
open Go.RowKit

set_option maxRecDepth 100000 in
set_option maxHeartbeats 4000000 in
theorem unm_sp (g4 o4 g6 o6 lo : Nat) (hl : lo / 4294967296 = 65535) (w : World) (hI : IpVars w g4 o4 g6 o6) :
    Calls Tryd.prog 115 #[.agg #[.int .u64 0, .int .u64 (lo : Int), .pointer (some ⟨g6, o6, none⟩)]] w fun e w' => e = .returned (.agg #[.int .u64 0, .int .u64 (lo : Int), .pointer (some ⟨g4, o4, none⟩)]) ∧ Below w.heap.size w w' := by
  obtain ⟨g, hg⟩ : ∃ g, w.heap.size = g := ⟨_, rfl⟩
  obtain ⟨W0, hW0⟩ : ∃ W0, w.alloc (Obj.cells #[Value.int IntKind.u64 0, Value.int IntKind.u64 (lo : Int), Value.pointer (some ⟨g6, o6, none⟩)] 119) = W0 := ⟨_, rfl⟩
  obtain ⟨W1, hW1⟩ : ∃ W1, W0.alloc (Obj.cells #[Value.int IntKind.u64 0, Value.int IntKind.u64 0, Value.pointer none] 119) = W1 := ⟨_, rfl⟩
  have hs0 : W0.heap.size = g + 1 := by rw [← hW0, ← hg]; simp
  have hA : Blk W1 g #[Value.int IntKind.u64 0, Value.int IntKind.u64 (lo : Int), Value.pointer (some ⟨g6, o6, none⟩)] 119 := by
    rw [← hW1, ← hW0, ← hg]; exact (Blk.new w _ _).alloc _
  have hR : Blk W1 (g + 1) #[Value.int IntKind.u64 0, Value.int IntKind.u64 0, Value.pointer none] 119 := by
    rw [← hW1, ← hs0]; exact Blk.new W0 _ _
  have hb1 : Below g w W1 := by rw [← hW1, ← hW0, ← hg]; exact ((Below.refl _ _).alloc (Nat.le_refl _) _).alloc (by simp) _
  have hI1 := hI.below hb1 (by omega)
  have hgs : g ≤ W1.heap.size := by rw [← hg]; exact hb1.size
  have his := is46_zero g4 o4 g6 o6 lo true (by rw [beq_iff_eq]; omega) W1 hI1
  have HIS := Lib.hid his
  have HI := Lib.hid hI1
  have HA := Lib.hid hA
  have HR := Lib.hid hR
  have HB1 := Lib.hid hb1
  obtain ⟨c0, c1, c2, _⟩ := blk3 hA
  clear his hI1 hI hA hR hb1 hl
  go_enter Tryd.func115, Tryd.ntmps115
  go_wp2_with (go_at_call 102; refine HIS.out.mono ?_; rintro e w2 ⟨rfl, hb2⟩; have HA2 := Lib.hid (HA.out.below hb2 HA.out.lt); have HR2 := Lib.hid (HR.out.below hb2 HR.out.lt); have hz := (HI.out.below hb2 (Nat.le_refl _)).z4; have HB3 := Lib.hid (HB1.out.trans (hb2.mono hgs)); obtain ⟨d0, d1, d2, _, _, f2⟩ := blk3 HA2.out; obtain ⟨e0, e1, e2, k0, k1, k2⟩ := blk3 HR2.out)
  have hst := set3 (.int .u64 0) (.int .u64 (lo : Int)) (.pointer (some ⟨g4, o4, none⟩)) (HR2.out.other g 2 (.pointer (some ⟨g4, o4, none⟩)) (by omega))
  refine bodyPost_ret (results_cell_row rfl _ _ (g + 1) _ _ _ _ rfl hst.1 Tryd.underlying119 rfl (by kernel_rfl)) rfl ?_
  exact ⟨rfl, hg ▸ hst.2.1 g w (HB3.out.setCell (Nat.le_refl _) _) (Nat.le_succ _)⟩

theorem IpVars.fr {w w' : World} {g4 o4 g6 o6 B : Nat} (h : IpVars w g4 o4 g6 o6) (hf : Below B w w') (hB : ∀ g, g = g4 ∨ g = g6 ∨ g ≤ 2 → g < B) : IpVars w' g4 o4 g6 o6 := by
  have k : ∀ {g o : Nat} {v : Value}, g < B → w.cell? ⟨g, o, none⟩ = some v → w'.cell? ⟨g, o, none⟩ = some v := fun {g o v} hg hc => by
    rw [← hc]; simp only [World.cell?, hf.block g hg]
  have l4 := hB g4 (.inl rfl)
  have l6 := hB g6 (.inr (.inl rfl))
  have l0 := hB 0 (by omega)
  have l1 := hB 1 (by omega)
  have l2 := hB 2 (by omega)
  exact ⟨k l0 h.z0, k l1 h.z4, k l2 h.z6, h.ne, k l4 h.a4, k l6 h.a6, k l4 h.b4, k l6 h.b6, by rw [hf.block _ l4]; exact h.h4, by rw [hf.block _ l6]; exact h.h6⟩
/-- the variables lie below B -/
def IpB (B g4 g6 : Nat) : Prop := ∀ g, g = g4 ∨ g = g6 ∨ g ≤ 2 → g < B

set_option maxRecDepth 100000 in
set_option maxHeartbeats 4000000 in
theorem ap46_sp (g4 o4 g6 o6 lo : Nat) (x y z u : UInt8) (hlo : lo = 281470681743360 + pl.be [x, y, z, u]) (v : Value) (w : World) (B : Nat) (hI : IpVars w g4 o4 g6 o6) (hIB : IpB B g4 g6) (hv : Byts w B v []) (hB : B ≤ w.heap.size) :
    Calls Tryd.prog 103 #[.agg #[.int .u64 0, .int .u64 (lo : Int), .pointer (some ⟨g6, o6, none⟩)], v] w fun e w' => ∃ v', e = .returned v' ∧ Byts w' B v' ([58, 58, 102, 102, 102, 102, 58] ++ pl.dots [x, y, z, u]) ∧ Fr B w w' := by
  have hl4 : lo / 4294967296 = 65535 := by
    have hx := x.toNat_lt
    have hy := y.toNat_lt
    have hz := z.toNat_lt
    have hu := u.toNat_lt
    rw [pl.be4] at hlo
    omega
  obtain ⟨gb, hgb⟩ : ∃ gb, w.heap.size = gb := ⟨_, rfl⟩
  obtain ⟨W1, hW1⟩ : ∃ W1, w.alloc (Obj.cells #[Value.int IntKind.u64 0, Value.int IntKind.u64 (lo : Int), Value.pointer (some ⟨g6, o6, none⟩)] 119) = W1 := ⟨_, rfl⟩
  have hA : Blk W1 gb #[Value.int IntKind.u64 0, Value.int IntKind.u64 (lo : Int), Value.pointer (some ⟨g6, o6, none⟩)] 119 := by
    rw [← hW1, ← hgb]; exact Blk.new w _ _
  have f0 : Fr B w W1 := by rw [← hW1]; exact Fr.alloc0 _ hB
  have v0 : Byts W1 B v [] := by rw [← hW1]; exact World.ownsRow.alloc hv _
  have hB1 : B ≤ W1.heap.size := Nat.le_trans hB f0.bel.size
  have r0 : Fr B W1 W1 := Fr.refl _ _
  have hI1 := hI.fr f0.bel hIB
  have hum := fun W (hf : Fr B W1 W) => unm_sp g4 o4 g6 o6 lo hl4 W (hI1.fr hf.bel hIB)
  have hap := fun v l W => ap4_sp 0 lo g4 o4 x y z u hlo v l W B
  have hap' : ∀ (v : Value) (l : List UInt8) (W : World), Byts W B v l → B ≤ W.heap.size → l.length ≤ 100 → Calls Tryd.prog 101 #[.agg #[.int .u64 0, .int .u64 (lo : Int), .pointer (some ⟨g4, o4, none⟩)], v] W fun e w' => ∃ v', e = .returned v' ∧ Byts w' B v' (l ++ pl.dots [x, y, z, u]) ∧ Fr B W w' := hap
  have hlen : (pl.dots [x, y, z, u]).length ≤ 15 := by
    have n0 := (pl.oct_num x).2.2.2
    have n1 := (pl.oct_num y).2.2.2
    have n2 := (pl.oct_num z).2.2.2
    have n3 := (pl.oct_num u).2.2.2
    simp only [pl.dots, List.length_append, List.length_cons]; omega
  obtain ⟨D, hD⟩ : ∃ D, pl.dots [x, y, z, u] = D := ⟨_, rfl⟩
  rw [hD] at hlen hap' ⊢
  have HUM := Lib.hid hum
  have HAP := Lib.hid hap'
  have HA := Lib.hid hA
  have HI1 := Lib.hid hI1
  have hsame := fun W => ptr_same W ⟨g6, o6, none⟩
  clear hum hap hap' hA hI1 hI hD hlo hl4
  go_enter Tryd.func103, Tryd.ntmps103
  go_wp2_with (first
    | (go_at_call 101; refine (HAP.out _ _ _ vb sb (by simp)).mono ?_; rintro e wc ⟨vc, rfl, hvc, hfc⟩; have fc := fb.trans hfc; obtain ⟨c0, c1, c2, _⟩ := blk3 (fc.oth _ _ _ (by decide) HA.out); have hz6 := (HI1.out.fr fc.bel hIB).z6)
    | (go_at_call 115; have hx0 := fa; refine (HUM.out _ fa).mono ?_; rintro e wb ⟨rfl, hbb⟩; have fb := fa.trans (Fr.of hbb sa); have vb := va.below hbb; have sb := Nat.le_trans hB1 fb.bel.size)
    | (at_builtin; refine app_str_fr (w := W1) ⟨#[58, 58, 102, 102, 102, 102, 58]⟩ 26 9 Tryd.underlying26 Tryd.underlying9 rfl _ _ rfl rfl B v0 rfl (by decide) r0 hB1 ?_; intro va1 wa va fa; have sa := Nat.le_trans hB1 fa.bel.size; obtain ⟨c0, c1, c2, _⟩ := blk3 (fa.oth _ _ _ (by decide) HA.out)))
  go_ret
  exact ⟨_, rfl, by simpa using hvc, f0.trans fc⟩

end Go.Proofs.YtfkohahlpfejbaaDoor
