/-
  WALKS: net/netip: String of an address.
-/
import Derived.Test.YtfkohahlpfejbaaDoorStr9
namespace Go.Proofs.YtfkohahlpfejbaaDoor
open Go.RowKit

set_option maxRecDepth 100000 in
set_option maxHeartbeats 4000000 in
theorem valid_sp (g4 o4 g6 o6 hi lo g o : Nat) (w : World) (hI : IpVars w g4 o4 g6 o6) :
    Calls Tryd.prog 100 #[.agg #[.int .u64 (hi : Int), .int .u64 (lo : Int), .pointer (some ⟨g, o, none⟩)]] w fun e w' => e = .returned (.bool true) ∧ Below w.heap.size w w' := by
  have h0 := fun o => (hI.alloc o).z0
  have n4 := fun x => ptr_nil (w.alloc x) ⟨g, o, none⟩
  go_enter Tryd.func100, Tryd.ntmps100
  go_wp2_with fail
  go_ret
  exact ⟨rfl, (Below.refl _ _).alloc (Nat.le_refl _) _⟩

theorem IpVars.ipB {w : World} {g4 o4 g6 o6 : Nat} (h : IpVars w g4 o4 g6 o6) {B : Nat} (hB : w.heap.size ≤ B) : IpB B g4 g6 := by
  intro g hg
  rcases hg with rfl | rfl | hg
  · exact Nat.lt_of_lt_of_le (cell_lt h.b4) hB
  · exact Nat.lt_of_lt_of_le (cell_lt h.b6) hB
  · have h2 := cell_lt h.z6; omega

set_option maxRecDepth 100000 in
set_option maxHeartbeats 8000000 in
theorem str4_sp (g4 o4 g6 o6 : Nat) (x y z u : UInt8) (w : World) (hI : IpVars w g4 o4 g6 o6) :
    Calls Tryd.prog 96 #[adr g4 o4 g6 o6 [x, y, z, u]] w fun e w' => e = .returned (.string ⟨(pl.dots [x, y, z, u]).toArray⟩) ∧ Below w.heap.size w w' := by
  obtain ⟨i0, hi, hz0, hz1, hz2⟩ := info_parts infoByte
  obtain ⟨lo, hlo⟩ : ∃ lo, 281470681743360 + pl.be [x, y, z, u] = lo := ⟨_, rfl⟩
  have hadr : adr g4 o4 g6 o6 [x, y, z, u] = .agg #[.int .u64 0, .int .u64 (lo : Int), .pointer (some ⟨g4, o4, none⟩)] := by rw [← hlo]; rfl
  rw [hadr]
  obtain ⟨gb, hgb⟩ : ∃ gb, w.heap.size = gb := ⟨_, rfl⟩
  obtain ⟨W1, hW1⟩ : ∃ W1, w.alloc (Obj.cells #[Value.int IntKind.u64 0, Value.int IntKind.u64 (lo : Int), Value.pointer (some ⟨g4, o4, none⟩)] 119) = W1 := ⟨_, rfl⟩
  have hA : Blk W1 gb #[Value.int IntKind.u64 0, Value.int IntKind.u64 (lo : Int), Value.pointer (some ⟨g4, o4, none⟩)] 119 := by
    rw [← hW1, ← hgb]; exact Blk.new w _ _
  have hb : Below gb w W1 := by rw [← hW1, ← hgb]; exact (Below.refl _ _).alloc (Nat.le_refl _) _
  have hsz1 : W1.heap.size = gb + 1 := by rw [← hW1, World.size_alloc, hgb]
  have hI1 := hI.below hb (by omega)
  have hIB : IpB (gb + 1) g4 g6 := hI.ipB (by omega)
  have hva : Calls Tryd.prog 100 #[.agg #[.int .u64 0, .int .u64 (lo : Int), .pointer (some ⟨g4, o4, none⟩)]] W1 fun e w' => e = .returned (.bool true) ∧ Below W1.heap.size W1 w' := valid_sp g4 o4 g6 o6 0 lo g4 o4 W1 hI1
  have hap : ∀ (v : Value) (l : List UInt8) (W : World), Byts W (gb + 1) v l → gb + 1 ≤ W.heap.size → l.length ≤ 100 → Calls Tryd.prog 101 #[.agg #[.int .u64 0, .int .u64 (lo : Int), .pointer (some ⟨g4, o4, none⟩)], v] W fun e w' => ∃ v', e = .returned v' ∧ Byts w' (gb + 1) v' (l ++ pl.dots [x, y, z, u]) ∧ Fr (gb + 1) W w' := fun v l W => ap4_sp 0 lo g4 o4 x y z u hlo.symm v l W (gb + 1)
  have HVA := Lib.hid hva
  have HAP := Lib.hid hap
  have HA := Lib.hid hA
  have HI1 := Lib.hid hI1
  have HB := Lib.hid hb
  have s4 := fun W => ptr_same W ⟨g4, o4, none⟩
  obtain ⟨c0, c1, c2, _⟩ := blk3 hA
  clear hva hap hA hI1 hI hb hlo hadr
  go_enter Tryd.func96, Tryd.ntmps96
  go_wp2_with (first
    | (go_at_call 101; refine (HAP.out _ _ _ HBY.out hs3 (by simp)).mono ?_; rintro e w4 ⟨v4, rfl, hv4, hf4⟩; have hconv := conv_back (P := Tryd.prog) 26 9 5 Tryd.underlying26 Tryd.underlying5 Tryd.underlying9 hv4.reads; have HF4 := Lib.hid hf4; clear hv4 hf4)
    | (go_at_call 100; refine HVA.out.mono ?_; rintro e w2 ⟨rfl, hb2⟩; have HB2 := Lib.hid hb2; have hz4 := (HI1.out.below hb2 (Nat.le_refl _)).z4; have hs2 := hb2.size; obtain ⟨d0, d1, d2, _⟩ := blk3 (HA.out.below hb2 HA.out.lt); clear hb2)
    | (at_make; refine wpList_make_own _ rfl _ _ 26 rfl (gb + 1) 5 i0 (.int .u8 0) 1 Tryd.underlying26 hi hz0 hz1 _ _ _ 15 rfl rfl rfl (by rw [hz2]; omega) (by unfold maxLen; omega) (by omega) ?_; intro w3 hown3 hg3; have HBY : Hid (Byts w3 (gb + 1) (.slice (some ⟨_, 0, none⟩) 0 15) []) := Lib.hid hown3; have hs3 := Nat.le_trans (by omega : gb + 1 ≤ w2.heap.size) hg3.size; have HG3 : Hid (Below (gb + 1) w2 w3) := Lib.hid ((Below.refl (gb + 1) w2).grown hg3 (by omega) (fun k hk => by simp at hk)); obtain ⟨q0, q1, q2, _⟩ := blk3 ((HA.out.below HB2.out HA.out.lt).below HG3.out (Nat.lt_succ_self _)); clear hown3 hg3))
  go_ret
  exact ⟨rfl, by rw [hgb]; exact (HB.out.trans (HB2.out.mono (by omega))).trans ((HG3.out.mono (Nat.le_succ _)).trans (HF4.out.bel.mono (Nat.le_succ _)))⟩

set_option maxRecDepth 100000 in
set_option maxHeartbeats 8000000 in
theorem strm_sp (g4 o4 g6 o6 lo : Nat) (x y z u : UInt8) (hlo : lo = 281470681743360 + pl.be [x, y, z, u]) (w : World) (hI : IpVars w g4 o4 g6 o6) :
    Calls Tryd.prog 96 #[.agg #[.int .u64 0, .int .u64 (lo : Int), .pointer (some ⟨g6, o6, none⟩)]] w fun e w' => e = .returned (.string ⟨([58, 58, 102, 102, 102, 102, 58] ++ pl.dots [x, y, z, u]).toArray⟩) ∧ Below w.heap.size w w' := by
  obtain ⟨i0, hi0, hz0, hz1, hz2⟩ := info_parts infoByte
  have hl4 : ((lo : Int) / 4294967296 == 65535) = true := by
    have hx := x.toNat_lt
    have hy := y.toNat_lt
    have hz := z.toNat_lt
    have hu := u.toNat_lt
    rw [pl.be4] at hlo
    rw [beq_iff_eq]; omega
  obtain ⟨gb, hgb⟩ : ∃ gb, w.heap.size = gb := ⟨_, rfl⟩
  obtain ⟨W1, hW1⟩ : ∃ W1, w.alloc (Obj.cells #[Value.int IntKind.u64 0, Value.int IntKind.u64 (lo : Int), Value.pointer (some ⟨g6, o6, none⟩)] 119) = W1 := ⟨_, rfl⟩
  have hA : Blk W1 gb #[Value.int IntKind.u64 0, Value.int IntKind.u64 (lo : Int), Value.pointer (some ⟨g6, o6, none⟩)] 119 := by
    rw [← hW1, ← hgb]; exact Blk.new w _ _
  have hb : Below gb w W1 := by rw [← hW1, ← hgb]; exact (Below.refl _ _).alloc (Nat.le_refl _) _
  have hsz1 : W1.heap.size = gb + 1 := by rw [← hW1, World.size_alloc, hgb]
  have hI1 := hI.below hb (by omega)
  have hIB : IpB (gb + 1) g4 g6 := hI.ipB (by omega)
  have hva : Calls Tryd.prog 100 #[.agg #[.int .u64 0, .int .u64 (lo : Int), .pointer (some ⟨g6, o6, none⟩)]] W1 fun e w' => e = .returned (.bool true) ∧ Below W1.heap.size W1 w' := valid_sp g4 o4 g6 o6 0 lo g6 o6 W1 hI1
  have his : ∀ W, IpVars W g4 o4 g6 o6 → Calls Tryd.prog 102 #[.agg #[.int .u64 0, .int .u64 (lo : Int), .pointer (some ⟨g6, o6, none⟩)]] W fun e w' => e = .returned (.bool true) ∧ Below W.heap.size W w' := fun W hW => is46_zero g4 o4 g6 o6 lo true hl4 W hW
  have hap : ∀ (v : Value) (W : World), Byts W (gb + 1) v [] → gb + 1 ≤ W.heap.size → IpVars W g4 o4 g6 o6 → Calls Tryd.prog 103 #[.agg #[.int .u64 0, .int .u64 (lo : Int), .pointer (some ⟨g6, o6, none⟩)], v] W fun e w' => ∃ v', e = .returned v' ∧ Byts w' (gb + 1) v' ([58, 58, 102, 102, 102, 102, 58] ++ pl.dots [x, y, z, u]) ∧ Fr (gb + 1) W w' := fun v W hv hB hW => ap46_sp g4 o4 g6 o6 lo x y z u hlo v W (gb + 1) hW hIB hv hB
  have HVA := Lib.hid hva
  have HAP := Lib.hid hap
  have HIS := Lib.hid his
  have HA := Lib.hid hA
  have HI1 := Lib.hid hI1
  have HB := Lib.hid hb
  obtain ⟨c0, c1, c2, _⟩ := blk3 hA
  clear hva hap his hA hI1 hI hb hl4 hlo
  go_enter Tryd.func96, Tryd.ntmps96
  go_wp2_with (first
    | (go_at_call 103; refine (HAP.out _ _ HBY.out hs3 HI5.out).mono ?_; rintro e w4 ⟨v4, rfl, hv4, hf4⟩; have hconv := conv_back (P := Tryd.prog) 26 9 5 Tryd.underlying26 Tryd.underlying5 Tryd.underlying9 hv4.reads; have HF4 := Lib.hid hf4; clear hv4 hf4)
    | (go_at_call 102; refine (HIS.out _ HI2.out).mono ?_; rintro e w5 ⟨rfl, hb5⟩; have HB5 := Lib.hid hb5; have HI4 := Lib.hid (HI2.out.below hb5 (Nat.le_refl _)); have hs5 := hb5.size; obtain ⟨r0, r1, r2, _⟩ := blk3 ((HA.out.below HB2.out HA.out.lt).below hb5 (by omega)); clear hb5)
    | (go_at_call 100; refine HVA.out.mono ?_; rintro e w2 ⟨rfl, hb2⟩; have HB2 := Lib.hid hb2; have HI2 := Lib.hid (HI1.out.below hb2 (Nat.le_refl _)); have hz4 := HI2.out.z4; have he := HI2.out.eqs.2; have hs2 := hb2.size; obtain ⟨d0, d1, d2, _⟩ := blk3 (HA.out.below hb2 HA.out.lt); clear hb2)
    | (at_make; refine wpList_make_own _ rfl _ _ 26 rfl (gb + 1) 5 i0 (.int .u8 0) 1 Tryd.underlying26 hi0 hz0 hz1 _ _ _ 29 rfl rfl rfl (by rw [hz2]; omega) (by unfold maxLen; omega) (by omega) ?_; intro w3 hown3 hg3; have HBY : Hid (Byts w3 (gb + 1) (.slice (some ⟨_, 0, none⟩) 0 29) []) := Lib.hid hown3; have hs3 := Nat.le_trans (by omega : gb + 1 ≤ w5.heap.size) hg3.size; have HG3 : Hid (Below (gb + 1) w5 w3) := Lib.hid ((Below.refl (gb + 1) w5).grown hg3 (by omega) (fun k hk => by simp at hk)); have HI5 := Lib.hid (HI4.out.fr HG3.out hIB); obtain ⟨q0, q1, q2, _⟩ := blk3 (((HA.out.below HB2.out HA.out.lt).below HB5.out (by omega)).below HG3.out (Nat.lt_succ_self _)); clear hown3 hg3))
  go_ret
  exact ⟨rfl, by rw [hgb]; exact ((HB.out.trans (HB2.out.mono (by omega))).trans (HB5.out.mono (by omega))).trans ((HG3.out.mono (Nat.le_succ _)).trans (HF4.out.bel.mono (Nat.le_succ _)))⟩

set_option maxRecDepth 100000 in
set_option maxHeartbeats 8000000 in
theorem str6_sp (g4 o4 g6 o6 : Nat) (b : List UInt8) (hb16 : b.length = 16) (hm : pl.mapped b = false) (w : World) (hI : IpVars w g4 o4 g6 o6) :
    Calls Tryd.prog 96 #[.agg #[.int .u64 (pl.be (b.take 8) : Nat), .int .u64 (pl.be (b.drop 8) : Nat), .pointer (some ⟨g6, o6, none⟩)]] w fun e w' => e = .returned (.string ⟨(pl.text6 b).toArray⟩) ∧ Below w.heap.size w w' := by
  obtain ⟨i0, hi0, hz0, hz1, hz2⟩ := info_parts infoByte
  have hap0 := fun v W B h1 h2 h3 h4 => ap6_sp g4 o4 g6 o6 b hb16 v W B h1 h2 h3 h4
  have hno := pl.mapped_no b hb16 hm
  obtain ⟨hi, hhi⟩ : ∃ hi, pl.be (b.take 8) = hi := ⟨_, rfl⟩
  obtain ⟨lo, hlo⟩ : ∃ lo, pl.be (b.drop 8) = lo := ⟨_, rfl⟩
  rw [hhi, hlo] at hap0 hno ⊢
  obtain ⟨T, hT⟩ : ∃ T, pl.text6 b = T := ⟨_, rfl⟩
  rw [hT] at hap0 ⊢
  obtain ⟨gb, hgb⟩ : ∃ gb, w.heap.size = gb := ⟨_, rfl⟩
  obtain ⟨W1, hW1⟩ : ∃ W1, w.alloc (Obj.cells #[Value.int IntKind.u64 (hi : Int), Value.int IntKind.u64 (lo : Int), Value.pointer (some ⟨g6, o6, none⟩)] 119) = W1 := ⟨_, rfl⟩
  have hA : Blk W1 gb #[Value.int IntKind.u64 (hi : Int), Value.int IntKind.u64 (lo : Int), Value.pointer (some ⟨g6, o6, none⟩)] 119 := by
    rw [← hW1, ← hgb]; exact Blk.new w _ _
  have hb : Below gb w W1 := by rw [← hW1, ← hgb]; exact (Below.refl _ _).alloc (Nat.le_refl _) _
  have hsz1 : W1.heap.size = gb + 1 := by rw [← hW1, World.size_alloc, hgb]
  have hI1 := hI.below hb (by omega)
  have hIB : IpB (gb + 1) g4 g6 := hI.ipB (by omega)
  have hva : Calls Tryd.prog 100 #[.agg #[.int .u64 (hi : Int), .int .u64 (lo : Int), .pointer (some ⟨g6, o6, none⟩)]] W1 fun e w' => e = .returned (.bool true) ∧ Below W1.heap.size W1 w' := valid_sp g4 o4 g6 o6 hi lo g6 o6 W1 hI1
  have his : ∀ W, IpVars W g4 o4 g6 o6 → Calls Tryd.prog 102 #[.agg #[.int .u64 (hi : Int), .int .u64 (lo : Int), .pointer (some ⟨g6, o6, none⟩)]] W fun e w' => e = .returned (.bool false) ∧ Below W.heap.size W w' := fun W hW => by
    by_cases h0 : hi = 0
    · have hl : ((lo : Int) / 4294967296 == 65535) = false := by
        rw [beq_eq_false_iff_ne]
        rcases hno with h | h
        · exact absurd h0 h
        · omega
      rw [h0]
      exact is46_zero g4 o4 g6 o6 lo false hl W hW
    · exact is46_hi g4 o4 g6 o6 hi lo h0 W hW
  have hap : ∀ (v : Value) (W : World), Byts W (gb + 1) v [] → gb + 1 ≤ W.heap.size → IpVars W g4 o4 g6 o6 → Calls Tryd.prog 104 #[.agg #[.int .u64 (hi : Int), .int .u64 (lo : Int), .pointer (some ⟨g6, o6, none⟩)], v] W fun e w' => ∃ v', e = .returned v' ∧ Byts w' (gb + 1) v' (T) ∧ Fr (gb + 1) W w' := fun v W hv hB hW => hap0 v W (gb + 1) hW hIB hv hB
  have HVA := Lib.hid hva
  have HAP := Lib.hid hap
  have HIS := Lib.hid his
  have HA := Lib.hid hA
  have HI1 := Lib.hid hI1
  have HB := Lib.hid hb
  obtain ⟨c0, c1, c2, _⟩ := blk3 hA
  clear hva hap his hA hI1 hI hb hap0 hno hT hhi hlo hm hb16
  go_enter Tryd.func96, Tryd.ntmps96
  go_wp2_with (first
    | (go_at_call 104; refine (HAP.out _ _ HBY.out hs3 HI5.out).mono ?_; rintro e w4 ⟨v4, rfl, hv4, hf4⟩; have hconv := conv_back (P := Tryd.prog) 26 9 5 Tryd.underlying26 Tryd.underlying5 Tryd.underlying9 hv4.reads; have HF4 := Lib.hid hf4; clear hv4 hf4)
    | (go_at_call 102; refine (HIS.out _ HI2.out).mono ?_; rintro e w5 ⟨rfl, hb5⟩; have HB5 := Lib.hid hb5; have HI4 := Lib.hid (HI2.out.below hb5 (Nat.le_refl _)); have hs5 := hb5.size; obtain ⟨r0, r1, r2, _⟩ := blk3 ((HA.out.below HB2.out HA.out.lt).below hb5 (by omega)); clear hb5)
    | (go_at_call 100; refine HVA.out.mono ?_; rintro e w2 ⟨rfl, hb2⟩; have HB2 := Lib.hid hb2; have HI2 := Lib.hid (HI1.out.below hb2 (Nat.le_refl _)); have hz4 := HI2.out.z4; have he := HI2.out.eqs.2; have hs2 := hb2.size; obtain ⟨d0, d1, d2, _⟩ := blk3 (HA.out.below hb2 HA.out.lt); clear hb2)
    | (at_make; refine wpList_make_own _ rfl _ _ 26 rfl (gb + 1) 5 i0 (.int .u8 0) 1 Tryd.underlying26 hi0 hz0 hz1 _ _ _ 46 rfl rfl rfl (by rw [hz2]; omega) (by unfold maxLen; omega) (by omega) ?_; intro w3 hown3 hg3; have HBY : Hid (Byts w3 (gb + 1) (.slice (some ⟨_, 0, none⟩) 0 46) []) := Lib.hid hown3; have hs3 := Nat.le_trans (by omega : gb + 1 ≤ w5.heap.size) hg3.size; have HG3 : Hid (Below (gb + 1) w5 w3) := Lib.hid ((Below.refl (gb + 1) w5).grown hg3 (by omega) (fun k hk => by simp at hk)); have HI5 := Lib.hid (HI4.out.fr HG3.out hIB); obtain ⟨q0, q1, q2, _⟩ := blk3 (((HA.out.below HB2.out HA.out.lt).below HB5.out (by omega)).below HG3.out (Nat.lt_succ_self _)); clear hown3 hg3))
  go_ret
  exact ⟨rfl, by rw [hgb]; exact ((HB.out.trans (HB2.out.mono (by omega))).trans (HB5.out.mono (by omega))).trans ((HG3.out.mono (Nat.le_succ _)).trans (HF4.out.bel.mono (Nat.le_succ _)))⟩

theorem str_sp (g4 o4 g6 o6 : Nat) (b : List UInt8) (hb : b.length = 4 ∨ b.length = 16) (w : World) (hI : IpVars w g4 o4 g6 o6) :
    Calls Tryd.prog 96 #[adr g4 o4 g6 o6 b] w fun e w' => e = .returned (.string ⟨(pl.text b).toArray⟩) ∧ Below w.heap.size w w' := by
  rcases hb with hb | hb
  · match b, hb with
    | [x, y, z, u], _ => exact str4_sp g4 o4 g6 o6 x y z u w hI
  · have ha : adr g4 o4 g6 o6 b = .agg #[.int .u64 (pl.be (b.take 8) : Nat), .int .u64 (pl.be (b.drop 8) : Nat), .pointer (some ⟨g6, o6, none⟩)] := by
      unfold adr; rw [if_neg (by omega)]; rfl
    rw [ha]
    unfold pl.text
    rw [if_neg (by omega)]
    by_cases hm : pl.mapped b = true
    · rw [if_pos hm]
      obtain ⟨x, y, z, u, hd, h0, hl⟩ := pl.mapped_be b hb hm
      rw [hd, h0, hl]
      exact strm_sp g4 o4 g6 o6 _ x y z u rfl w hI
    · rw [if_neg hm]
      exact str6_sp g4 o4 g6 o6 b hb (by simpa using hm) w hI

end Go.Proofs.YtfkohahlpfejbaaDoor
