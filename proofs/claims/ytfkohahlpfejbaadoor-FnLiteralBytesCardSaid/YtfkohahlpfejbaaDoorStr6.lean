/-
  WALKS: net/netip: the groups of an address of IPv6.
-/
import Derived.Test.YtfkohahlpfejbaaDoorStr4
namespace Go.Proofs.YtfkohahlpfejbaaDoor
open Go.RowKit

set_option maxRecDepth 100000 in
set_option maxHeartbeats 4000000 in
theorem halves_sp (gb : Nat) (w : World) :
    Calls Tryd.prog 120 #[.pointer (some ⟨gb, 0, none⟩)] w fun e w' => e = .returned (.agg #[.pointer (some ⟨gb, 0, none⟩), .pointer (some ⟨gb, 1, none⟩)]) ∧ Below w.heap.size w w' := by
  obtain ⟨W1, hW1⟩ : ∃ W1, w.alloc (Obj.cells #[Value.pointer none, Value.pointer none] 167) = W1 := ⟨_, rfl⟩
  have hA : Blk W1 w.heap.size #[Value.pointer none, Value.pointer none] 167 := by rw [← hW1]; exact Blk.new w _ _
  have hb : Below w.heap.size w W1 := by rw [← hW1]; exact (Below.refl _ _).alloc (Nat.le_refl _) _
  obtain ⟨g2, hg2⟩ : ∃ g2, w.heap.size = g2 := ⟨_, rfl⟩
  rw [hg2] at hA hb
  have c0 := hA.cell 0
  have c1 := hA.cell 1
  have f0 := hA.frozen 0
  have f1 := hA.frozen 1
  have HA := Lib.hid hA
  clear hA
  go_enter Tryd.func120, Tryd.ntmps120
  go_wp2_with fail
  go_region
  go_wp2_with fail
  have h2 := (HA.out.set 0 (.pointer (some ⟨gb, 0, none⟩))).set 1 (.pointer (some ⟨gb, 1, none⟩))
  refine bodyPost_ret (results_cell_row rfl _ _ g2 _ _ _ _ rfl (h2.drewN 1) Tryd.underlying167 rfl (by kernel_rfl)) rfl ?_
  exact ⟨rfl, by rw [hg2]; exact below_drewN ((hb.setCell (p := ⟨g2, 0, none⟩) (Nat.le_refl _) _).setCell (p := ⟨g2, 1, none⟩) (Nat.le_refl _) _) 1⟩

theorem index_two {P : Program} (w : World) (t e : TypeId) (x y : Value) (hu : P.underlying t = some (.array 2 e)) (hs : (sizeOf e).run P w = .ok 1 w) (ha : (isAgg e).run P w = .ok false w) :
    (Instr.index t (.agg #[x, y]) (.int .u8 0)).run P w = .ok x w ∧ (Instr.index t (.agg #[x, y]) (.int .u8 1)).run P w = .ok y w := by
  constructor
  · simp [Instr.index, asIntOf, run_underlying hu, part, hs, ha]
  · simp [Instr.index, asIntOf, run_underlying hu, part, hs, ha]
theorem halves_index (w : World) (x y : Value) : (Instr.index 167 (.agg #[x, y]) (.int .u8 0)).run Tryd.prog w = .ok x w ∧ (Instr.index 167 (.agg #[x, y]) (.int .u8 1)).run Tryd.prog w = .ok y w :=
  index_two w _ (Tryd.prog.elem 167) x y (by kernel_rfl) (by kernel_rfl) (by kernel_rfl)

set_option maxRecDepth 100000 in
set_option maxHeartbeats 4000000 in
theorem v6u0_sp (hi lo g o x : Nat) (hh : hi < 18446744073709551616) (hq : (hi : Int) / 281474976710656 % 65536 = (x : Int)) (w : World) :
    Calls Tryd.prog 116 #[.agg #[.int .u64 (hi : Int), .int .u64 (lo : Int), .pointer (some ⟨g, o, none⟩)], .int .u8 0] w fun e w' => e = .returned (.int .u16 (x : Int)) ∧ Below w.heap.size w w' := by
  obtain ⟨W1, hW1⟩ : ∃ W1, w.alloc (Obj.cells #[Value.int IntKind.u64 (hi : Int), Value.int IntKind.u64 (lo : Int), Value.pointer (some ⟨g, o, none⟩)] 119) = W1 := ⟨_, rfl⟩
  have hA : Blk W1 w.heap.size #[Value.int IntKind.u64 (hi : Int), Value.int IntKind.u64 (lo : Int), Value.pointer (some ⟨g, o, none⟩)] 119 := by rw [← hW1]; exact Blk.new w _ _
  have hb : Below w.heap.size w W1 := by rw [← hW1]; exact (Below.refl _ _).alloc (Nat.le_refl _) _
  obtain ⟨gb, hgb⟩ : ∃ gb, w.heap.size = gb := ⟨_, rfl⟩
  rw [hgb] at hA hb
  have hs := halves_sp gb W1
  have HS := Lib.hid hs
  have HA := Lib.hid hA
  have hbs : gb ≤ W1.heap.size := Nat.le_of_lt hA.lt
  have hix := fun W => (halves_index W (.pointer (some ⟨gb, 0, none⟩)) (.pointer (some ⟨gb, 1, none⟩))).1
  have hiy := fun W => (halves_index W (.pointer (some ⟨gb, 0, none⟩)) (.pointer (some ⟨gb, 1, none⟩))).2
  clear hs hA
  go_enter Tryd.func116, Tryd.ntmps116
  go_wp2_with (go_at_call 120; refine HS.out.mono ?_; rintro e w2 ⟨rfl, hb2⟩; obtain ⟨c0, c1, _⟩ := blk3 (HA.out.below hb2 HA.out.lt); have hb3 := hb.trans (hb2.mono hbs))
  go_ret
  have hq2 : (hi : Int) / 281474976710656 = (x : Int) := by omega
  exact ⟨by rw [← hq2]; rfl, hgb ▸ hb3⟩

set_option maxRecDepth 100000 in
set_option maxHeartbeats 4000000 in
theorem v6u1_sp (hi lo g o x : Nat) (hq : (hi : Int) / 4294967296 % 65536 = (x : Int)) (w : World) :
    Calls Tryd.prog 116 #[.agg #[.int .u64 (hi : Int), .int .u64 (lo : Int), .pointer (some ⟨g, o, none⟩)], .int .u8 1] w fun e w' => e = .returned (.int .u16 (x : Int)) ∧ Below w.heap.size w w' := by
  obtain ⟨W1, hW1⟩ : ∃ W1, w.alloc (Obj.cells #[Value.int IntKind.u64 (hi : Int), Value.int IntKind.u64 (lo : Int), Value.pointer (some ⟨g, o, none⟩)] 119) = W1 := ⟨_, rfl⟩
  have hA : Blk W1 w.heap.size #[Value.int IntKind.u64 (hi : Int), Value.int IntKind.u64 (lo : Int), Value.pointer (some ⟨g, o, none⟩)] 119 := by rw [← hW1]; exact Blk.new w _ _
  have hb : Below w.heap.size w W1 := by rw [← hW1]; exact (Below.refl _ _).alloc (Nat.le_refl _) _
  obtain ⟨gb, hgb⟩ : ∃ gb, w.heap.size = gb := ⟨_, rfl⟩
  rw [hgb] at hA hb
  have hs := halves_sp gb W1
  have HS := Lib.hid hs
  have HA := Lib.hid hA
  have hbs : gb ≤ W1.heap.size := Nat.le_of_lt hA.lt
  have hix := fun W => (halves_index W (.pointer (some ⟨gb, 0, none⟩)) (.pointer (some ⟨gb, 1, none⟩))).1
  have hiy := fun W => (halves_index W (.pointer (some ⟨gb, 0, none⟩)) (.pointer (some ⟨gb, 1, none⟩))).2
  clear hs hA
  go_enter Tryd.func116, Tryd.ntmps116
  go_wp2_with (go_at_call 120; refine HS.out.mono ?_; rintro e w2 ⟨rfl, hb2⟩; obtain ⟨c0, c1, _⟩ := blk3 (HA.out.below hb2 HA.out.lt); have hb3 := hb.trans (hb2.mono hbs))
  go_ret
  have hq2 := hq
  exact ⟨by rw [← hq2]; rfl, hgb ▸ hb3⟩

set_option maxRecDepth 100000 in
set_option maxHeartbeats 4000000 in
theorem v6u2_sp (hi lo g o x : Nat) (hq : (hi : Int) / 65536 % 65536 = (x : Int)) (w : World) :
    Calls Tryd.prog 116 #[.agg #[.int .u64 (hi : Int), .int .u64 (lo : Int), .pointer (some ⟨g, o, none⟩)], .int .u8 2] w fun e w' => e = .returned (.int .u16 (x : Int)) ∧ Below w.heap.size w w' := by
  obtain ⟨W1, hW1⟩ : ∃ W1, w.alloc (Obj.cells #[Value.int IntKind.u64 (hi : Int), Value.int IntKind.u64 (lo : Int), Value.pointer (some ⟨g, o, none⟩)] 119) = W1 := ⟨_, rfl⟩
  have hA : Blk W1 w.heap.size #[Value.int IntKind.u64 (hi : Int), Value.int IntKind.u64 (lo : Int), Value.pointer (some ⟨g, o, none⟩)] 119 := by rw [← hW1]; exact Blk.new w _ _
  have hb : Below w.heap.size w W1 := by rw [← hW1]; exact (Below.refl _ _).alloc (Nat.le_refl _) _
  obtain ⟨gb, hgb⟩ : ∃ gb, w.heap.size = gb := ⟨_, rfl⟩
  rw [hgb] at hA hb
  have hs := halves_sp gb W1
  have HS := Lib.hid hs
  have HA := Lib.hid hA
  have hbs : gb ≤ W1.heap.size := Nat.le_of_lt hA.lt
  have hix := fun W => (halves_index W (.pointer (some ⟨gb, 0, none⟩)) (.pointer (some ⟨gb, 1, none⟩))).1
  have hiy := fun W => (halves_index W (.pointer (some ⟨gb, 0, none⟩)) (.pointer (some ⟨gb, 1, none⟩))).2
  clear hs hA
  go_enter Tryd.func116, Tryd.ntmps116
  go_wp2_with (go_at_call 120; refine HS.out.mono ?_; rintro e w2 ⟨rfl, hb2⟩; obtain ⟨c0, c1, _⟩ := blk3 (HA.out.below hb2 HA.out.lt); have hb3 := hb.trans (hb2.mono hbs))
  go_ret
  have hq2 := hq
  exact ⟨by rw [← hq2]; rfl, hgb ▸ hb3⟩

set_option maxRecDepth 100000 in
set_option maxHeartbeats 4000000 in
theorem v6u3_sp (hi lo g o x : Nat) (hq : (hi : Int) % 65536 = (x : Int)) (w : World) :
    Calls Tryd.prog 116 #[.agg #[.int .u64 (hi : Int), .int .u64 (lo : Int), .pointer (some ⟨g, o, none⟩)], .int .u8 3] w fun e w' => e = .returned (.int .u16 (x : Int)) ∧ Below w.heap.size w w' := by
  obtain ⟨W1, hW1⟩ : ∃ W1, w.alloc (Obj.cells #[Value.int IntKind.u64 (hi : Int), Value.int IntKind.u64 (lo : Int), Value.pointer (some ⟨g, o, none⟩)] 119) = W1 := ⟨_, rfl⟩
  have hA : Blk W1 w.heap.size #[Value.int IntKind.u64 (hi : Int), Value.int IntKind.u64 (lo : Int), Value.pointer (some ⟨g, o, none⟩)] 119 := by rw [← hW1]; exact Blk.new w _ _
  have hb : Below w.heap.size w W1 := by rw [← hW1]; exact (Below.refl _ _).alloc (Nat.le_refl _) _
  obtain ⟨gb, hgb⟩ : ∃ gb, w.heap.size = gb := ⟨_, rfl⟩
  rw [hgb] at hA hb
  have hs := halves_sp gb W1
  have HS := Lib.hid hs
  have HA := Lib.hid hA
  have hbs : gb ≤ W1.heap.size := Nat.le_of_lt hA.lt
  have hix := fun W => (halves_index W (.pointer (some ⟨gb, 0, none⟩)) (.pointer (some ⟨gb, 1, none⟩))).1
  have hiy := fun W => (halves_index W (.pointer (some ⟨gb, 0, none⟩)) (.pointer (some ⟨gb, 1, none⟩))).2
  clear hs hA
  go_enter Tryd.func116, Tryd.ntmps116
  go_wp2_with (go_at_call 120; refine HS.out.mono ?_; rintro e w2 ⟨rfl, hb2⟩; obtain ⟨c0, c1, _⟩ := blk3 (HA.out.below hb2 HA.out.lt); have hb3 := hb.trans (hb2.mono hbs))
  go_ret
  have hq2 := hq
  exact ⟨by rw [← hq2]; rfl, hgb ▸ hb3⟩

set_option maxRecDepth 100000 in
set_option maxHeartbeats 4000000 in
theorem v6u4_sp (hi lo g o x : Nat) (hh : lo < 18446744073709551616) (hq : (lo : Int) / 281474976710656 % 65536 = (x : Int)) (w : World) :
    Calls Tryd.prog 116 #[.agg #[.int .u64 (hi : Int), .int .u64 (lo : Int), .pointer (some ⟨g, o, none⟩)], .int .u8 4] w fun e w' => e = .returned (.int .u16 (x : Int)) ∧ Below w.heap.size w w' := by
  obtain ⟨W1, hW1⟩ : ∃ W1, w.alloc (Obj.cells #[Value.int IntKind.u64 (hi : Int), Value.int IntKind.u64 (lo : Int), Value.pointer (some ⟨g, o, none⟩)] 119) = W1 := ⟨_, rfl⟩
  have hA : Blk W1 w.heap.size #[Value.int IntKind.u64 (hi : Int), Value.int IntKind.u64 (lo : Int), Value.pointer (some ⟨g, o, none⟩)] 119 := by rw [← hW1]; exact Blk.new w _ _
  have hb : Below w.heap.size w W1 := by rw [← hW1]; exact (Below.refl _ _).alloc (Nat.le_refl _) _
  obtain ⟨gb, hgb⟩ : ∃ gb, w.heap.size = gb := ⟨_, rfl⟩
  rw [hgb] at hA hb
  have hs := halves_sp gb W1
  have HS := Lib.hid hs
  have HA := Lib.hid hA
  have hbs : gb ≤ W1.heap.size := Nat.le_of_lt hA.lt
  have hix := fun W => (halves_index W (.pointer (some ⟨gb, 0, none⟩)) (.pointer (some ⟨gb, 1, none⟩))).1
  have hiy := fun W => (halves_index W (.pointer (some ⟨gb, 0, none⟩)) (.pointer (some ⟨gb, 1, none⟩))).2
  clear hs hA
  go_enter Tryd.func116, Tryd.ntmps116
  go_wp2_with (go_at_call 120; refine HS.out.mono ?_; rintro e w2 ⟨rfl, hb2⟩; obtain ⟨c0, c1, _⟩ := blk3 (HA.out.below hb2 HA.out.lt); have hb3 := hb.trans (hb2.mono hbs))
  go_ret
  have hq2 : (lo : Int) / 281474976710656 = (x : Int) := by omega
  exact ⟨by rw [← hq2]; rfl, hgb ▸ hb3⟩

set_option maxRecDepth 100000 in
set_option maxHeartbeats 4000000 in
theorem v6u5_sp (hi lo g o x : Nat) (hq : (lo : Int) / 4294967296 % 65536 = (x : Int)) (w : World) :
    Calls Tryd.prog 116 #[.agg #[.int .u64 (hi : Int), .int .u64 (lo : Int), .pointer (some ⟨g, o, none⟩)], .int .u8 5] w fun e w' => e = .returned (.int .u16 (x : Int)) ∧ Below w.heap.size w w' := by
  obtain ⟨W1, hW1⟩ : ∃ W1, w.alloc (Obj.cells #[Value.int IntKind.u64 (hi : Int), Value.int IntKind.u64 (lo : Int), Value.pointer (some ⟨g, o, none⟩)] 119) = W1 := ⟨_, rfl⟩
  have hA : Blk W1 w.heap.size #[Value.int IntKind.u64 (hi : Int), Value.int IntKind.u64 (lo : Int), Value.pointer (some ⟨g, o, none⟩)] 119 := by rw [← hW1]; exact Blk.new w _ _
  have hb : Below w.heap.size w W1 := by rw [← hW1]; exact (Below.refl _ _).alloc (Nat.le_refl _) _
  obtain ⟨gb, hgb⟩ : ∃ gb, w.heap.size = gb := ⟨_, rfl⟩
  rw [hgb] at hA hb
  have hs := halves_sp gb W1
  have HS := Lib.hid hs
  have HA := Lib.hid hA
  have hbs : gb ≤ W1.heap.size := Nat.le_of_lt hA.lt
  have hix := fun W => (halves_index W (.pointer (some ⟨gb, 0, none⟩)) (.pointer (some ⟨gb, 1, none⟩))).1
  have hiy := fun W => (halves_index W (.pointer (some ⟨gb, 0, none⟩)) (.pointer (some ⟨gb, 1, none⟩))).2
  clear hs hA
  go_enter Tryd.func116, Tryd.ntmps116
  go_wp2_with (go_at_call 120; refine HS.out.mono ?_; rintro e w2 ⟨rfl, hb2⟩; obtain ⟨c0, c1, _⟩ := blk3 (HA.out.below hb2 HA.out.lt); have hb3 := hb.trans (hb2.mono hbs))
  go_ret
  have hq2 := hq
  exact ⟨by rw [← hq2]; rfl, hgb ▸ hb3⟩

set_option maxRecDepth 100000 in
set_option maxHeartbeats 4000000 in
theorem v6u6_sp (hi lo g o x : Nat) (hq : (lo : Int) / 65536 % 65536 = (x : Int)) (w : World) :
    Calls Tryd.prog 116 #[.agg #[.int .u64 (hi : Int), .int .u64 (lo : Int), .pointer (some ⟨g, o, none⟩)], .int .u8 6] w fun e w' => e = .returned (.int .u16 (x : Int)) ∧ Below w.heap.size w w' := by
  obtain ⟨W1, hW1⟩ : ∃ W1, w.alloc (Obj.cells #[Value.int IntKind.u64 (hi : Int), Value.int IntKind.u64 (lo : Int), Value.pointer (some ⟨g, o, none⟩)] 119) = W1 := ⟨_, rfl⟩
  have hA : Blk W1 w.heap.size #[Value.int IntKind.u64 (hi : Int), Value.int IntKind.u64 (lo : Int), Value.pointer (some ⟨g, o, none⟩)] 119 := by rw [← hW1]; exact Blk.new w _ _
  have hb : Below w.heap.size w W1 := by rw [← hW1]; exact (Below.refl _ _).alloc (Nat.le_refl _) _
  obtain ⟨gb, hgb⟩ : ∃ gb, w.heap.size = gb := ⟨_, rfl⟩
  rw [hgb] at hA hb
  have hs := halves_sp gb W1
  have HS := Lib.hid hs
  have HA := Lib.hid hA
  have hbs : gb ≤ W1.heap.size := Nat.le_of_lt hA.lt
  have hix := fun W => (halves_index W (.pointer (some ⟨gb, 0, none⟩)) (.pointer (some ⟨gb, 1, none⟩))).1
  have hiy := fun W => (halves_index W (.pointer (some ⟨gb, 0, none⟩)) (.pointer (some ⟨gb, 1, none⟩))).2
  clear hs hA
  go_enter Tryd.func116, Tryd.ntmps116
  go_wp2_with (go_at_call 120; refine HS.out.mono ?_; rintro e w2 ⟨rfl, hb2⟩; obtain ⟨c0, c1, _⟩ := blk3 (HA.out.below hb2 HA.out.lt); have hb3 := hb.trans (hb2.mono hbs))
  go_ret
  have hq2 := hq
  exact ⟨by rw [← hq2]; rfl, hgb ▸ hb3⟩

set_option maxRecDepth 100000 in
set_option maxHeartbeats 4000000 in
theorem v6u7_sp (hi lo g o x : Nat) (hq : (lo : Int) % 65536 = (x : Int)) (w : World) :
    Calls Tryd.prog 116 #[.agg #[.int .u64 (hi : Int), .int .u64 (lo : Int), .pointer (some ⟨g, o, none⟩)], .int .u8 7] w fun e w' => e = .returned (.int .u16 (x : Int)) ∧ Below w.heap.size w w' := by
  obtain ⟨W1, hW1⟩ : ∃ W1, w.alloc (Obj.cells #[Value.int IntKind.u64 (hi : Int), Value.int IntKind.u64 (lo : Int), Value.pointer (some ⟨g, o, none⟩)] 119) = W1 := ⟨_, rfl⟩
  have hA : Blk W1 w.heap.size #[Value.int IntKind.u64 (hi : Int), Value.int IntKind.u64 (lo : Int), Value.pointer (some ⟨g, o, none⟩)] 119 := by rw [← hW1]; exact Blk.new w _ _
  have hb : Below w.heap.size w W1 := by rw [← hW1]; exact (Below.refl _ _).alloc (Nat.le_refl _) _
  obtain ⟨gb, hgb⟩ : ∃ gb, w.heap.size = gb := ⟨_, rfl⟩
  rw [hgb] at hA hb
  have hs := halves_sp gb W1
  have HS := Lib.hid hs
  have HA := Lib.hid hA
  have hbs : gb ≤ W1.heap.size := Nat.le_of_lt hA.lt
  have hix := fun W => (halves_index W (.pointer (some ⟨gb, 0, none⟩)) (.pointer (some ⟨gb, 1, none⟩))).1
  have hiy := fun W => (halves_index W (.pointer (some ⟨gb, 0, none⟩)) (.pointer (some ⟨gb, 1, none⟩))).2
  clear hs hA
  go_enter Tryd.func116, Tryd.ntmps116
  go_wp2_with (go_at_call 120; refine HS.out.mono ?_; rintro e w2 ⟨rfl, hb2⟩; obtain ⟨c0, c1, _⟩ := blk3 (HA.out.below hb2 HA.out.lt); have hb3 := hb.trans (hb2.mono hbs))
  go_ret
  have hq2 := hq
  exact ⟨by rw [← hq2]; rfl, hgb ▸ hb3⟩

end Go.Proofs.YtfkohahlpfejbaaDoor
