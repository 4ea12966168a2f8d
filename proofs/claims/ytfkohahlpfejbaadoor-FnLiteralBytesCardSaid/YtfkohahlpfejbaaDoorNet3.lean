/-
  WALKS: net/netip: parseIPv4; Is6, WithZone, IPv6Unspecified.
-/
import Derived.Test.YtfkohahlpfejbaaDoorNet2
namespace Go.Proofs.YtfkohahlpfejbaaDoor
open Go.RowKit

def IpRes (g4 o4 g6 o6 : Nat) (w w' : World) (e : Ending) (r : Option (List UInt8)) : Prop :=
  Below w.heap.size w w' ∧ ((r = none ∧ ∃ t x, e = .returned (.tuple #[.agg #[.int .u64 0, .int .u64 0, .pointer none], .iface t x])) ∨ (∃ b, r = some b ∧ (b.length = 4 ∨ b.length = 16) ∧ e = .returned (.tuple #[adr g4 o4 g6 o6 b, .nilIface])))

set_option maxRecDepth 100000 in
set_option maxHeartbeats 4000000 in
set_option maxRecDepth 100000 in
theorem v4_sp (g4 o4 g6 o6 : Nat) (s : ByteArray) (w : World) (hs : s.size ≤ 2147483648) (hI : IpVars w g4 o4 g6 o6) :
    Calls Tryd.prog 98 #[.string s] w fun e w' => IpRes g4 o4 g6 o6 w w' e (pl.four s.data.toList) := by
  obtain ⟨W1, hW1⟩ : ∃ W1, (w.alloc (Obj.cells #[Value.int IntKind.u64 0, Value.int IntKind.u64 0, Value.pointer none] 119)).alloc (Obj.cells #[Value.int IntKind.u8 0, Value.int IntKind.u8 0, Value.int IntKind.u8 0, Value.int IntKind.u8 0] 152) = W1 := ⟨_, rfl⟩
  obtain ⟨g, hg⟩ : ∃ g, w.heap.size = g := ⟨_, rfl⟩
  have hR : Blk W1 g #[Value.int IntKind.u64 0, Value.int IntKind.u64 0, Value.pointer none] 119 := by
    rw [← hW1, ← hg]; exact (Blk.new w _ _).alloc _
  have hF : BBlk W1 (g + 1) [0, 0, 0, 0] 152 := by
    have h := Blk.new (w.alloc (Obj.cells #[Value.int IntKind.u64 0, Value.int IntKind.u64 0, Value.pointer none] 119)) #[Value.int IntKind.u8 0, Value.int IntKind.u8 0, Value.int IntKind.u8 0, Value.int IntKind.u8 0] 152
    rw [hW1, show (w.alloc (Obj.cells #[Value.int IntKind.u64 0, Value.int IntKind.u64 0, Value.pointer none] 119)).heap.size = g + 1 by simp [hg]] at h
    exact h
  have hb1 : Below g w W1 := by rw [← hW1, ← hg]; exact ((Below.refl _ _).alloc (Nat.le_refl _) _).alloc (by simp) _
  have hv := v4f_sp s 0 s.size s (by simp) W1 (g + 1) 0 4 [0, 0, 0, 0] 152 hF (by simp) (Nat.zero_le _) (Nat.le_refl _) hs
  have hv' : Calls Tryd.prog 106 #[.string s, .int .i64 0, .int .i64 (s.size : Int), .slice (some ⟨g + 1, 0, none⟩) 4 4] W1 fun e w' => V4Res W1 w' (g + 1) [0, 0, 0, 0] 0 152 e (pl.four s.data.toList) := hv
  rcases hfour : pl.four s.data.toList with _ | l
  · have hno : Calls Tryd.prog 106 #[.string s, .int .i64 0, .int .i64 (s.size : Int), .slice (some ⟨g + 1, 0, none⟩) 4 4] W1 fun e w' => (∃ t v, e = .returned (.iface t v)) ∧ Below g w w' ∧ Blk w' g #[Value.int IntKind.u64 0, Value.int IntKind.u64 0, Value.pointer none] 119 := by
      refine hv'.mono fun e w' ⟨hb, _, hr⟩ => ?_
      rcases hr with ⟨_, h⟩ | ⟨l, h, _⟩
      · exact ⟨h, hb1.trans (hb.mono (by omega)), hR.below hb (by omega)⟩
      · rw [hfour] at h; cases h
    have HV := Lib.hid hno
    clear hv hv' hno hfour
    go_enter Tryd.func98, Tryd.ntmps98
    go_wp2_with (go_at_call 106; refine HV.out.mono ?_; rintro e w2 ⟨⟨t, v, rfl⟩, hb3, hR2⟩; obtain ⟨hc0, hc1, hc2, hf0, hf1, hf2⟩ := blk3 hR2; have HST := Lib.hid (set3 (.int .u64 0) (.int .u64 0) (.pointer none) hR2); clear hR2)
    obtain ⟨hR3, hB3, _⟩ := HST.out
    refine bodyPost_ret (results_cell_tmp_row rfl _ _ g _ _ _ _ rfl rfl hR3 Tryd.underlying119 rfl (by kernel_rfl)) rfl ?_
    exact ⟨hg ▸ hB3 g w hb3 (Nat.le_refl _), .inl ⟨rfl, _, _, rfl⟩⟩
  · have hl4 := pl.four_l4 _ _ hfour
    have hyes : Calls Tryd.prog 106 #[.string s, .int .i64 0, .int .i64 (s.size : Int), .slice (some ⟨g + 1, 0, none⟩) 4 4] W1 fun e w' => e = .returned .nilIface ∧ Below g w w' ∧ Blk w' g #[Value.int IntKind.u64 0, Value.int IntKind.u64 0, Value.pointer none] 119 ∧ BBlk w' (g + 1) l 152 := by
      refine hv'.mono fun e w' ⟨hb, _, hr⟩ => ?_
      rcases hr with ⟨h, _⟩ | ⟨m, h, he, hk⟩
      · rw [hfour] at h; cases h
      · rw [hfour] at h
        injection h with h
        subst h
        refine ⟨he, hb1.trans (hb.mono (by omega)), hR.below hb (by omega), ?_⟩
        have : (List.take 0 [(0 : UInt8), 0, 0, 0] ++ l ++ List.drop (0 + l.length) [0, 0, 0, 0]) = l := by rw [hl4]; simp
        rw [this] at hk
        exact hk
    match l, hl4 with
    | [a, b, c, d], _ =>
      have hp : ∀ W : World, Below g w W → Calls Tryd.prog 107 #[.agg #[pl.byteV a, pl.byteV b, pl.byteV c, pl.byteV d]] W fun e w' => e = .returned (adr g4 o4 g6 o6 [a, b, c, d]) ∧ Below W.heap.size W w' := fun W hb => af4_sp g4 o4 g6 o6 a b c d W (hI.below hb (by omega))
      have hadr : adr g4 o4 g6 o6 [a, b, c, d] = .agg #[.int .u64 0, .int .u64 (281470681743360 + pl.be [a, b, c, d] : Nat), .pointer (some ⟨g4, o4, none⟩)] := rfl
      obtain ⟨z, hz⟩ : ∃ z : Nat, 281470681743360 + pl.be [a, b, c, d] = z := ⟨_, rfl⟩
      rw [hz] at hadr
      rw [hadr] at hp
      have HV := Lib.hid hyes
      have HP := Lib.hid hp
      have HA := Lib.hid hadr
      clear hv hv' hyes hfour hp hadr hz
      go_enter Tryd.func98, Tryd.ntmps98
      go_wp2_with (first
        | (go_at_call 106; refine HV.out.mono ?_; rintro e w2 ⟨rfl, hb3, hR2, hF2⟩; have c0 := hF2.cell 0 (by simp); have c1 := hF2.cell 1 (by simp); have c2 := hF2.cell 2 (by simp); have c3 := hF2.cell 3 (by simp); have hR2l := hR2.lt)
        | (go_at_call 107; refine (HP.out _ hb3).mono ?_; rintro e w3 ⟨rfl, hb4⟩; have hR3 := hR2.below hb4 hR2l; have hb5 := hb3.trans (hb4.mono (by have := hb3.size; omega)); obtain ⟨hc0, hc1, hc2, hf0, hf1, hf2⟩ := blk3 hR3; have HST := Lib.hid (set3 (.int .u64 0) (.int .u64 (z : Int)) (.pointer (some ⟨g4, o4, none⟩)) hR3); clear hR3))
      obtain ⟨hR4, hB4, _⟩ := HST.out
      refine bodyPost_ret (results_cell_tmp_row rfl _ _ g _ _ _ _ rfl rfl hR4 Tryd.underlying119 rfl (by kernel_rfl)) rfl ?_
      exact ⟨hg ▸ hB4 g w hb5 (Nat.le_refl _), .inr ⟨_, rfl, .inl rfl, by rw [HA.out]; rfl⟩⟩

set_option maxRecDepth 100000 in
set_option maxHeartbeats 4000000 in
theorem is6_6 (g4 o4 g6 o6 hi lo : Nat) (w : World) (hI : IpVars w g4 o4 g6 o6) :
    Calls Tryd.prog 114 #[ipV hi lo g6 o6] w fun e w' => e = .returned (.bool true) ∧ Below w.heap.size w w' := by
  have h0 := fun o => (hI.alloc o).z0
  have h4 := fun o => (hI.alloc o).z4
  have e1 := fun o => (hI.alloc o).eqs.1
  have e2 := fun o => (hI.alloc o).eqs.2
  have n4 := fun o => ptr_nil (w.alloc o) ⟨g4, o4, none⟩
  have n6 := fun o => ptr_nil (w.alloc o) ⟨g6, o6, none⟩
  have s4 := fun o => ptr_same (w.alloc o) ⟨g4, o4, none⟩
  unfold ipV
  go_enter Tryd.func114, Tryd.ntmps114
  go_wp2_with fail
  go_ret
  exact ⟨rfl, (Below.refl _ _).alloc (Nat.le_refl _) _⟩

set_option maxRecDepth 100000 in
set_option maxHeartbeats 4000000 in
theorem is6_4 (g4 o4 g6 o6 hi lo : Nat) (w : World) (hI : IpVars w g4 o4 g6 o6) :
    Calls Tryd.prog 114 #[ipV hi lo g4 o4] w fun e w' => e = .returned (.bool false) ∧ Below w.heap.size w w' := by
  have h0 := fun o => (hI.alloc o).z0
  have h4 := fun o => (hI.alloc o).z4
  have e1 := fun o => (hI.alloc o).eqs.1
  have e2 := fun o => (hI.alloc o).eqs.2
  have n4 := fun o => ptr_nil (w.alloc o) ⟨g4, o4, none⟩
  have n6 := fun o => ptr_nil (w.alloc o) ⟨g6, o6, none⟩
  have s4 := fun o => ptr_same (w.alloc o) ⟨g4, o4, none⟩
  unfold ipV
  go_enter Tryd.func114, Tryd.ntmps114
  go_wp2_with fail
  go_ret
  exact ⟨rfl, (Below.refl _ _).alloc (Nat.le_refl _) _⟩

set_option maxRecDepth 100000 in
set_option maxHeartbeats 4000000 in
theorem un_sp (g4 o4 g6 o6 : Nat) (w : World) (hI : IpVars w g4 o4 g6 o6) :
    Calls Tryd.prog 109 #[] w fun e w' => e = .returned (ipV 0 0 g6 o6) ∧ Below w.heap.size w w' := by
  have h6 := fun o => (hI.alloc o).z6
  go_enter Tryd.func109, Tryd.ntmps109
  go_wp2_with fail
  refine bodyPost_ret (results_cell_row rfl _ _ w.heap.size _ _ _ _ rfl (Blk.new w _ _) Tryd.underlying119 rfl (by kernel_rfl)) rfl ?_
  exact ⟨rfl, (Below.refl _ _).alloc (Nat.le_refl _) _⟩

set_option maxRecDepth 100000 in
set_option maxHeartbeats 4000000 in
theorem wz_sp (g4 o4 g6 o6 hi lo : Nat) (w : World) (hI : IpVars w g4 o4 g6 o6) :
    Calls Tryd.prog 110 #[ipV hi lo g6 o6, .string ⟨#[]⟩] w fun e w' => e = .returned (ipV hi lo g6 o6) ∧ Below w.heap.size w w' := by
  obtain ⟨g, hg⟩ : ∃ g, w.heap.size = g := ⟨_, rfl⟩
  obtain ⟨W0, hW0⟩ : ∃ W0, w.alloc (Obj.cells #[Value.int IntKind.u64 (hi : Int), Value.int IntKind.u64 (lo : Int), Value.pointer (some ⟨g6, o6, none⟩)] 119) = W0 := ⟨_, rfl⟩
  obtain ⟨W1, hW1⟩ : ∃ W1, W0.alloc (Obj.cells #[Value.int IntKind.u64 0, Value.int IntKind.u64 0, Value.pointer none] 119) = W1 := ⟨_, rfl⟩
  have hs0 : W0.heap.size = g + 1 := by rw [← hW0, ← hg]; simp
  have hA : Blk W1 g #[Value.int IntKind.u64 (hi : Int), Value.int IntKind.u64 (lo : Int), Value.pointer (some ⟨g6, o6, none⟩)] 119 := by
    rw [← hW1, ← hW0, ← hg]; exact (Blk.new w _ _).alloc _
  have hR : Blk W1 (g + 1) #[Value.int IntKind.u64 0, Value.int IntKind.u64 0, Value.pointer none] 119 := by
    rw [← hW1, ← hs0]; exact Blk.new W0 _ _
  have hb1 : Below g w W1 := by rw [← hW1, ← hW0, ← hg]; exact ((Below.refl _ _).alloc (Nat.le_refl _) _).alloc (by simp) _
  have hI1 := hI.below hb1 (by omega)
  have hgs : g ≤ W1.heap.size := by rw [← hg]; exact hb1.size
  have his := is6_6 g4 o4 g6 o6 hi lo W1 hI1
  have HIS := Lib.hid his
  have HI := Lib.hid hI1
  obtain ⟨c0, c1, c2, _⟩ := blk3 hA
  have hz0 := hI1.z6
  clear his hI1 hI
  unfold ipV at *
  go_enter Tryd.func110, Tryd.ntmps110
  go_wp2_with (go_at_call 114; refine HIS.out.mono ?_; rintro e w2 ⟨rfl, hb2⟩; have hA2 := hA.below hb2 hA.lt; have hR2 := hR.below hb2 hR.lt; have hI2 := HI.out.below hb2 (Nat.le_refl _); have hz := hI2.z6; have hb3 := hb1.trans (hb2.mono hgs); obtain ⟨d0, d1, d2, _, _, f2⟩ := blk3 hA2; obtain ⟨c0, c1, c2, k0, k1, k2⟩ := blk3 hR2)
  have hst := set3 (.int .u64 (hi : Int)) (.int .u64 (lo : Int)) (.pointer (some ⟨g6, o6, none⟩)) (hR2.other g 2 (.pointer (some ⟨g6, o6, none⟩)) (by omega))
  refine bodyPost_ret (results_cell_row rfl _ _ (g + 1) _ _ _ _ rfl hst.1 Tryd.underlying119 rfl (by kernel_rfl)) rfl ?_
  exact ⟨rfl, hg ▸ hst.2.1 g w (hb3.setCell (Nat.le_refl _) _) (Nat.le_succ _)⟩

end Go.Proofs.YtfkohahlpfejbaaDoor
