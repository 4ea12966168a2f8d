/-
  WALKS: net/netip: ParseAddr.
-/
import Derived.Test.YtfkohahlpfejbaaDoorV6
import Derived.Test.YtfkohahlpfejbaaDoorPlPa
namespace Go.Proofs.YtfkohahlpfejbaaDoor
open Go.RowKit

theorem adr_cells (g4 o4 g6 o6 : Nat) (b : List UInt8) : ∃ (hi lo g o : Nat), adr g4 o4 g6 o6 b = .agg #[.int .u64 (hi : Int), .int .u64 (lo : Int), .pointer (some ⟨g, o, none⟩)] := by
  unfold adr
  split
  · exact ⟨_, _, _, _, rfl⟩
  · exact ⟨_, _, _, _, rfl⟩

set_option maxRecDepth 100000 in
set_option maxHeartbeats 8000000 in
theorem pa_sp (g4 o4 g6 o6 : Nat) (s : ByteArray) (w : World) (hs : s.size ≤ 2147483648) (hI : IpVars w g4 o4 g6 o6) (h37 : (37 : UInt8) ∉ s.data.toList) :
    Calls Tryd.prog 93 #[.string s] w fun e w' => IpRes g4 o4 g6 o6 w w' e (pl.addr s.data.toList) := by
  obtain ⟨g, hg⟩ : ∃ g, w.heap.size = g := ⟨_, rfl⟩
  obtain ⟨W1, hW1⟩ : ∃ W1, w.alloc (Obj.cells #[Value.int IntKind.u64 0, Value.int IntKind.u64 0, Value.pointer none] 119) = W1 := ⟨_, rfl⟩
  have hR : Blk W1 g #[Value.int IntKind.u64 0, Value.int IntKind.u64 0, Value.pointer none] 119 := by rw [← hW1, ← hg]; exact Blk.new w _ _
  have hb1 : Below g w W1 := by rw [← hW1, ← hg]; exact (Below.refl _ _).alloc (Nat.le_refl _) _
  have hI1 := hI.below hb1 (by omega)
  have h4 := v4_sp g4 o4 g6 o6 s W1 hs hI1
  have h6 := fun h58 => v6_sp g4 o4 g6 o6 s W1 hs hI1 h37 h58
  have hpp := pl.addr_plain s.data.toList
  obtain ⟨F, hF⟩ : ∃ F, pl.addr s.data.toList = F := ⟨_, rfl⟩
  have hgl := hR.lt
  rw [hF] at h6 hpp ⊢
  have H4 := Lib.hid h4
  have H6 := Lib.hid h6
  have HPP := Lib.hid hpp
  have HF := Lib.hid hF
  have HR := Lib.hid hR
  have HB1 := Lib.hid hb1
  obtain ⟨c0, c1, c2, f0, f1, f2⟩ := blk3 hR
  have HST := Lib.hid (set3 (.int .u64 0) (.int .u64 0) (.pointer none) hR)
  clear h4 h6 hpp hF hR hb1 hI1 hI
  go_enter Tryd.func93, Tryd.ntmps93
  go_wp2_with fail
  go_loopw [4] (fun iv wr => ∃ k : Nat, iv = .int .i64 (k : Int) ∧ k ≤ s.size ∧ Hid (∀ y ∈ s.data.toList.take k, pl.isB 58 y = false) ∧ Hid (∀ y ∈ s.data.toList.take k, pl.isB 46 y = false) ∧ wr = W1) (fun iv _ => s.size - (intOf iv).toNat)
  case atStart => exact ⟨0, rfl, Nat.zero_le _, Lib.hid (fun y hy => by simp at hy), Lib.hid (fun y hy => by simp at hy), rfl⟩
  case round =>
    obtain ⟨k, rfl, hk, HC, HD, hwr⟩ := hrel
    replace hwr := hwr.symm
    subst hwr
    by_cases hlt : k < s.size
    · obtain ⟨x, hx⟩ : ∃ x, s[k] = x := ⟨_, rfl⟩
      have hsd : s.data.toList = s.data.toList.take k ++ x :: s.data.toList.drop (k + 1) := by
        rw [← hx, ← pl.drop_cons' s k hlt, List.take_append_drop]
      have HSD := Lib.hid hsd
      have hx37 : x ≠ 37 := by
        intro e; apply h37; rw [hsd, e]; simp
      clear hsd
      by_cases h46 : x = 46
      · subst h46
        have hcall : Calls Tryd.prog 98 #[.string s] W1 fun e w' => IpRes g4 o4 g6 o6 W1 w' e F := by
          have : F = pl.four s.data.toList := by
            rw [← HF.out, HSD.out, pl.addr_dot _ _ HC.out HD.out]
          rw [this]; exact H4.out
        have HCALL := Lib.hid hcall
        clear hcall
        rcases F with _ | b
        · have hno : Calls Tryd.prog 98 #[.string s] W1 fun e w' => (∃ t v, e = .returned (.tuple #[.agg #[.int .u64 0, .int .u64 0, .pointer none], .iface t v])) ∧ Hid (Below W1.heap.size W1 w') := by
            refine HCALL.out.mono fun e w' ⟨hb, hr⟩ => ?_
            rcases hr with ⟨_, t, v, h⟩ | ⟨b, h, _⟩
            · exact ⟨⟨t, v, h⟩, Lib.hid hb⟩
            · cases h
          have HNO := Lib.hid hno
          clear hno
          go_wp2_with (go_at_call 98; refine HNO.out.mono ?_; rintro e w2 ⟨⟨t, v, rfl⟩, HB2⟩; obtain ⟨d0, d1, d2, k0, k1, k2⟩ := blk3 (HR.out.below HB2.out hgl))
          have hst := set3 (.int .u64 0) (.int .u64 0) (.pointer none) (HR.out.below HB2.out hgl)
          refine bodyPost_ret (results_cell_tmp_row rfl _ _ g _ _ _ _ rfl rfl hst.1 Tryd.underlying119 rfl (by kernel_rfl)) rfl ?_
          exact ⟨hg ▸ hst.2.1 g w (HB1.out.trans (HB2.out.mono (Nat.le_of_lt hgl))) (Nat.le_refl _), .inl ⟨rfl, _, _, rfl⟩⟩
        · obtain ⟨hi, lo, gz, oz, hadr⟩ := adr_cells g4 o4 g6 o6 b
          have hyes : Calls Tryd.prog 98 #[.string s] W1 fun e w' => e = .returned (.tuple #[.agg #[.int .u64 (hi : Int), .int .u64 (lo : Int), .pointer (some ⟨gz, oz, none⟩)], .nilIface]) ∧ Hid (Below W1.heap.size W1 w') ∧ Hid (b.length = 4 ∨ b.length = 16) := by
            refine HCALL.out.mono fun e w' ⟨hb, hr⟩ => ?_
            rcases hr with ⟨h, _⟩ | ⟨b', h, hl, he⟩
            · cases h
            · injection h with h
              subst h
              rw [hadr] at he
              exact ⟨he, Lib.hid hb, Lib.hid hl⟩
          have HYES := Lib.hid hyes
          have HADR := Lib.hid hadr
          clear hyes hadr
          go_wp2_with (go_at_call 98; refine HYES.out.mono ?_; rintro e w2 ⟨rfl, HB2, HLB⟩; obtain ⟨d0, d1, d2, k0, k1, k2⟩ := blk3 (HR.out.below HB2.out hgl))
          have hst := set3 (.int .u64 (hi : Int)) (.int .u64 (lo : Int)) (.pointer (some ⟨gz, oz, none⟩)) (HR.out.below HB2.out hgl)
          refine bodyPost_ret (results_cell_tmp_row rfl _ _ g _ _ _ _ rfl rfl hst.1 Tryd.underlying119 rfl (by kernel_rfl)) rfl ?_
          exact ⟨hg ▸ hst.2.1 g w (HB1.out.trans (HB2.out.mono (Nat.le_of_lt hgl))) (Nat.le_refl _), .inr ⟨b, rfl, HLB.out, by rw [HADR.out]; rfl⟩⟩
      · have h46b := pl.no46 x h46
        by_cases h58 : x = 58
        · subst h58
          have HCALL := Lib.hid (H6.out (by rw [HSD.out]; simp))
          rcases F with _ | b
          · have hno : Calls Tryd.prog 99 #[.string s] W1 fun e w' => (∃ t v, e = .returned (.tuple #[.agg #[.int .u64 0, .int .u64 0, .pointer none], .iface t v])) ∧ Hid (Below W1.heap.size W1 w') := by
              refine HCALL.out.mono fun e w' ⟨hb, hr⟩ => ?_
              rcases hr with ⟨_, t, v, h⟩ | ⟨b, h, _⟩
              · exact ⟨⟨t, v, h⟩, Lib.hid hb⟩
              · cases h
            have HNO := Lib.hid hno
            clear hno
            go_wp2_with (go_at_call 99; refine HNO.out.mono ?_; rintro e w2 ⟨⟨t, v, rfl⟩, HB2⟩; obtain ⟨d0, d1, d2, k0, k1, k2⟩ := blk3 (HR.out.below HB2.out hgl))
            have hst := set3 (.int .u64 0) (.int .u64 0) (.pointer none) (HR.out.below HB2.out hgl)
            refine bodyPost_ret (results_cell_tmp_row rfl _ _ g _ _ _ _ rfl rfl hst.1 Tryd.underlying119 rfl (by kernel_rfl)) rfl ?_
            exact ⟨hg ▸ hst.2.1 g w (HB1.out.trans (HB2.out.mono (Nat.le_of_lt hgl))) (Nat.le_refl _), .inl ⟨rfl, _, _, rfl⟩⟩
          · obtain ⟨hi, lo, gz, oz, hadr⟩ := adr_cells g4 o4 g6 o6 b
            have hyes : Calls Tryd.prog 99 #[.string s] W1 fun e w' => e = .returned (.tuple #[.agg #[.int .u64 (hi : Int), .int .u64 (lo : Int), .pointer (some ⟨gz, oz, none⟩)], .nilIface]) ∧ Hid (Below W1.heap.size W1 w') ∧ Hid (b.length = 4 ∨ b.length = 16) := by
              refine HCALL.out.mono fun e w' ⟨hb, hr⟩ => ?_
              rcases hr with ⟨h, _⟩ | ⟨b', h, hl, he⟩
              · cases h
              · injection h with h
                subst h
                rw [hadr] at he
                exact ⟨he, Lib.hid hb, Lib.hid hl⟩
            have HYES := Lib.hid hyes
            have HADR := Lib.hid hadr
            clear hyes hadr
            go_wp2_with (go_at_call 99; refine HYES.out.mono ?_; rintro e w2 ⟨rfl, HB2, HLB⟩; obtain ⟨d0, d1, d2, k0, k1, k2⟩ := blk3 (HR.out.below HB2.out hgl))
            have hst := set3 (.int .u64 (hi : Int)) (.int .u64 (lo : Int)) (.pointer (some ⟨gz, oz, none⟩)) (HR.out.below HB2.out hgl)
            refine bodyPost_ret (results_cell_tmp_row rfl _ _ g _ _ _ _ rfl rfl hst.1 Tryd.underlying119 rfl (by kernel_rfl)) rfl ?_
            exact ⟨hg ▸ hst.2.1 g w (HB1.out.trans (HB2.out.mono (Nat.le_of_lt hgl))) (Nat.le_refl _), .inr ⟨b, rfl, HLB.out, by rw [HADR.out]; rfl⟩⟩
        · have h58b := (pl.no58 x h58).1
          have h37b : ((x.toNat : Int) == 37) = false := by
            rw [beq_eq_false_iff_ne]; intro e; exact hx37 (UInt8.toNat_inj.1 (by show x.toNat = 37; omega))
          have HC2 : Hid (∀ y ∈ s.data.toList.take (k + 1), pl.isB 58 y = false) := Lib.hid (fun y hy => by
            rw [pl.take_succ s k hlt, hx] at hy
            rcases List.mem_append.1 hy with hy | hy
            · exact HC.out y hy
            · rw [List.mem_singleton.1 hy]; exact h58b)
          have HD2 : Hid (∀ y ∈ s.data.toList.take (k + 1), pl.isB 46 y = false) := Lib.hid (fun y hy => by
            rw [pl.take_succ s k hlt, hx] at hy
            rcases List.mem_append.1 hy with hy | hy
            · exact HD.out y hy
            · rw [List.mem_singleton.1 hy]; exact h46b)
          go_wp2_with fail
          go_roundw
          case rel => exact ⟨k + 1, by go_num, by omega, HC2, HD2, by first | rfl | trivial⟩
          case measure => simp [intOf]; omega
    · have hno : F = none := by
        have e : s.data.toList.take k = s.data.toList := List.take_of_length_le (by simp; omega)
        rw [e] at HC HD
        exact HPP.out HC.out HD.out
      have HNO := Lib.hid hno
      clear hno
      go_wp2_with fail
      refine bodyPost_ret (results_cell_tmp_row rfl _ _ g _ _ _ _ rfl rfl HST.out.1 Tryd.underlying119 rfl (by kernel_rfl)) rfl ?_
      exact ⟨hg ▸ HST.out.2.1 g w HB1.out (Nat.le_refl _), .inl ⟨HNO.out, _, _, rfl⟩⟩

end Go.Proofs.YtfkohahlpfejbaaDoor
