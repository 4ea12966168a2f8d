/-
  WALKS: the package's parseAddr, parseLiteralIP, Literal.
-/
import Derived.Test.YtfkohahlpfejbaaDoorParse
import Derived.Test.YtfkohahlpfejbaaDoorStr10
namespace Go.Proofs.YtfkohahlpfejbaaDoor
open Go.RowKit

set_option maxRecDepth 100000 in
set_option maxHeartbeats 8000000 in
theorem par_sp (g4 o4 g6 o6 : Nat) (s : ByteArray) (w : World) (hs : s.size ≤ 2147483648) (hI : IpVars w g4 o4 g6 o6) (h37 : (37 : UInt8) ∉ s.data.toList) :
    Calls Tryd.prog 70 #[.string s] w fun e w' => IpRes g4 o4 g6 o6 w w' e (pl.addr s.data.toList) := by
  obtain ⟨g, hg⟩ : ∃ g, w.heap.size = g := ⟨_, rfl⟩
  obtain ⟨W1, hW1⟩ : ∃ W1, w.alloc (Obj.cells #[Value.int IntKind.u64 0, Value.int IntKind.u64 0, Value.pointer none] 119) = W1 := ⟨_, rfl⟩
  have hR : Blk W1 g #[Value.int IntKind.u64 0, Value.int IntKind.u64 0, Value.pointer none] 119 := by rw [← hW1, ← hg]; exact Blk.new w _ _
  have hb1 : Below g w W1 := by rw [← hW1, ← hg]; exact (Below.refl _ _).alloc (Nat.le_refl _) _
  have hI1 := hI.below hb1 (by omega)
  have h4 := pa_sp g4 o4 g6 o6 s W1 hs hI1 h37
  obtain ⟨F, hF⟩ : ∃ F, pl.addr s.data.toList = F := ⟨_, rfl⟩
  have hgl := hR.lt
  rw [hF] at h4 ⊢
  have HCALL := Lib.hid h4
  have HR := Lib.hid hR
  have HB1 := Lib.hid hb1
  clear h4 hF hR hb1 hI1 hI
  rcases F with _ | b
  · have hno : Calls Tryd.prog 93 #[.string s] W1 fun e w' => (∃ t v, e = .returned (.tuple #[.agg #[.int .u64 0, .int .u64 0, .pointer none], .iface t v])) ∧ Hid (Below W1.heap.size W1 w') := by
      refine HCALL.out.mono fun e w' ⟨hb, hr⟩ => ?_
      rcases hr with ⟨_, t, v, h⟩ | ⟨b, h, _⟩
      · exact ⟨⟨t, v, h⟩, Lib.hid hb⟩
      · cases h
    have HNO := Lib.hid hno
    clear hno
    go_enter Tryd.func70, Tryd.ntmps70
    go_wp2_with (go_at_call 93; refine HNO.out.mono ?_; rintro e w2 ⟨⟨t, v, rfl⟩, HB2⟩; obtain ⟨d0, d1, d2, k0, k1, k2⟩ := blk3 (HR.out.below HB2.out hgl))
    have hst := set3 (.int .u64 0) (.int .u64 0) (.pointer none) (HR.out.below HB2.out hgl)
    refine bodyPost_ret (results_cell_tmp_row rfl _ _ g _ _ _ _ rfl rfl hst.1 Tryd.underlying119 rfl (by kernel_rfl)) rfl ?_
    exact ⟨hg ▸ hst.2.1 g w (HB1.out.trans (HB2.out.mono (Nat.le_of_lt hgl))) (Nat.le_refl _), .inl ⟨rfl, _, _, rfl⟩⟩
  · obtain ⟨hi, lo, gz, oz, hadr⟩ := adr_cells g4 o4 g6 o6 b
    have hyes : Calls Tryd.prog 93 #[.string s] W1 fun e w' => e = .returned (.tuple #[.agg #[.int .u64 (hi : Int), .int .u64 (lo : Int), .pointer (some ⟨gz, oz, none⟩)], .nilIface]) ∧ Hid (Below W1.heap.size W1 w') ∧ Hid (b.length = 4 ∨ b.length = 16) := by
      refine HCALL.out.mono fun e w' ⟨hb, hr⟩ => ?_
      rcases hr with ⟨h, _⟩ | ⟨b', h, hl, he⟩
      · cases h
      · injection h with h
        subst h
        rw [hadr] at he
        exact ⟨he, Lib.hid hb, Lib.hid hl⟩
    have HYES := Lib.hid hyes
    have HADR := Lib.hid hadr
    clear hyes hadr
    go_enter Tryd.func70, Tryd.ntmps70
    go_wp2_with (go_at_call 93; refine HYES.out.mono ?_; rintro e w2 ⟨rfl, HB2, HLB⟩; obtain ⟨d0, d1, d2, k0, k1, k2⟩ := blk3 (HR.out.below HB2.out hgl))
    have hst := set3 (.int .u64 (hi : Int)) (.int .u64 (lo : Int)) (.pointer (some ⟨gz, oz, none⟩)) (HR.out.below HB2.out hgl)
    refine bodyPost_ret (results_cell_tmp_row rfl _ _ g _ _ _ _ rfl rfl hst.1 Tryd.underlying119 rfl (by kernel_rfl)) rfl ?_
    exact ⟨hg ▸ hst.2.1 g w (HB1.out.trans (HB2.out.mono (Nat.le_of_lt hgl))) (Nat.le_refl _), .inr ⟨b, rfl, HLB.out, by rw [HADR.out]; rfl⟩⟩

/-- the own form of a literal address, or nothing -/
def pl.lit (s : List UInt8) : List UInt8 := match pl.addr s with
  | some b => pl.text b
  | none => []

set_option maxRecDepth 100000 in
set_option maxHeartbeats 8000000 in
theorem plip_sp (g4 o4 g6 o6 : Nat) (s : ByteArray) (w : World) (hs : s.size ≤ 2147483648) (hI : IpVars w g4 o4 g6 o6) (h37 : (37 : UInt8) ∉ s.data.toList) :
    Calls Tryd.prog 79 #[.string s] w fun e w' => e = .returned (.string ⟨(pl.lit s.data.toList).toArray⟩) ∧ Below w.heap.size w w' := by
  have h4 := par_sp g4 o4 g6 o6 s w hs hI h37
  unfold pl.lit
  generalize pl.addr s.data.toList = F at h4 ⊢
  rcases F with _ | b
  · have hno : Calls Tryd.prog 70 #[.string s] w fun e w' => (∃ t v, e = .returned (.tuple #[.agg #[.int .u64 0, .int .u64 0, .pointer none], .iface t v])) ∧ Hid (Below w.heap.size w w') := by
      refine h4.mono fun e w' ⟨hb, hr⟩ => ?_
      rcases hr with ⟨_, t, v, h⟩ | ⟨b, h, _⟩
      · exact ⟨⟨t, v, h⟩, Lib.hid hb⟩
      · cases h
    have HNO := Lib.hid hno
    clear hno h4 hI
    go_enter Tryd.func79, Tryd.ntmps79
    go_wp2_with (go_at_call 70; refine HNO.out.mono ?_; rintro e w2 ⟨⟨t, v, rfl⟩, HB2⟩)
    go_ret
    exact ⟨rfl, HB2.out.alloc HB2.out.size _⟩
  · obtain ⟨hi, lo, gz, oz, hadr⟩ := adr_cells g4 o4 g6 o6 b
    have hyes : Calls Tryd.prog 70 #[.string s] w fun e w' => e = .returned (.tuple #[.agg #[.int .u64 (hi : Int), .int .u64 (lo : Int), .pointer (some ⟨gz, oz, none⟩)], .nilIface]) ∧ Hid (Below w.heap.size w w') ∧ Hid (b.length = 4 ∨ b.length = 16) := by
      refine h4.mono fun e w' ⟨hb, hr⟩ => ?_
      rcases hr with ⟨h, _⟩ | ⟨b', h, hl, he⟩
      · cases h
      · injection h with h
        subst h
        rw [hadr] at he
        exact ⟨he, Lib.hid hb, Lib.hid hl⟩
    have hstr : ∀ W, b.length = 4 ∨ b.length = 16 → Below w.heap.size w W → Calls Tryd.prog 96 #[.agg #[.int .u64 (hi : Int), .int .u64 (lo : Int), .pointer (some ⟨gz, oz, none⟩)]] W fun e w' => e = .returned (.string ⟨(pl.text b).toArray⟩) ∧ Below W.heap.size W w' := fun W hl hb => by
      rw [← hadr]; exact str_sp g4 o4 g6 o6 b hl W (hI.below hb (Nat.le_refl _))
    obtain ⟨T, hT⟩ : ∃ T, pl.text b = T := ⟨_, rfl⟩
    simp only [hT]
    rw [hT] at hstr
    have HYES := Lib.hid hyes
    have HSTR := Lib.hid hstr
    clear hyes hstr h4 hI hadr hT
    go_enter Tryd.func79, Tryd.ntmps79
    go_wp2_with (first
      | (go_at_call 96; have HB3 := Lib.hid (HB2.out.alloc HB2.out.size (Obj.cells #[.int .u64 (hi : Int), .int .u64 (lo : Int), .pointer (some ⟨gz, oz, none⟩)] 119)); refine (HSTR.out _ HLB.out HB3.out).mono ?_; rintro e w3 ⟨rfl, hb3⟩; have HB4 := Lib.hid (HB3.out.trans (hb3.mono HB3.out.size)); clear hb3)
      | (go_at_call 70; refine HYES.out.mono ?_; rintro e w2 ⟨rfl, HB2, HLB⟩))
    go_ret
    exact ⟨rfl, HB4.out⟩

set_option maxRecDepth 100000 in
set_option maxHeartbeats 8000000 in
theorem plit_sp (g4 o4 g6 o6 : Nat) (s : ByteArray) (w : World) (hs : s.size ≤ 2147483648) (hI : IpVars w g4 o4 g6 o6) (h37 : (37 : UInt8) ∉ s.data.toList) :
    Calls Tryd.prog 57 #[.string s] w fun e w' => e = .returned (.string ⟨(pl.lit s.data.toList).toArray⟩) ∧ Below w.heap.size w w' := by
  have h4 := plip_sp g4 o4 g6 o6 s w hs hI h37
  obtain ⟨T, hT⟩ : ∃ T, pl.lit s.data.toList = T := ⟨_, rfl⟩
  rw [hT] at h4 ⊢
  have H4 := Lib.hid h4
  clear h4 hT hI
  go_enter Tryd.func57, Tryd.ntmps57
  go_wp2_with (go_at_call 79; refine H4.out.mono ?_; rintro e w2 ⟨rfl, hb⟩)
  go_ret
  exact ⟨rfl, hb⟩
set_option maxRecDepth 100000 in
set_option maxHeartbeats 8000000 in
theorem ilit_sp (g4 o4 g6 o6 : Nat) (s : ByteArray) (w : World) (hs : s.size ≤ 2147483648) (hI : IpVars w g4 o4 g6 o6) (h37 : (37 : UInt8) ∉ s.data.toList) :
    Calls Tryd.prog 36 #[.string s] w fun e w' => e = .returned (.string ⟨(pl.lit s.data.toList).toArray⟩) ∧ Below w.heap.size w w' := by
  have h4 := plit_sp g4 o4 g6 o6 s w hs hI h37
  obtain ⟨T, hT⟩ : ∃ T, pl.lit s.data.toList = T := ⟨_, rfl⟩
  rw [hT] at h4 ⊢
  have H4 := Lib.hid h4
  clear h4 hT hI
  go_enter Tryd.func36, Tryd.ntmps36
  go_wp2_with (go_at_call 57; refine H4.out.mono ?_; rintro e w2 ⟨rfl, hb⟩)
  go_ret
  exact ⟨rfl, hb⟩

end Go.Proofs.YtfkohahlpfejbaaDoor
