/-
  FnResolv: the law over lists, whole.
-/
import Derived.Test.YtfkohahlpfejbaaDoorRv8
namespace Go.Proofs.YtfkohahlpfejbaaDoor
open Go.RowKit

set_option maxRecDepth 100000 in
set_option maxHeartbeats 8000000 in
theorem resolv_law (g4 o4 g6 o6 : Nat) (vs vq vo : Value) (sv se : List (List UInt8)) (op : List Opt) (apart : Bool) (hn : ByteArray) (w : World) (hs : RdS w vs sv) (hq : RdS w vq se) (ho : RdO w vo op) (hI : IpVars w g4 o4 g6 o6) :
    Calls Tryd.prog 11 #[.agg #[vs, vq, vo], .bool apart, .string hn] w fun e w' => e = .returned (.bool true) ∧ Below w.heap.size w w' := by
  obtain ⟨f, hf⟩ : ∃ f, pl.fits10 (sv, se, op) = f := ⟨_, rfl⟩
  by_cases hgood : f = true ∧ ¬ (2147483647 < (hn.size : Int)) ∧ pl.rvOk (sv, se, op) = true ∧ sv ≠ []
  · obtain ⟨h1, h2, h3, h4⟩ := hgood
    subst h1
    exact resolv_good g4 o4 g6 o6 vs vq vo sv se op apart hn w hs hq ho hI hf h2 h3 h4
  have hft := fun W (hW : Below w.heap.size w W) => fits10_sp vs vq vo sv se op f W (hs.below hW) (hq.below hW) (ho.below hW) hf
  have hwr : f = true → ∀ W, Below w.heap.size w W → Calls Tryd.prog 38 #[.agg #[vs, vq, vo], .bool apart] W (WrRes (sv, se, op) apart W) := fun h W hW => by
    rw [h] at hf
    unfold pl.fits10 at hf
    rw [Bool.and_eq_true, Bool.and_eq_true] at hf
    obtain ⟨⟨hfa, hfb⟩, _⟩ := hf
    refine write_sp vs vq vo sv se op apart W (hs.below hW) (hq.below hW) (ho.below hW) (fun q hq => ?_) (fun q hq => ?_)
    · have h : pl.fits3 sv = true := hfa
      unfold pl.fits3 at h
      rw [Bool.and_eq_true, List.all_eq_true] at h
      simpa using h.2 q hq
    · have h : pl.fits3 se = true := hfb
      unfold pl.fits3 at h
      rw [Bool.and_eq_true, List.all_eq_true] at h
      simpa using h.2 q hq
  have hwk := works_any
  obtain ⟨a1, cs, rfl, _⟩ := hs
  obtain ⟨aq, cq, rfl, _⟩ := hq
  obtain ⟨ao, co, rfl, _⟩ := ho
  obtain ⟨W1, hW1⟩ : ∃ W1, w.alloc (.cells #[.slice a1 sv.length cs, .slice aq se.length cq, .slice ao op.length co] 45) = W1 := ⟨_, rfl⟩
  have hbk1 : Blk W1 w.heap.size #[.slice a1 sv.length cs, .slice aq se.length cq, .slice ao op.length co] 45 := by rw [← hW1]; exact Blk.new w _ _
  have hbl1 : Below w.heap.size w W1 := by rw [← hW1]; exact (Below.refl _ _).alloc (Nat.le_refl _) _
  have y0 : W1.cell? ⟨w.heap.size, 0, none⟩ = some (.slice a1 sv.length cs) := hbk1.cell 0
  have y1 : W1.cell? ⟨w.heap.size, 1, none⟩ = some (.slice aq se.length cq) := hbk1.cell 1
  have y2 : W1.cell? ⟨w.heap.size, 2, none⟩ = some (.slice ao op.length co) := hbk1.cell 2
  have HFT := Lib.hid hft
  have HWK := Lib.hid hwk
  have HBK1 := Lib.hid hbk1
  have HBL1 := Lib.hid hbl1
  have HGOOD := Lib.hid hgood
  clear hft hwk hbk1 hbl1 hI hf hgood
  rcases f with _ | _
  · clear hwr HGOOD
    go_enter Tryd.func11, Tryd.ntmps11
    go_wp2_with (go_at_call 37; (try rw [hW1]); refine (HFT.out _ HBL1.out).mono ?_; rintro e w2 ⟨rfl, hb2⟩; have HB2 := Lib.hid (HBL1.out.trans (hb2.mono HBL1.out.size)); clear hb2)
    go_ret
    exact ⟨rfl, HB2.out⟩
  by_cases hh : 2147483647 < (hn.size : Int)
  · clear hwr HGOOD
    go_enter Tryd.func11, Tryd.ntmps11
    go_wp2_with (go_at_call 37; (try rw [hW1]); refine (HFT.out _ HBL1.out).mono ?_; rintro e w2 ⟨rfl, hb2⟩; have HB2 := Lib.hid (HBL1.out.trans (hb2.mono HBL1.out.size)); clear hb2)
    go_ret
    exact ⟨rfl, HB2.out⟩
  have hw2 := hwr rfl
  clear hwr
  obtain ⟨o, ho⟩ : ∃ o, pl.rvOk (sv, se, op) = o := ⟨_, rfl⟩
  have hw3 : ∀ W, Below w.heap.size w W → Calls Tryd.prog 38 #[.agg #[.slice a1 sv.length cs, .slice aq se.length cq, .slice ao op.length co], .bool apart] W fun e w' => ∃ T, e = .returned (.tuple #[.string T, .bool o]) ∧ Below W.heap.size W w' := fun W hW => (hw2 W hW).mono fun e w' ⟨hb, hr⟩ => by
    rcases hr with ⟨h1, he⟩ | ⟨h1, he⟩
    · rw [ho] at h1; subst h1; exact ⟨_, he, hb⟩
    · rw [ho] at h1; subst h1; exact ⟨_, he, hb⟩
  have HWR := Lib.hid hw3
  have hbad : o = false ∨ (o = true ∧ sv = []) := by
    rcases o with _ | _
    · exact .inl rfl
    · right
      refine ⟨rfl, ?_⟩
      by_cases h : sv = []
      · exact h
      · exact absurd ⟨rfl, hh, ho, h⟩ HGOOD.out
  clear hw2 hw3 ho HGOOD
  rcases hbad with rfl | ⟨rfl, hsv⟩
  · go_enter Tryd.func11, Tryd.ntmps11
    go_wp2_with (first
      | (go_at_call 16; refine (HWK.out _).mono ?_; rintro e w4 ⟨rfl, hb4⟩; have HB4 := Lib.hid (HB3.out.trans (hb4.mono HB3.out.size)); clear hb4)
      | (go_at_call 38; refine (HWR.out _ HB2.out).mono ?_; rintro e w3 ⟨T, rfl, hb3⟩; have HB3 := Lib.hid (HB2.out.trans (hb3.mono HB2.out.size)); clear hb3)
      | (go_at_call 37; (try rw [hW1]); refine (HFT.out _ HBL1.out).mono ?_; rintro e w2 ⟨rfl, hb2⟩; have hk2 := HBK1.out.below hb2 HBK1.out.lt; have z2 := hk2.cell 0; have z21 := hk2.cell 1; have z22 := hk2.cell 2; simp at z2 z21 z22; have HB2 := Lib.hid (HBL1.out.trans (hb2.mono HBL1.out.size)); clear hb2 hk2))
    go_ret
    exact ⟨rfl, HB4.out⟩
  · have hss0 : ((sv.length : Int) == 0) = true := by rw [hsv]; rfl
    clear hsv
    go_enter Tryd.func11, Tryd.ntmps11
    go_wp2_with (first
      | (go_at_call 16; refine (HWK.out _).mono ?_; rintro e w4 ⟨rfl, hb4⟩; have HB4 := Lib.hid (HB3.out.trans (hb4.mono HB3.out.size)); clear hb4)
      | (go_at_call 38; refine (HWR.out _ HB2.out).mono ?_; rintro e w3 ⟨T, rfl, hb3⟩; have hk3 := HBK2.out.below hb3 HBK2.out.lt; have z3 := hk3.cell 0; simp at z3; have HB3 := Lib.hid (HB2.out.trans (hb3.mono HB2.out.size)); clear hb3 hk3)
      | (go_at_call 37; (try rw [hW1]); refine (HFT.out _ HBL1.out).mono ?_; rintro e w2 ⟨rfl, hb2⟩; have hk2 := HBK1.out.below hb2 HBK1.out.lt; have z2 := hk2.cell 0; have z21 := hk2.cell 1; have z22 := hk2.cell 2; simp at z2 z21 z22; have HBK2 := Lib.hid hk2; have HB2 := Lib.hid (HBL1.out.trans (hb2.mono HBL1.out.size)); clear hb2 hk2))
    go_ret
    exact ⟨rfl, HB4.out⟩

end Go.Proofs.YtfkohahlpfejbaaDoor
