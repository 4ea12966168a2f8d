/-
  FnSearchLast: the law over lists, whole.
-/
import Derived.Test.YtfkohahlpfejbaaDoorSl2
namespace Go.Proofs.YtfkohahlpfejbaaDoor
open Go.RowKit

set_option maxRecDepth 100000 in
set_option maxHeartbeats 8000000 in
theorem sl_law (g4 o4 g6 o6 : Nat) (us uq uo vs vq vo : Value) (sva sea svb seb : List (List UInt8)) (opa opb : List Opt) (apart : Bool) (w : World) (hs : RdS w us sva) (hq : RdS w uq sea) (ho : RdO w uo opa) (hsb : RdS w vs svb) (hqb : RdS w vq seb) (hob' : RdO w vo opb) (hI : IpVars w g4 o4 g6 o6) :
    Calls Tryd.prog 12 #[.agg #[us, uq, uo], .agg #[vs, vq, vo], .bool apart] w fun e w' => e = .returned (.bool true) ∧ Below w.heap.size w w' := by
  obtain ⟨f1, hf1⟩ : ∃ f, pl.fits10 (sva, sea, opa) = f := ⟨_, rfl⟩
  obtain ⟨f2, hf2⟩ : ∃ f, pl.fits10 (svb, seb, opb) = f := ⟨_, rfl⟩
  obtain ⟨o1, ho1⟩ : ∃ o, pl.rvOk (sva, sea, opa) = o := ⟨_, rfl⟩
  obtain ⟨o2, ho2⟩ : ∃ o, pl.rvOk (svb, seb, opb) = o := ⟨_, rfl⟩
  by_cases hgood : f1 = true ∧ f2 = true ∧ o1 = true ∧ o2 = true ∧ sva.length + svb.length ≤ 3 ∧ seb ≠ []
  · obtain ⟨rfl, rfl, rfl, rfl, h5, h6⟩ := hgood
    exact sl_good g4 o4 g6 o6 us uq uo vs vq vo sva sea svb seb opa opb apart w hs hq ho hsb hqb hob' hI hf1 hf2 ho1 ho2 h5 h6
  have hbad : f1 = false ∨ (f1 = true ∧ f2 = false) ∨ (f1 = true ∧ f2 = true ∧ o1 = false) ∨ (f1 = true ∧ f2 = true ∧ o1 = true ∧ o2 = false) ∨ (f1 = true ∧ f2 = true ∧ o1 = true ∧ o2 = true ∧ ((seb.length : Int) == 0) = true) ∨ (f1 = true ∧ f2 = true ∧ o1 = true ∧ o2 = true ∧ ((seb.length : Int) == 0) = false ∧ decide ((3 : Int) < wrap64 ((sva.length : Int) + (svb.length : Int))) = true) := by
    rcases f1 with _ | _
    · exact .inl rfl
    rcases f2 with _ | _
    · exact .inr (.inl ⟨rfl, rfl⟩)
    rcases o1 with _ | _
    · exact .inr (.inr (.inl ⟨rfl, rfl, rfl⟩))
    rcases o2 with _ | _
    · exact .inr (.inr (.inr (.inl ⟨rfl, rfl, rfl, rfl⟩)))
    by_cases he : seb = []
    · exact .inr (.inr (.inr (.inr (.inl ⟨rfl, rfl, rfl, rfl, by rw [he]; rfl⟩))))
    · refine .inr (.inr (.inr (.inr (.inr ⟨rfl, rfl, rfl, rfl, ?_, ?_⟩))))
      · rw [beq_eq_false_iff_ne]
        have := List.length_pos_iff.2 he
        omega
      · have p1 : sva.length ≤ 3 := (pl.rvOk_parts (sva, sea, opa) ho1).1
        have p2 : svb.length ≤ 3 := (pl.rvOk_parts (svb, seb, opb) ho2).1
        have p3 : 3 < sva.length + svb.length := by
          rcases Nat.lt_or_ge 3 (sva.length + svb.length) with h | h
          · exact h
          · exact absurd ⟨rfl, rfl, rfl, rfl, h, he⟩ hgood
        exact decide_eq_true (by unfold wrap64; omega)
  clear hgood
  have hfta := fun W (hW : Below w.heap.size w W) => fits10_sp us uq uo sva sea opa f1 W (hs.below hW) (hq.below hW) (ho.below hW) hf1
  have hftb := fun W (hW : Below w.heap.size w W) => fits10_sp vs vq vo svb seb opb f2 W (hsb.below hW) (hqb.below hW) (hob'.below hW) hf2
  have hall : ∀ c : Cnf, pl.fits10 c = true → (∀ q ∈ c.1, q.length ≤ 2147483647) ∧ (∀ q ∈ c.2.1, q.length ≤ 2147483647) := fun c h => by
    unfold pl.fits10 at h
    rw [Bool.and_eq_true, Bool.and_eq_true] at h
    exact ⟨pl.fits_all h.1.1, pl.fits_all h.1.2⟩
  have hwa : f1 = true → ∀ W, Below w.heap.size w W → Calls Tryd.prog 38 #[.agg #[us, uq, uo], .bool apart] W fun e w' => ∃ T, e = .returned (.tuple #[.string T, .bool o1]) ∧ Below W.heap.size W w' := fun h W hW => by
    obtain ⟨h1, h2⟩ := hall _ (hf1.trans h)
    refine (write_sp us uq uo sva sea opa apart W (hs.below hW) (hq.below hW) (ho.below hW) h1 h2).mono fun e w' ⟨hb, hr⟩ => ?_
    rcases hr with ⟨h1, he⟩ | ⟨h1, he⟩
    · rw [ho1] at h1; subst h1; exact ⟨_, he, hb⟩
    · rw [ho1] at h1; subst h1; exact ⟨_, he, hb⟩
  have hwb : f2 = true → ∀ W, Below w.heap.size w W → Calls Tryd.prog 38 #[.agg #[vs, vq, vo], .bool (!apart)] W fun e w' => ∃ T, e = .returned (.tuple #[.string T, .bool o2]) ∧ Below W.heap.size W w' := fun h W hW => by
    obtain ⟨h1, h2⟩ := hall _ (hf2.trans h)
    refine (write_sp vs vq vo svb seb opb (!apart) W (hsb.below hW) (hqb.below hW) (hob'.below hW) h1 h2).mono fun e w' ⟨hb, hr⟩ => ?_
    rcases hr with ⟨h1, he⟩ | ⟨h1, he⟩
    · rw [ho2] at h1; subst h1; exact ⟨_, he, hb⟩
    · rw [ho2] at h1; subst h1; exact ⟨_, he, hb⟩
  clear hall hf1 hf2 ho1 ho2
  have hwk := works_any
  obtain ⟨a1, cs, rfl, _⟩ := hs
  obtain ⟨aq, cq, rfl, _⟩ := hq
  obtain ⟨ao, co, rfl, _⟩ := ho
  obtain ⟨b1, ds, rfl, _⟩ := hsb
  obtain ⟨bq, dq, rfl, _⟩ := hqb
  obtain ⟨bo, dO, rfl, _⟩ := hob'
  obtain ⟨n1, hn1⟩ : ∃ n1, sva.length = n1 := ⟨_, rfl⟩
  obtain ⟨m1, hm1⟩ : ∃ m1, svb.length = m1 := ⟨_, rfl⟩
  obtain ⟨n2, hn2⟩ : ∃ n2, sea.length = n2 := ⟨_, rfl⟩
  obtain ⟨m2, hm2⟩ : ∃ m2, seb.length = m2 := ⟨_, rfl⟩
  obtain ⟨n3, hn3⟩ : ∃ n3, opa.length = n3 := ⟨_, rfl⟩
  obtain ⟨m3, hm3⟩ : ∃ m3, opb.length = m3 := ⟨_, rfl⟩
  rw [hn1, hn2, hn3] at hwa hfta
  rw [hm1, hm2, hm3] at hwb hftb
  rw [hn1, hm1, hm2] at hbad
  rw [hn1, hn2, hn3, hm1, hm2, hm3]
  clear hn1 hn2 hn3 hm1 hm2 hm3 hI
  obtain ⟨W1, hW1⟩ : ∃ W1, w.alloc (.cells #[.slice a1 n1 cs, .slice aq n2 cq, .slice ao n3 co] 45) = W1 := ⟨_, rfl⟩
  have hbk1 : Blk W1 w.heap.size #[.slice a1 n1 cs, .slice aq n2 cq, .slice ao n3 co] 45 := by rw [← hW1]; exact Blk.new w _ _
  have hbl1 : Below w.heap.size w W1 := by rw [← hW1]; exact (Below.refl _ _).alloc (Nat.le_refl _) _
  have hsz : W1.heap.size = w.heap.size + 1 := by rw [← hW1]; simp
  obtain ⟨W2, hW2⟩ : ∃ W2, W1.alloc (.cells #[.slice b1 m1 ds, .slice bq m2 dq, .slice bo m3 dO] 45) = W2 := ⟨_, rfl⟩
  have hbk2 : Blk W2 (w.heap.size + 1) #[.slice b1 m1 ds, .slice bq m2 dq, .slice bo m3 dO] 45 := by rw [← hW2, ← hsz]; exact Blk.new W1 _ _
  have hbk1' : Blk W2 w.heap.size #[.slice a1 n1 cs, .slice aq n2 cq, .slice ao n3 co] 45 := by rw [← hW2]; exact hbk1.alloc _
  have hbl2 : Below w.heap.size w W2 := by rw [← hW2]; exact hbl1.alloc hbl1.size _
  obtain ⟨y0, y1, y2, y3, y4, y5⟩ := sl_boxes hbk1' hbk2
  have HFA := Lib.hid hfta
  have HFB := Lib.hid hftb
  have HWK := Lib.hid hwk
  have HBK1 := Lib.hid hbk1'
  have HBK2 := Lib.hid hbk2
  have HBL2 := Lib.hid hbl2
  clear hfta hftb hwk hbk1 hbk1' hbk2 hbl1 hbl2
  have mk1 := Lib.hid trivial
  rcases hbad with rfl | ⟨rfl, rfl⟩ | ⟨rfl, rfl, rfl⟩ | ⟨rfl, rfl, rfl, rfl⟩ | ⟨rfl, rfl, rfl, rfl, hg0⟩ | ⟨rfl, rfl, rfl, rfl, hg0, hg3⟩
  · clear hwa hwb
    go_enter Tryd.func12, Tryd.ntmps12
    go_wp2_with (first
      | (go_at_call 37; have hx0 := mk1; clear hx0 mk1; (try rw [hW1]); (try rw [hW2]); refine (HFA.out _ HBL2.out).mono ?_; rintro e w2 ⟨rfl, hb2⟩; have HB2 := Lib.hid (HBL2.out.trans (hb2.mono HBL2.out.size)); have HX2 := Lib.hid (HBK1.out.below hb2 HBK1.out.lt); have HY2 := Lib.hid (HBK2.out.below hb2 HBK2.out.lt); obtain ⟨c20, c21, c22, c23, c24, c25⟩ := sl_boxes HX2.out HY2.out; have mk2 := Lib.hid trivial; clear hb2))
    go_ret
    exact ⟨rfl, HB2.out⟩
  · clear hwa hwb
    go_enter Tryd.func12, Tryd.ntmps12
    go_wp2_with (first
      | (go_at_call 37; have hx0 := mk1; clear hx0 mk1; (try rw [hW1]); (try rw [hW2]); refine (HFA.out _ HBL2.out).mono ?_; rintro e w2 ⟨rfl, hb2⟩; have HB2 := Lib.hid (HBL2.out.trans (hb2.mono HBL2.out.size)); have HX2 := Lib.hid (HBK1.out.below hb2 HBK1.out.lt); have HY2 := Lib.hid (HBK2.out.below hb2 HBK2.out.lt); obtain ⟨c20, c21, c22, c23, c24, c25⟩ := sl_boxes HX2.out HY2.out; have mk2 := Lib.hid trivial; clear hb2)
      | (go_at_call 37; have hx0 := mk2; clear hx0 mk2; refine (HFB.out _ HB2.out).mono ?_; rintro e w3 ⟨rfl, hb3⟩; have HB3 := Lib.hid (HB2.out.trans (hb3.mono HB2.out.size)); have HX3 := Lib.hid (HX2.out.below hb3 HX2.out.lt); have HY3 := Lib.hid (HY2.out.below hb3 HY2.out.lt); obtain ⟨c30, c31, c32, c33, c34, c35⟩ := sl_boxes HX3.out HY3.out; have mk3 := Lib.hid trivial; clear hb3))
    go_ret
    exact ⟨rfl, HB3.out⟩
  · have HWA := Lib.hid (hwa rfl)
    have HWB := Lib.hid (hwb rfl)
    clear hwa hwb
    go_enter Tryd.func12, Tryd.ntmps12
    go_wp2_with (first
      | (go_at_call 37; have hx0 := mk1; clear hx0 mk1; (try rw [hW1]); (try rw [hW2]); refine (HFA.out _ HBL2.out).mono ?_; rintro e w2 ⟨rfl, hb2⟩; have HB2 := Lib.hid (HBL2.out.trans (hb2.mono HBL2.out.size)); have HX2 := Lib.hid (HBK1.out.below hb2 HBK1.out.lt); have HY2 := Lib.hid (HBK2.out.below hb2 HBK2.out.lt); obtain ⟨c20, c21, c22, c23, c24, c25⟩ := sl_boxes HX2.out HY2.out; have mk2 := Lib.hid trivial; clear hb2)
      | (go_at_call 37; have hx0 := mk2; clear hx0 mk2; refine (HFB.out _ HB2.out).mono ?_; rintro e w3 ⟨rfl, hb3⟩; have HB3 := Lib.hid (HB2.out.trans (hb3.mono HB2.out.size)); have HX3 := Lib.hid (HX2.out.below hb3 HX2.out.lt); have HY3 := Lib.hid (HY2.out.below hb3 HY2.out.lt); obtain ⟨c30, c31, c32, c33, c34, c35⟩ := sl_boxes HX3.out HY3.out; have mk3 := Lib.hid trivial; clear hb3)
      | (go_at_call 38; have hx0 := mk3; clear hx0 mk3; refine (HWA.out _ HB3.out).mono ?_; rintro e w4 ⟨T1, rfl, hb4⟩; have HB4 := Lib.hid (HB3.out.trans (hb4.mono HB3.out.size)); have HX4 := Lib.hid (HX3.out.below hb4 HX3.out.lt); have HY4 := Lib.hid (HY3.out.below hb4 HY3.out.lt); obtain ⟨c40, c41, c42, c43, c44, c45⟩ := sl_boxes HX4.out HY4.out; have mk4 := Lib.hid trivial; clear hb4)
      | (go_at_call 38; have hx0 := mk4; clear hx0 mk4; refine (HWB.out _ HB4.out).mono ?_; rintro e w5 ⟨T2, rfl, hb5⟩; have HB5 := Lib.hid (HB4.out.trans (hb5.mono HB4.out.size)); have HX5 := Lib.hid (HX4.out.below hb5 HX4.out.lt); have HY5 := Lib.hid (HY4.out.below hb5 HY4.out.lt); obtain ⟨c50, c51, c52, c53, c54, c55⟩ := sl_boxes HX5.out HY5.out; clear hb5)
      | (go_at_call 16; refine (HWK.out _).mono ?_; rintro e w6 ⟨rfl, hb6⟩; have HB6 := Lib.hid (HB5.out.trans (hb6.mono HB5.out.size)); clear hb6))
    go_ret
    exact ⟨rfl, HB6.out⟩
  · have HWA := Lib.hid (hwa rfl)
    have HWB := Lib.hid (hwb rfl)
    clear hwa hwb
    go_enter Tryd.func12, Tryd.ntmps12
    go_wp2_with (first
      | (go_at_call 37; have hx0 := mk1; clear hx0 mk1; (try rw [hW1]); (try rw [hW2]); refine (HFA.out _ HBL2.out).mono ?_; rintro e w2 ⟨rfl, hb2⟩; have HB2 := Lib.hid (HBL2.out.trans (hb2.mono HBL2.out.size)); have HX2 := Lib.hid (HBK1.out.below hb2 HBK1.out.lt); have HY2 := Lib.hid (HBK2.out.below hb2 HBK2.out.lt); obtain ⟨c20, c21, c22, c23, c24, c25⟩ := sl_boxes HX2.out HY2.out; have mk2 := Lib.hid trivial; clear hb2)
      | (go_at_call 37; have hx0 := mk2; clear hx0 mk2; refine (HFB.out _ HB2.out).mono ?_; rintro e w3 ⟨rfl, hb3⟩; have HB3 := Lib.hid (HB2.out.trans (hb3.mono HB2.out.size)); have HX3 := Lib.hid (HX2.out.below hb3 HX2.out.lt); have HY3 := Lib.hid (HY2.out.below hb3 HY2.out.lt); obtain ⟨c30, c31, c32, c33, c34, c35⟩ := sl_boxes HX3.out HY3.out; have mk3 := Lib.hid trivial; clear hb3)
      | (go_at_call 38; have hx0 := mk3; clear hx0 mk3; refine (HWA.out _ HB3.out).mono ?_; rintro e w4 ⟨T1, rfl, hb4⟩; have HB4 := Lib.hid (HB3.out.trans (hb4.mono HB3.out.size)); have HX4 := Lib.hid (HX3.out.below hb4 HX3.out.lt); have HY4 := Lib.hid (HY3.out.below hb4 HY3.out.lt); obtain ⟨c40, c41, c42, c43, c44, c45⟩ := sl_boxes HX4.out HY4.out; have mk4 := Lib.hid trivial; clear hb4)
      | (go_at_call 38; have hx0 := mk4; clear hx0 mk4; refine (HWB.out _ HB4.out).mono ?_; rintro e w5 ⟨T2, rfl, hb5⟩; have HB5 := Lib.hid (HB4.out.trans (hb5.mono HB4.out.size)); have HX5 := Lib.hid (HX4.out.below hb5 HX4.out.lt); have HY5 := Lib.hid (HY4.out.below hb5 HY4.out.lt); obtain ⟨c50, c51, c52, c53, c54, c55⟩ := sl_boxes HX5.out HY5.out; clear hb5)
      | (go_at_call 16; refine (HWK.out _).mono ?_; rintro e w6 ⟨rfl, hb6⟩; have HB6 := Lib.hid (HB5.out.trans (hb6.mono HB5.out.size)); clear hb6))
    go_ret
    exact ⟨rfl, HB6.out⟩
  · have HWA := Lib.hid (hwa rfl)
    have HWB := Lib.hid (hwb rfl)
    clear hwa hwb
    go_enter Tryd.func12, Tryd.ntmps12
    go_wp2_with (first
      | (go_at_call 37; have hx0 := mk1; clear hx0 mk1; (try rw [hW1]); (try rw [hW2]); refine (HFA.out _ HBL2.out).mono ?_; rintro e w2 ⟨rfl, hb2⟩; have HB2 := Lib.hid (HBL2.out.trans (hb2.mono HBL2.out.size)); have HX2 := Lib.hid (HBK1.out.below hb2 HBK1.out.lt); have HY2 := Lib.hid (HBK2.out.below hb2 HBK2.out.lt); obtain ⟨c20, c21, c22, c23, c24, c25⟩ := sl_boxes HX2.out HY2.out; have mk2 := Lib.hid trivial; clear hb2)
      | (go_at_call 37; have hx0 := mk2; clear hx0 mk2; refine (HFB.out _ HB2.out).mono ?_; rintro e w3 ⟨rfl, hb3⟩; have HB3 := Lib.hid (HB2.out.trans (hb3.mono HB2.out.size)); have HX3 := Lib.hid (HX2.out.below hb3 HX2.out.lt); have HY3 := Lib.hid (HY2.out.below hb3 HY2.out.lt); obtain ⟨c30, c31, c32, c33, c34, c35⟩ := sl_boxes HX3.out HY3.out; have mk3 := Lib.hid trivial; clear hb3)
      | (go_at_call 38; have hx0 := mk3; clear hx0 mk3; refine (HWA.out _ HB3.out).mono ?_; rintro e w4 ⟨T1, rfl, hb4⟩; have HB4 := Lib.hid (HB3.out.trans (hb4.mono HB3.out.size)); have HX4 := Lib.hid (HX3.out.below hb4 HX3.out.lt); have HY4 := Lib.hid (HY3.out.below hb4 HY3.out.lt); obtain ⟨c40, c41, c42, c43, c44, c45⟩ := sl_boxes HX4.out HY4.out; have mk4 := Lib.hid trivial; clear hb4)
      | (go_at_call 38; have hx0 := mk4; clear hx0 mk4; refine (HWB.out _ HB4.out).mono ?_; rintro e w5 ⟨T2, rfl, hb5⟩; have HB5 := Lib.hid (HB4.out.trans (hb5.mono HB4.out.size)); have HX5 := Lib.hid (HX4.out.below hb5 HX4.out.lt); have HY5 := Lib.hid (HY4.out.below hb5 HY4.out.lt); obtain ⟨c50, c51, c52, c53, c54, c55⟩ := sl_boxes HX5.out HY5.out; clear hb5)
      | (go_at_call 16; refine (HWK.out _).mono ?_; rintro e w6 ⟨rfl, hb6⟩; have HB6 := Lib.hid (HB5.out.trans (hb6.mono HB5.out.size)); clear hb6))
    go_ret
    exact ⟨rfl, HB6.out⟩
  · have HWA := Lib.hid (hwa rfl)
    have HWB := Lib.hid (hwb rfl)
    clear hwa hwb
    go_enter Tryd.func12, Tryd.ntmps12
    go_wp2_with (first
      | (go_at_call 37; have hx0 := mk1; clear hx0 mk1; (try rw [hW1]); (try rw [hW2]); refine (HFA.out _ HBL2.out).mono ?_; rintro e w2 ⟨rfl, hb2⟩; have HB2 := Lib.hid (HBL2.out.trans (hb2.mono HBL2.out.size)); have HX2 := Lib.hid (HBK1.out.below hb2 HBK1.out.lt); have HY2 := Lib.hid (HBK2.out.below hb2 HBK2.out.lt); obtain ⟨c20, c21, c22, c23, c24, c25⟩ := sl_boxes HX2.out HY2.out; have mk2 := Lib.hid trivial; clear hb2)
      | (go_at_call 37; have hx0 := mk2; clear hx0 mk2; refine (HFB.out _ HB2.out).mono ?_; rintro e w3 ⟨rfl, hb3⟩; have HB3 := Lib.hid (HB2.out.trans (hb3.mono HB2.out.size)); have HX3 := Lib.hid (HX2.out.below hb3 HX2.out.lt); have HY3 := Lib.hid (HY2.out.below hb3 HY2.out.lt); obtain ⟨c30, c31, c32, c33, c34, c35⟩ := sl_boxes HX3.out HY3.out; have mk3 := Lib.hid trivial; clear hb3)
      | (go_at_call 38; have hx0 := mk3; clear hx0 mk3; refine (HWA.out _ HB3.out).mono ?_; rintro e w4 ⟨T1, rfl, hb4⟩; have HB4 := Lib.hid (HB3.out.trans (hb4.mono HB3.out.size)); have HX4 := Lib.hid (HX3.out.below hb4 HX3.out.lt); have HY4 := Lib.hid (HY3.out.below hb4 HY3.out.lt); obtain ⟨c40, c41, c42, c43, c44, c45⟩ := sl_boxes HX4.out HY4.out; have mk4 := Lib.hid trivial; clear hb4)
      | (go_at_call 38; have hx0 := mk4; clear hx0 mk4; refine (HWB.out _ HB4.out).mono ?_; rintro e w5 ⟨T2, rfl, hb5⟩; have HB5 := Lib.hid (HB4.out.trans (hb5.mono HB4.out.size)); have HX5 := Lib.hid (HX4.out.below hb5 HX4.out.lt); have HY5 := Lib.hid (HY4.out.below hb5 HY4.out.lt); obtain ⟨c50, c51, c52, c53, c54, c55⟩ := sl_boxes HX5.out HY5.out; clear hb5)
      | (go_at_call 16; refine (HWK.out _).mono ?_; rintro e w6 ⟨rfl, hb6⟩; have HB6 := Lib.hid (HB5.out.trans (hb6.mono HB5.out.size)); clear hb6))
    go_ret
    exact ⟨rfl, HB6.out⟩

end Go.Proofs.YtfkohahlpfejbaaDoor
