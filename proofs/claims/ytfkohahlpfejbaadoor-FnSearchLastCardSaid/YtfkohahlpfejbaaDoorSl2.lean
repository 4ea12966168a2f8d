/-
  WALKS: FnSearchLast, the good case.
-/
import Derived.Test.YtfkohahlpfejbaaDoorSl1
namespace Go.Proofs.YtfkohahlpfejbaaDoor
open Go.RowKit

theorem sl_held {W : World} {G C : Nat} {tg tc : TypeId} {x0 x1 x2 x3 x4 x5 x6 x7 x8 x9 x10 x11 c0 c1 c2 : Value} (h1 : Blk W G #[x0, x1, x2, x3, x4, x5, x6, x7, x8, x9, x10, x11] tg) (h2 : Blk W C #[c0, c1, c2] tc) : W.cell? ⟨G, 0, none⟩ = some x0 ∧ W.cell? ⟨G, 1, none⟩ = some x1 ∧ W.cell? ⟨G, 2, none⟩ = some x2 ∧ W.cell? ⟨G, 3, none⟩ = some x3 ∧ W.cell? ⟨G, 4, none⟩ = some x4 ∧ W.cell? ⟨C, 0, none⟩ = some c0 ∧ W.cell? ⟨C, 1, none⟩ = some c1 ∧ W.cell? ⟨C, 2, none⟩ = some c2 :=
  ⟨h1.cell 0, h1.cell 1, h1.cell 2, h1.cell 3, h1.cell 4, h2.cell 0, h2.cell 1, h2.cell 2⟩
theorem Strs.al {w : World} {B : Nat} {v : Value} {l : List (List UInt8)} (h : Strs w B v l) (o : Obj) : Strs (w.alloc o) B v l := Row.below h ((Below.refl _ _).alloc (Nat.le_refl _) _)
theorem Opts.al {w : World} {B : Nat} {v : Value} {l : List Opt} (h : Opts w B v l) (o : Obj) : Opts (w.alloc o) B v l := Row.below h ((Below.refl _ _).alloc (Nat.le_refl _) _)
theorem sl_boxes {W : World} {A C : Nat} {t1 t2 : TypeId} {x0 x1 x2 y0 y1 y2 : Value} (h1 : Blk W A #[x0, x1, x2] t1) (h2 : Blk W C #[y0, y1, y2] t2) : W.cell? ⟨A, 0, none⟩ = some x0 ∧ W.cell? ⟨A, 1, none⟩ = some x1 ∧ W.cell? ⟨A, 2, none⟩ = some x2 ∧ W.cell? ⟨C, 0, none⟩ = some y0 ∧ W.cell? ⟨C, 1, none⟩ = some y1 ∧ W.cell? ⟨C, 2, none⟩ = some y2 :=
  ⟨h1.cell 0, h1.cell 1, h1.cell 2, h2.cell 0, h2.cell 1, h2.cell 2⟩

set_option maxRecDepth 100000 in
set_option maxHeartbeats 8000000 in
theorem sl_good (g4 o4 g6 o6 : Nat) (us uq uo vs vq vo : Value) (sva sea svb seb : List (List UInt8)) (opa opb : List Opt) (apart : Bool) (w : World) (hs : RdS w us sva) (hq : RdS w uq sea) (ho : RdO w uo opa) (hsb : RdS w vs svb) (hqb : RdS w vq seb) (hob' : RdO w vo opb) (hI : IpVars w g4 o4 g6 o6)
    (hfa : pl.fits10 (sva, sea, opa) = true) (hfb : pl.fits10 (svb, seb, opb) = true) (hoa : pl.rvOk (sva, sea, opa) = true) (hob : pl.rvOk (svb, seb, opb) = true) (hl : sva.length + svb.length ≤ 3) (hne : seb ≠ []) :
    Calls Tryd.prog 12 #[.agg #[us, uq, uo], .agg #[vs, vq, vo], .bool apart] w fun e w' => e = .returned (.bool true) ∧ Below w.heap.size w w' := by
  have hfa' := hfa
  have hfb' := hfb
  unfold pl.fits10 at hfa' hfb'
  rw [Bool.and_eq_true, Bool.and_eq_true] at hfa' hfb'
  have hl1 := pl.fits_all hfa'.1.1
  have hl2 := pl.fits_all hfa'.1.2
  have hl3 := pl.fits_all hfb'.1.1
  have hl4 := pl.fits_all hfb'.1.2
  obtain ⟨_, _, p3, _, _, _⟩ := pl.rvOk_parts (sva, sea, opa) hoa
  obtain ⟨_, p2b, p3b, _, _, _⟩ := pl.rvOk_parts (svb, seb, opb) hob
  have p3' : opa.length ≤ 20 := p3
  have p3b' : opb.length ≤ 20 := p3b
  have p2b' : seb.length ≤ 6 := p2b
  have hoa2 : ∀ o ∈ opa, o.2 < 9223372036854775808 := fun o ho' => by
    obtain ⟨k, hk⟩ := List.getElem?_of_mem ho'
    obtain ⟨_, _, _, _, _, h⟩ := ho
    obtain ⟨_, _, _, _, _, _, h⟩ := h k o hk
    exact h
  have hob2 : ∀ o ∈ opb, o.2 < 9223372036854775808 := fun o ho' => by
    obtain ⟨k, hk⟩ := List.getElem?_of_mem ho'
    obtain ⟨_, _, _, _, _, h⟩ := hob'
    obtain ⟨_, _, _, _, _, _, h⟩ := h k o hk
    exact h
  obtain ⟨LS, ht1, ht2, hLS1, hLS2, hrr⟩ := sl_read g4 o4 g6 o6 sva sea svb seb opa opb apart (!apart) hfa hfb hoa hob hl hne
  obtain ⟨T1, hT1⟩ : ∃ T : ByteArray, (⟨(pl.rvText (sva, sea, opa) apart).toArray⟩ : ByteArray) = T := ⟨_, rfl⟩
  obtain ⟨T2, hT2⟩ : ∃ T : ByteArray, (⟨(pl.rvText (svb, seb, opb) (!apart)).toArray⟩ : ByteArray) = T := ⟨_, rfl⟩
  rw [hT1, hT2] at hrr
  have hz1 : T1.size ≤ 4000000000000 := by rw [← hT1]; exact ht1
  have hz2 : T2.size ≤ 4000000000000 := by rw [← hT2]; exact ht2
  clear ht1 ht2
  have hwa : ∀ W, Below w.heap.size w W → Calls Tryd.prog 38 #[.agg #[us, uq, uo], .bool apart] W fun e w' => e = .returned (.tuple #[.string T1, .bool true]) ∧ Below W.heap.size W w' := fun W hW => (write_sp us uq uo sva sea opa apart W (hs.below hW) (hq.below hW) (ho.below hW) hl1 hl2).mono fun e w' ⟨hb, hr⟩ => by
    rcases hr with ⟨_, he⟩ | ⟨hno, _⟩
    · exact ⟨by rw [he, hT1], hb⟩
    · rw [hoa] at hno; cases hno
  have hwb : ∀ W, Below w.heap.size w W → Calls Tryd.prog 38 #[.agg #[vs, vq, vo], .bool (!apart)] W fun e w' => e = .returned (.tuple #[.string T2, .bool true]) ∧ Below W.heap.size W w' := fun W hW => (write_sp vs vq vo svb seb opb (!apart) W (hsb.below hW) (hqb.below hW) (hob'.below hW) hl3 hl4).mono fun e w' ⟨hb, hr⟩ => by
    rcases hr with ⟨_, he⟩ | ⟨hno, _⟩
    · exact ⟨by rw [he, hT2], hb⟩
    · rw [hob] at hno; cases hno
  have hfta := fun W (hW : Below w.heap.size w W) => fits10_sp us uq uo sva sea opa true W (hs.below hW) (hq.below hW) (ho.below hW) hfa
  have hftb := fun W (hW : Below w.heap.size w W) => fits10_sp vs vq vo svb seb opb true W (hsb.below hW) (hqb.below hW) (hob'.below hW) hfb
  have hSL : ∀ q ∈ sva ++ svb, q.length ≤ 2147483647 := fun q hq => (List.mem_append.1 hq).elim (hl1 q) (hl3 q)
  have HSA := Lib.hid hs
  have HOA := Lib.hid ho
  have HSB := Lib.hid hsb
  have HQB := Lib.hid hqb
  have HOB := Lib.hid hob'
  have hwk := works_any
  obtain ⟨a1, cs, rfl, _⟩ := hs
  obtain ⟨aq, cq, rfl, _⟩ := hq
  obtain ⟨ao, co, rfl, _⟩ := ho
  obtain ⟨b1, ds, rfl, _⟩ := hsb
  obtain ⟨bq, dq, rfl, _⟩ := hqb
  obtain ⟨bo, dO, rfl, _⟩ := hob'
  have hg3 : decide ((3 : Int) < wrap64 ((sva.length : Int) + (svb.length : Int))) = false := decide_eq_false (by unfold wrap64; omega)
  have hg0 : ((seb.length : Int) == 0) = false := by rw [beq_eq_false_iff_ne]; have := List.length_pos_iff.2 hne; omega
  have hLlen : LS.length ≤ 3 := hLS2
  obtain ⟨n1, hn1⟩ : ∃ n1, sva.length = n1 := ⟨_, rfl⟩
  obtain ⟨m1, hm1⟩ : ∃ m1, svb.length = m1 := ⟨_, rfl⟩
  obtain ⟨n2, hn2⟩ : ∃ n2, sea.length = n2 := ⟨_, rfl⟩
  obtain ⟨m2, hm2⟩ : ∃ m2, seb.length = m2 := ⟨_, rfl⟩
  obtain ⟨n3, hn3⟩ : ∃ n3, opa.length = n3 := ⟨_, rfl⟩
  obtain ⟨m3, hm3⟩ : ∃ m3, opb.length = m3 := ⟨_, rfl⟩
  obtain ⟨nL, hnL⟩ : ∃ nL, LS.length = nL := ⟨_, rfl⟩
  have HL1 := Lib.hid hl
  have HP3 := Lib.hid p3'
  have HP3b := Lib.hid p3b'
  have HP2b := Lib.hid p2b'
  have HLL := Lib.hid hLlen
  rw [hn1, hn2, hn3] at hwa hfta
  rw [hm1, hm2, hm3] at hwb hftb
  rw [hn1] at HSA
  rw [hn3] at HOA
  rw [hm1] at HSB
  rw [hm2] at HQB
  rw [hm3] at HOB
  rw [hn1, hm1] at hg3
  rw [hm2] at hg0
  rw [hnL] at hrr
  rw [hn1, hn2, hn3, hm1, hm2, hm3]
  have HN1 := Lib.hid hn1
  have HM1 := Lib.hid hm1
  have HM2 := Lib.hid hm2
  have HN3 := Lib.hid hn3
  have HM3 := Lib.hid hm3
  have HNL := Lib.hid hnL
  obtain ⟨N0, hN0⟩ : ∃ N0, pl.numOf (opa ++ opb) 0 1 = N0 := ⟨_, rfl⟩
  obtain ⟨N1, hN1⟩ : ∃ N1, pl.numOf (opa ++ opb) 1 5 = N1 := ⟨_, rfl⟩
  obtain ⟨N2, hN2⟩ : ∃ N2, pl.numOf (opa ++ opb) 2 2 = N2 := ⟨_, rfl⟩
  rw [hN0, hN1, hN2] at hrr
  have HN0 := Lib.hid hN0
  have HN1' := Lib.hid hN1
  have HN2 := Lib.hid hN2
  obtain ⟨W1, hW1⟩ : ∃ W1, w.alloc (.cells #[.slice a1 n1 cs, .slice aq n2 cq, .slice ao n3 co] 45) = W1 := ⟨_, rfl⟩
  have hbk1 : Blk W1 w.heap.size #[.slice a1 n1 cs, .slice aq n2 cq, .slice ao n3 co] 45 := by rw [← hW1]; exact Blk.new w _ _
  have hbl1 : Below w.heap.size w W1 := by rw [← hW1]; exact (Below.refl _ _).alloc (Nat.le_refl _) _
  have hsz : W1.heap.size = w.heap.size + 1 := by rw [← hW1]; simp
  obtain ⟨W2, hW2⟩ : ∃ W2, W1.alloc (.cells #[.slice b1 m1 ds, .slice bq m2 dq, .slice bo m3 dO] 45) = W2 := ⟨_, rfl⟩
  have hbk2 : Blk W2 (w.heap.size + 1) #[.slice b1 m1 ds, .slice bq m2 dq, .slice bo m3 dO] 45 := by rw [← hW2, ← hsz]; exact Blk.new W1 _ _
  have hbk1' : Blk W2 w.heap.size #[.slice a1 n1 cs, .slice aq n2 cq, .slice ao n3 co] 45 := by rw [← hW2]; exact hbk1.alloc _
  have hbl2 : Below w.heap.size w W2 := by rw [← hW2]; exact hbl1.alloc hbl1.size _
  obtain ⟨y0, y1, y2, y3, y4, y5⟩ := sl_boxes hbk1' hbk2
  have HRR := Lib.hid hrr
  have HWA := Lib.hid hwa
  have HWB := Lib.hid hwb
  have HFA := Lib.hid hfta
  have HFB := Lib.hid hftb
  have HWK := Lib.hid hwk
  have HI := Lib.hid hI
  have HSL := Lib.hid hSL
  have HLS := Lib.hid hLS1
  have HO1 := Lib.hid hoa2
  have HO2 := Lib.hid hob2
  have HBK1 := Lib.hid hbk1'
  have HBK2 := Lib.hid hbk2
  have HBL2 := Lib.hid hbl2
  have HL4 := Lib.hid hl4
  clear hfa hfb hfa' hfb' hl1 hl2 hl3 hl4 p3 p3b p2b p3' p3b' p2b' hoa2 hob2 hLS1 hLS2 hrr hT1 hT2 hwa hwb hfta hftb hSL hwk hLlen hI hl hoa hob hne hbk1 hbk1' hbk2 hbl1 hbl2 hN0 hN1 hN2 hn1 hn2 hn3 hm1 hm2 hm3 hnL
  go_enter Tryd.func12, Tryd.ntmps12
  have mk1 := Lib.hid trivial
  go_wp2_with (first
    | (go_at_call 37; have hx0 := mk1; clear hx0 mk1; (try rw [hW1]); (try rw [hW2]); refine (HFA.out _ HBL2.out).mono ?_; rintro e w2 ⟨rfl, hb2⟩; have HB2 := Lib.hid (HBL2.out.trans (hb2.mono HBL2.out.size)); have HX2 := Lib.hid (HBK1.out.below hb2 HBK1.out.lt); have HY2 := Lib.hid (HBK2.out.below hb2 HBK2.out.lt); obtain ⟨c20, c21, c22, c23, c24, c25⟩ := sl_boxes HX2.out HY2.out; have mk2 := Lib.hid trivial; clear hb2)
    | (go_at_call 37; have hx0 := mk2; clear hx0 mk2; refine (HFB.out _ HB2.out).mono ?_; rintro e w3 ⟨rfl, hb3⟩; have HB3 := Lib.hid (HB2.out.trans (hb3.mono HB2.out.size)); have HX3 := Lib.hid (HX2.out.below hb3 HX2.out.lt); have HY3 := Lib.hid (HY2.out.below hb3 HY2.out.lt); obtain ⟨c30, c31, c32, c33, c34, c35⟩ := sl_boxes HX3.out HY3.out; have mk3 := Lib.hid trivial; clear hb3)
    | (go_at_call 38; have hx0 := mk3; clear hx0 mk3; refine (HWA.out _ HB3.out).mono ?_; rintro e w4 ⟨rfl, hb4⟩; have HB4 := Lib.hid (HB3.out.trans (hb4.mono HB3.out.size)); have HX4 := Lib.hid (HX3.out.below hb4 HX3.out.lt); have HY4 := Lib.hid (HY3.out.below hb4 HY3.out.lt); obtain ⟨c40, c41, c42, c43, c44, c45⟩ := sl_boxes HX4.out HY4.out; have mk4 := Lib.hid trivial; clear hb4)
    | (go_at_call 38; have hx0 := mk4; clear hx0 mk4; refine (HWB.out _ HB4.out).mono ?_; rintro e w5 ⟨rfl, hb5⟩; have HB5 := Lib.hid (HB4.out.trans (hb5.mono HB4.out.size)); have HX5 := Lib.hid (HX4.out.below hb5 HX4.out.lt); have HY5 := Lib.hid (HY4.out.below hb5 HY4.out.lt); obtain ⟨c50, c51, c52, c53, c54, c55⟩ := sl_boxes HX5.out HY5.out; clear hb5)
    | (go_at_call 23; refine (HRR.out _ (HI.out.below HB5.out (Nat.le_refl _))).mono ?_; rintro e w6 ⟨x1, k1, x2, k2, nq, q1, q2, q3, q4, q5, hnq, rfl, hb6, hS6, hQ6⟩; have HS6 := Lib.hid hS6; have HQ6 := Lib.hid hQ6; have HNQ := Lib.hid hnq; have HB6 := Lib.hid (HB5.out.trans (hb6.mono HB5.out.size)); have HX6 := Lib.hid (HX5.out.below hb6 HX5.out.lt); have HY6 := Lib.hid (HY5.out.below hb6 HY5.out.lt); clear hb6 hS6 hQ6 hnq))
  -- REGION 8
  (try simp only [List.append])
  obtain ⟨G, hG⟩ : ∃ G, w6.heap.size = G := ⟨_, rfl⟩
  refine wp_name (fun V hV => ?_)
  have hbV : Below w6.heap.size w6 V := by rw [hV]; repeat (first | exact Below.refl _ _ | refine Below.drew ?_ | refine Below.alloc ?_ (by simp) _)
  have hGV : Blk V G #[.slice x1 nL k1, .slice x2 nq k2, .int .i64 N0, .int .i64 N1, .int .i64 N2, .bool q1, .bool false, .bool q2, .bool q3, .bool q4, .bool q5, .slice none 0 0] 41 := by rw [hV, ← hG]; exact Blk.new w6 _ _
  have hXV := HX6.out.below hbV HX6.out.lt
  have hYV := HY6.out.below hbV HY6.out.lt
  have hSV := HS6.out.below hbV
  have hQV := HQ6.out.below hbV
  have hWV := HB6.out.trans (hbV.mono HB6.out.size)
  simp only [hG]
  have hkk : ∀ w', Below V.heap.size V w' → w'.cell? ⟨w.heap.size, 0, none⟩ = some (.slice a1 n1 cs) ∧ w'.cell? ⟨w.heap.size, 2, none⟩ = some (.slice ao n3 co) ∧ w'.cell? ⟨w.heap.size + 1, 0, none⟩ = some (.slice b1 m1 ds) ∧ w'.cell? ⟨w.heap.size + 1, 1, none⟩ = some (.slice bq m2 dq) ∧ w'.cell? ⟨w.heap.size + 1, 2, none⟩ = some (.slice bo m3 dO) := fun W hW => by
    have hx := hXV.below hW hXV.lt
    have hy := hYV.below hW hYV.lt
    exact ⟨hx.cell 0, hx.cell 2, hy.cell 0, hy.cell 1, hy.cell 2⟩
  have HRA := Lib.hid (fun W (hW : Below V.heap.size V W) => HSA.out.below (hWV.trans (hW.mono hWV.size)))
  have HRB := Lib.hid (fun W (hW : Below V.heap.size V W) => HSB.out.below (hWV.trans (hW.mono hWV.size)))
  have HRC := Lib.hid (fun W (hW : Below V.heap.size V W) => HOA.out.below (hWV.trans (hW.mono hWV.size)))
  have HRD := Lib.hid (fun W (hW : Below V.heap.size V W) => HOB.out.below (hWV.trans (hW.mono hWV.size)))
  have HKK := Lib.hid hkk
  have HGV := Lib.hid hGV
  have HSV := Lib.hid hSV
  have HQV := Lib.hid hQV
  have HWV := Lib.hid hWV
  have hd0 : Below V.heap.size V V.drew := (Below.refl _ _).drew
  have hd1 : Below V.heap.size V (V.alloc (.cells #[.slice none 0 0, .slice none 0 0, .slice none 0 0] 45)).drew := ((Below.refl _ _).alloc (Nat.le_refl _) _).drew
  have hz0 : Blk (V.alloc (.cells #[.slice none 0 0, .slice none 0 0, .slice none 0 0] 45)).drew V.heap.size #[.slice none 0 0, .slice none 0 0, .slice none 0 0] 45 := Blk.new V _ _
  have HD0 := Lib.hid hd0
  have HD1 := Lib.hid hd1
  have HZ0 := Lib.hid hz0
  clear hkk hGV hSV hQV hWV hXV hYV hbV hV hd0 hd1 hz0 y0 y1 y2 y3 y4 y5 hG hsz hW1 hW2 c20 c21 c22 c23 c24 c25 c30 c31 c32 c33 c34 c35 c40 c41 c42 c43 c44 c45 c50 c51 c52 c53 c54 c55
  go_cut [12] from 61 to 75 (fun c12 wx => ∃ gd xS nS kS xO nO kO, c12 = .pointer (some ⟨gd, 0, none⟩) ∧ Hid (Blk wx gd #[.slice xS nS kS, .slice bq m2 dq, .slice xO nO kO] 45) ∧ Hid (Strs wx V.heap.size (.slice xS nS kS) (sva ++ svb)) ∧ Hid (Opts wx V.heap.size (.slice xO nO kO) (opa ++ opb)) ∧ Hid (Below V.heap.size V wx))
  case first =>
    go_region_held3 (fun w' => w'.cell? ⟨w.heap.size, 0, none⟩ = some (.slice a1 n1 cs) ∧ w'.cell? ⟨w.heap.size, 2, none⟩ = some (.slice ao n3 co) ∧ w'.cell? ⟨w.heap.size + 1, 0, none⟩ = some (.slice b1 m1 ds) ∧ w'.cell? ⟨w.heap.size + 1, 1, none⟩ = some (.slice bq m2 dq) ∧ w'.cell? ⟨w.heap.size + 1, 2, none⟩ = some (.slice bo m3 dO)) (first | (with_reducible exact HKK.out _ HD0.out) | (with_reducible exact HKK.out _ HD1.out) | (with_reducible exact HKK.out _ HBA.out) | (with_reducible exact HKK.out _ (HBA.out.alloc HBA.out.size _)) | (with_reducible exact HKK.out _ HBB.out) | (with_reducible exact HKK.out _ (HBB.out.alloc HBB.out.size _)) | (with_reducible exact HKK.out _ HBC.out) | (with_reducible exact HKK.out _ (HBC.out.alloc HBC.out.size _)) | (with_reducible exact HKK.out _ HBD.out) | (with_reducible exact HKK.out _ (HBD.out.alloc HBD.out.size _)) | (with_reducible exact HKK.out _ (((HBD.out.setCell (by first | exact Nat.le_refl _ | exact HBA.out.size | exact HBB.out.size | exact HBC.out.size) _).setCell (by first | exact Nat.le_refl _ | exact HBA.out.size | exact HBB.out.size | exact HBC.out.size) _).setCell (by first | exact Nat.le_refl _ | exact HBA.out.size | exact HBB.out.size | exact HBC.out.size) _)))
      (first
        | ((with_reducible refine step_strs (w := V.drew) (v := .slice none 0 0) (yv := .slice a1 n1 cs) (l := []) (m := sva) ?_ (.const (.slice none 0 0)) (.tmp 62) ?_ ?_ V.heap.size (Strs.nil (V.drew) V.heap.size) ?_ (HRA.out _ (HD0.out)) ?_ (HD0.out).size ?_); rfl; rfl; rfl; rfl; (have := HL1.out; simp; omega); intro vA wA hA hgA; have hkt := KeepT.grown (T := 9) (Strs.nil (V.drew) V.heap.size) hgA; have HBA := Lib.hid (Row.grown_below (Strs.nil (V.drew) V.heap.size) (Nat.le_refl _) (HD0.out) hgA); (try (have hz := HZ.out.keepT hkt (by decide); clear HZ; have HZ := Lib.hid hz; clear hz)); obtain ⟨xA, kA, hvA⟩ := Row.shape hA; obtain ⟨nA, hnA⟩ : ∃ n, ([] ++ sva).length = n := ⟨_, rfl⟩; rw [hnA] at hvA; subst hvA; have HR63 := Lib.hid hA; clear hA hgA hkt hnA)
        | ((with_reducible refine step_strs (w := (V.alloc (.cells #[.slice none 0 0, .slice none 0 0, .slice none 0 0] 45)).drew) (v := .slice none 0 0) (yv := .slice a1 n1 cs) (l := []) (m := sva) ?_ (.const (.slice none 0 0)) (.tmp 62) ?_ ?_ V.heap.size (Strs.nil ((V.alloc (.cells #[.slice none 0 0, .slice none 0 0, .slice none 0 0] 45)).drew) V.heap.size) ?_ (HRA.out _ (HD1.out)) ?_ (HD1.out).size ?_); rfl; rfl; rfl; rfl; (have := HL1.out; simp; omega); intro vA wA hA hgA; have hkt := KeepT.grown (T := 9) (Strs.nil ((V.alloc (.cells #[.slice none 0 0, .slice none 0 0, .slice none 0 0] 45)).drew) V.heap.size) hgA; have HBA := Lib.hid (Row.grown_below (Strs.nil ((V.alloc (.cells #[.slice none 0 0, .slice none 0 0, .slice none 0 0] 45)).drew) V.heap.size) (Nat.le_refl _) (HD1.out) hgA); have HZ := Lib.hid ((HZ0.out).keepT hkt (by decide)); obtain ⟨xA, kA, hvA⟩ := Row.shape hA; obtain ⟨nA, hnA⟩ : ∃ n, ([] ++ sva).length = n := ⟨_, rfl⟩; rw [hnA] at hvA; subst hvA; have HR63 := Lib.hid hA; clear hA hgA hkt hnA)
        | ((with_reducible refine step_strs (w := wA) (v := .slice xA nA kA) (yv := .slice b1 m1 ds) (l := ([] ++ sva)) (m := svb) ?_ (.tmp 63) (.tmp 65) ?_ ?_ V.heap.size (HR63.out) ?_ (HRB.out _ (HBA.out)) ?_ (HBA.out).size ?_); rfl; rfl; rfl; rfl; (have := HL1.out; simp; omega); intro vB wB hB hgB; have hkt := KeepT.grown (T := 9) (HR63.out) hgB; have HBB := Lib.hid (Row.grown_below (HR63.out) (Nat.le_refl _) (HBA.out) hgB); (try (have hz := HZ.out.keepT hkt (by decide); clear HZ; have HZ := Lib.hid hz; clear hz)); obtain ⟨xB, kB, hvB⟩ := Row.shape hB; obtain ⟨nB, hnB⟩ : ∃ n, (([] ++ sva) ++ svb).length = n := ⟨_, rfl⟩; rw [hnB] at hvB; subst hvB; have HR66 := Lib.hid hB; clear hB hgB hkt hnB)
        | ((with_reducible refine step_strs (w := wA.alloc (.cells #[.slice none 0 0, .slice none 0 0, .slice none 0 0] 45)) (v := .slice xA nA kA) (yv := .slice b1 m1 ds) (l := ([] ++ sva)) (m := svb) ?_ (.tmp 63) (.tmp 65) ?_ ?_ V.heap.size (Strs.al HR63.out _) ?_ (HRB.out _ (HBA.out.alloc HBA.out.size _)) ?_ (HBA.out.alloc HBA.out.size _).size ?_); rfl; rfl; rfl; rfl; (have := HL1.out; simp; omega); intro vB wB hB hgB; have hkt := KeepT.grown (T := 9) (Strs.al HR63.out _) hgB; have HBB := Lib.hid (Row.grown_below (Strs.al HR63.out _) (Nat.le_refl _) (HBA.out.alloc HBA.out.size _) hgB); have HZ := Lib.hid ((Blk.new wA _ _).keepT hkt (by decide)); obtain ⟨xB, kB, hvB⟩ := Row.shape hB; obtain ⟨nB, hnB⟩ : ∃ n, (([] ++ sva) ++ svb).length = n := ⟨_, rfl⟩; rw [hnB] at hvB; subst hvB; have HR66 := Lib.hid hB; clear hB hgB hkt hnB)
        | ((with_reducible refine step_opts (w := wB) (v := .slice none 0 0) (yv := .slice ao n3 co) (l := []) (m := opa) ?_ (.const (.slice none 0 0)) (.tmp 70) ?_ ?_ V.heap.size (Opts.nil (wB) V.heap.size) ?_ (HRC.out _ (HBB.out)) ?_ (HBB.out).size ?_); rfl; rfl; rfl; rfl; (have := HP3.out; simp; omega); intro vC wC hC hgC; have hkt := KeepT.grown (T := 93) (Opts.nil (wB) V.heap.size) hgC; have HBC := Lib.hid (Row.grown_below (Opts.nil (wB) V.heap.size) (Nat.le_refl _) (HBB.out) hgC); (try (have hz := HZ.out.keepT hkt (by decide); clear HZ; have HZ := Lib.hid hz; clear hz)); have hr := Row.keepT (HR66.out) hkt (by decide); clear HR66; have HR66 := Lib.hid hr; clear hr; obtain ⟨xC, kC, hvC⟩ := Row.shape hC; obtain ⟨nC, hnC⟩ : ∃ n, ([] ++ opa).length = n := ⟨_, rfl⟩; rw [hnC] at hvC; subst hvC; have HR71 := Lib.hid hC; clear hC hgC hkt hnC)
        | ((with_reducible refine step_opts (w := wB.alloc (.cells #[.slice none 0 0, .slice none 0 0, .slice none 0 0] 45)) (v := .slice none 0 0) (yv := .slice ao n3 co) (l := []) (m := opa) ?_ (.const (.slice none 0 0)) (.tmp 70) ?_ ?_ V.heap.size (Opts.nil ((wB.alloc (.cells #[.slice none 0 0, .slice none 0 0, .slice none 0 0] 45))) V.heap.size) ?_ (HRC.out _ (HBB.out.alloc HBB.out.size _)) ?_ (HBB.out.alloc HBB.out.size _).size ?_); rfl; rfl; rfl; rfl; (have := HP3.out; simp; omega); intro vC wC hC hgC; have hkt := KeepT.grown (T := 93) (Opts.nil ((wB.alloc (.cells #[.slice none 0 0, .slice none 0 0, .slice none 0 0] 45))) V.heap.size) hgC; have HBC := Lib.hid (Row.grown_below (Opts.nil ((wB.alloc (.cells #[.slice none 0 0, .slice none 0 0, .slice none 0 0] 45))) V.heap.size) (Nat.le_refl _) (HBB.out.alloc HBB.out.size _) hgC); have HZ := Lib.hid ((Blk.new wB _ _).keepT hkt (by decide)); have hr := Row.keepT (Row.below HR66.out ((Below.refl _ _).alloc (Nat.le_refl _) _)) hkt (by decide); clear HR66; have HR66 := Lib.hid hr; clear hr; obtain ⟨xC, kC, hvC⟩ := Row.shape hC; obtain ⟨nC, hnC⟩ : ∃ n, ([] ++ opa).length = n := ⟨_, rfl⟩; rw [hnC] at hvC; subst hvC; have HR71 := Lib.hid hC; clear hC hgC hkt hnC)
        | ((with_reducible refine step_opts (w := wC) (v := .slice xC nC kC) (yv := .slice bo m3 dO) (l := ([] ++ opa)) (m := opb) ?_ (.tmp 71) (.tmp 73) ?_ ?_ V.heap.size (HR71.out) ?_ (HRD.out _ (HBC.out)) ?_ (HBC.out).size ?_); rfl; rfl; rfl; rfl; (have := HP3.out; have := HP3b.out; simp; omega); intro vD wD hD hgD; have hkt := KeepT.grown (T := 93) (HR71.out) hgD; have HBD := Lib.hid (Row.grown_below (HR71.out) (Nat.le_refl _) (HBC.out) hgD); (try (have hz := HZ.out.keepT hkt (by decide); clear HZ; have HZ := Lib.hid hz; clear hz)); have hr := Row.keepT (HR66.out) hkt (by decide); clear HR66; have HR66 := Lib.hid hr; clear hr; obtain ⟨xD, kD, hvD⟩ := Row.shape hD; obtain ⟨nD, hnD⟩ : ∃ n, (([] ++ opa) ++ opb).length = n := ⟨_, rfl⟩; rw [hnD] at hvD; subst hvD; have HR74 := Lib.hid hD; clear hD hgD hkt hnD; (try (have z0 := HZ.out.cell 0; have z1 := HZ.out.cell 1; have z2 := HZ.out.cell 2; simp at z0 z1 z2; have fz := HZ.out.frozen)))
        | ((with_reducible refine step_opts (w := wC.alloc (.cells #[.slice none 0 0, .slice none 0 0, .slice none 0 0] 45)) (v := .slice xC nC kC) (yv := .slice bo m3 dO) (l := ([] ++ opa)) (m := opb) ?_ (.tmp 71) (.tmp 73) ?_ ?_ V.heap.size (Opts.al HR71.out _) ?_ (HRD.out _ (HBC.out.alloc HBC.out.size _)) ?_ (HBC.out.alloc HBC.out.size _).size ?_); rfl; rfl; rfl; rfl; (have := HP3.out; have := HP3b.out; simp; omega); intro vD wD hD hgD; have hkt := KeepT.grown (T := 93) (Opts.al HR71.out _) hgD; have HBD := Lib.hid (Row.grown_below (Opts.al HR71.out _) (Nat.le_refl _) (HBC.out.alloc HBC.out.size _) hgD); have HZ := Lib.hid ((Blk.new wC _ _).keepT hkt (by decide)); have hr := Row.keepT (Row.below HR66.out ((Below.refl _ _).alloc (Nat.le_refl _) _)) hkt (by decide); clear HR66; have HR66 := Lib.hid hr; clear hr; obtain ⟨xD, kD, hvD⟩ := Row.shape hD; obtain ⟨nD, hnD⟩ : ∃ n, (([] ++ opa) ++ opb).length = n := ⟨_, rfl⟩; rw [hnD] at hvD; subst hvD; have HR74 := Lib.hid hD; clear hD hgD hkt hnD; (try (have z0 := HZ.out.cell 0; have z1 := HZ.out.cell 1; have z2 := HZ.out.cell 2; simp at z0 z1 z2; have fz := HZ.out.frozen))))
    all_goals go_wp2_with fail
    all_goals go_meet
    all_goals (first | exact ⟨wD.heap.size, _, _, _, _, _, _, rfl, Lib.hid (Blk.new wD _ _), Lib.hid (Row.below HR66.out ((Below.refl _ _).alloc (Nat.le_refl _) _)), Lib.hid (Row.below HR74.out ((Below.refl _ _).alloc (Nat.le_refl _) _)), Lib.hid (HBD.out.alloc HBD.out.size _)⟩ | exact ⟨_, _, _, _, _, _, _, rfl, Lib.hid (((HZ.out.set 0 _).set 1 _).set 2 _), Lib.hid (Row.keepT HR66.out (((KeepT.set HZ.out 0 _).trans (KeepT.set (HZ.out.set 0 _) 1 _)).trans (KeepT.set ((HZ.out.set 0 _).set 1 _) 2 _)) (by decide)), Lib.hid (Row.keepT HR74.out (((KeepT.set HZ.out 0 _).trans (KeepT.set (HZ.out.set 0 _) 1 _)).trans (KeepT.set ((HZ.out.set 0 _).set 1 _) 2 _)) (by decide)), Lib.hid (((HBD.out.setCell (by first | exact Nat.le_refl _ | exact HBA.out.size | exact HBB.out.size | exact HBC.out.size) _).setCell (by first | exact Nat.le_refl _ | exact HBA.out.size | exact HBB.out.size | exact HBC.out.size) _).setCell (by first | exact Nat.le_refl _ | exact HBA.out.size | exact HBB.out.size | exact HBC.out.size) _)⟩)
  case rest =>
  obtain ⟨gd, xS, nS, kS, xO, nO, kO, rfl, HBO, HSS, HOO, HBW⟩ := hcut
  clear HKK HRA HRB HRC HRD HD0 HD1 HZ0
  have hRS := RdS.of_strs HSS.out
  have hRO := RdO.of_opts HOO.out (fun o ho => (List.mem_append.1 ho).elim (HO1.out o) (HO2.out o))
  have hRQ : RdS wc (.slice bq m2 dq) seb := HQB.out.below (HWV.out.trans (HBW.out.mono HWV.out.size))
  have hnS : nS = (sva ++ svb).length := by
    obtain ⟨_, _, e, _⟩ := hRS
    injection e
  have hsl3 : (sva ++ svb).length ≤ 3 := by rw [List.length_append]; exact HL1.out
  have hol : (opa ++ opb).length ≤ 1000000 := by have := HP3.out; have := HP3b.out; rw [List.length_append]; omega
  have hsx := fun W (hW : Below wc.heap.size wc W) => sfx_sp (.slice xS nS kS) (.slice bq m2 dq) (.slice xO nO kO) (sva ++ svb) seb (opa ++ opb) ⟨#[]⟩ W (hRS.below hW) (hRQ.below hW) (hRO.below hW) (by have := HP2b.out; omega) HL4.out (by decide)
  have hnu0 := fun W (hW : Below wc.heap.size wc W) => number_sp (.slice xS nS kS) (.slice bq m2 dq) (.slice xO nO kO) (sva ++ svb) seb (opa ++ opb) 0 1 W (hRS.below hW) (hRQ.below hW) (hRO.below hW) hol (.inl ⟨rfl, rfl⟩)
  have hnu1 := fun W (hW : Below wc.heap.size wc W) => number_sp (.slice xS nS kS) (.slice bq m2 dq) (.slice xO nO kO) (sva ++ svb) seb (opa ++ opb) 1 5 W (hRS.below hW) (hRQ.below hW) (hRO.below hW) hol (.inr (.inl ⟨rfl, rfl⟩))
  have hnu2 := fun W (hW : Below wc.heap.size wc W) => number_sp (.slice xS nS kS) (.slice bq m2 dq) (.slice xO nO kO) (sva ++ svb) seb (opa ++ opb) 2 2 W (hRS.below hW) (hRQ.below hW) (hRO.below hW) hol (.inr (.inr ⟨rfl, rfl⟩))
  have hsw := fun W (hW : Below wc.heap.size wc W) => swp_sp (.slice xS nS kS) (.slice bq m2 dq) (.slice xO nO kO) (sva ++ svb) seb (opa ++ opb) W (hRS.below hW) (hRQ.below hW) (hRO.below hW) (by omega) HSL.out
  rw [HN0.out] at hnu0
  rw [HN1'.out] at hnu1
  rw [HN2.out] at hnu2
  have HGc := Lib.hid (HGV.out.below HBW.out HGV.out.lt)
  have HRs := Lib.hid (HSV.out.below HBW.out)
  have HRq := Lib.hid (HQV.out.below HBW.out)
  have HLw := Lib.hid (HWV.out.trans (HBW.out.mono HWV.out.size))
  have HSX := Lib.hid hsx
  have HNU0 := Lib.hid hnu0
  have HNU1 := Lib.hid hnu1
  have HNU2 := Lib.hid hnu2
  have HSW := Lib.hid hsw
  have HNS := Lib.hid hnS
  have hq9 : (pl.sfx seb []).length ≤ 1000000 := by
    unfold pl.sfx pl.defS
    split
    · split <;> simp
    · rw [List.length_map]; have := HP2b.out; omega
  have HQ9 := Lib.hid hq9
  clear hq9
  have HSL3 := Lib.hid hsl3
  have HHS := Lib.hid hRS
  clear hsx hnu0 hnu1 hnu2 hsw hol hRS hRO hRQ hnS hsl3
  have hd0 := sl_held HGc.out HBO.out
  have HDc : Hid (wc.cell? ⟨G, 0, none⟩ = some (.slice x1 nL k1) ∧ wc.cell? ⟨G, 1, none⟩ = some (.slice x2 nq k2) ∧ wc.cell? ⟨G, 2, none⟩ = some (.int .i64 N0) ∧ wc.cell? ⟨G, 3, none⟩ = some (.int .i64 N1) ∧ wc.cell? ⟨G, 4, none⟩ = some (.int .i64 N2) ∧ wc.cell? ⟨gd, 0, none⟩ = some (.slice xS nS kS) ∧ wc.cell? ⟨gd, 1, none⟩ = some (.slice bq m2 dq) ∧ wc.cell? ⟨gd, 2, none⟩ = some (.slice xO nO kO)) := Lib.hid hd0
  have HBc : Hid (Below wc.heap.size wc wc.drew) := Lib.hid (Below.refl _ _).drew
  clear hd0
  have mka := Lib.hid trivial
  by_cases hss : sva ++ svb = []
  · have hss0 : ((nS : Int) == 0) = true := by rw [HNS.out, hss]; rfl
    clear hss
    go_wp2_with fail
    refine wp_region_held_drew (S := fun w' => w'.cell? ⟨G, 0, none⟩ = some (.slice x1 nL k1) ∧ w'.cell? ⟨G, 1, none⟩ = some (.slice x2 nq k2) ∧ w'.cell? ⟨G, 2, none⟩ = some (.int .i64 N0) ∧ w'.cell? ⟨G, 3, none⟩ = some (.int .i64 N1) ∧ w'.cell? ⟨G, 4, none⟩ = some (.int .i64 N2) ∧ w'.cell? ⟨gd, 0, none⟩ = some (.slice xS nS kS) ∧ w'.cell? ⟨gd, 1, none⟩ = some (.slice bq m2 dq) ∧ w'.cell? ⟨gd, 2, none⟩ = some (.slice xO nO kO)) (by kernel_rfl) HDc.out (fun hHeld0 => ?_)
    refine wpAnyH_take (i := 0) (oi := _) (v := ?_) rfl (by kernel_rfl) (by kernel_rfl) (by kernel_rfl) (fun _ _ _ h => h) (Or.inl ⟨by rfl, ?_⟩) (by assumption) ?_
    rotate_left
    · intro w hSw; (try dsimp only at hSw); go_simp; (try with_reducible rfl)
    try simp only [Act.put, List.getElem_toArray, List.getElem_cons_zero, List.setIfInBounds_toArray, List.set_cons_zero, List.set_cons_succ]
    refine wpAnyH_take (i := 1) (oi := _) (v := ?_) rfl (by kernel_rfl) (by kernel_rfl) (by kernel_rfl) (fun _ _ _ h => h) (Or.inl ⟨by rfl, ?_⟩) (by assumption) ?_
    rotate_left
    · intro w hSw; (try dsimp only at hSw); go_simp; (try with_reducible rfl)
    try simp only [Act.put, List.getElem_toArray, List.getElem_cons_zero, List.getElem_cons_succ, List.setIfInBounds_toArray, List.set_cons_zero, List.set_cons_succ]
    refine wpAnyH_take (i := 2) (oi := _) (v := ?_) rfl (by kernel_rfl) (by kernel_rfl) (by kernel_rfl) (fun _ _ _ h => h) (Or.inl ⟨by rfl, ?_⟩) (by assumption) ?_
    rotate_left
    · intro w hSw; (try dsimp only at hSw); go_simp; (try with_reducible rfl)
    try simp only [Act.put, List.getElem_toArray, List.getElem_cons_zero, List.getElem_cons_succ, List.setIfInBounds_toArray, List.set_cons_zero, List.set_cons_succ]
    refine wpAnyH_ready (rs := [3]) (by kernel_rfl) (by simp) (AllReadyH.cons (o := _) rfl (fun K hK => ?_) AllReadyH.nil)
    try simp only [Act.put, List.getElem_toArray, List.getElem_cons_zero, List.getElem_cons_succ, List.setIfInBounds_toArray, List.set_cons_zero, List.set_cons_succ]
    go_simp
    go_at_call 24; have hx0 := mka; clear hx0 mka; refine (HSX.out _ HBc.out).mono ?_; rintro e wa ⟨va, rfl, hN, hq⟩; obtain ⟨ya, za, hva, hfm⟩ := hN.out.form; clear hfm; obtain ⟨na, hna⟩ : ∃ n, (pl.sfx seb (⟨#[]⟩ : ByteArray).data.toList).length = n := ⟨_, rfl⟩; rw [hna] at hva; subst hva; have HNa := hN; clear hN hna; have HBa := Lib.hid (HBc.out.trans (hq.out.mono HBc.out.size)); have HDa := Lib.hid (sl_held (HGc.out.below HBa.out HGc.out.lt) (HBO.out.below HBa.out HBO.out.lt)); have mka := Lib.hid trivial; clear hq
    try go_wp2_with fail
    refine hK.out _ _ HDa.out (fun hHeld1 => ?_)
    clear hK K hHeld0
    try simp only [Act.put, List.getElem_toArray, List.getElem_cons_zero, List.getElem_cons_succ, List.setIfInBounds_toArray, List.set_cons_zero, List.set_cons_succ]
    refine wpAnyH_ready (rs := [4]) (by kernel_rfl) (by simp) (AllReadyH.cons (o := _) rfl (fun K hK => ?_) AllReadyH.nil)
    try simp only [Act.put, List.getElem_toArray, List.getElem_cons_zero, List.getElem_cons_succ, List.setIfInBounds_toArray, List.set_cons_zero, List.set_cons_succ]
    go_simp
    go_at_call 17; have hx0 := mka; clear hx0 mka; refine (same_any _ _ (pl.sfx seb []) (pl.sfx seb []) _ _ _ (HRq.out.below HBa.out) HNa.out (by have := HQ9.out; omega) (by have := HQ9.out; omega)).mono ?_; rintro e wb ⟨rfl, m, rfl⟩; rw [decide_eq_true (rfl : (pl.sfx seb []) = (pl.sfx seb []))]; have HBb := Lib.hid (below_drewN HBa.out m); have HDb := Lib.hid (sl_held (HGc.out.below HBb.out HGc.out.lt) (HBO.out.below HBb.out HBO.out.lt)); have mkb := Lib.hid trivial
    try go_wp2_with fail
    refine hK.out _ _ HDb.out (fun hHeld2 => ?_)
    clear hK K hHeld1
    try simp only [Act.put, List.getElem_toArray, List.getElem_cons_zero, List.getElem_cons_succ, List.setIfInBounds_toArray, List.set_cons_zero, List.set_cons_succ]
    refine wpAnyH_take (i := 5) (oi := _) (v := ?_) rfl (by kernel_rfl) (by kernel_rfl) (by kernel_rfl) (fun _ _ _ h => h) (Or.inl ⟨by rfl, ?_⟩) (by assumption) ?_
    rotate_left
    · intro w hSw; (try dsimp only at hSw); go_simp; (try with_reducible rfl)
    try simp only [Act.put, List.getElem_toArray, List.getElem_cons_zero, List.getElem_cons_succ, List.setIfInBounds_toArray, List.set_cons_zero, List.set_cons_succ]
    refine wpAnyH_take (i := 6) (oi := _) (v := ?_) rfl (by kernel_rfl) (by kernel_rfl) (by kernel_rfl) (fun _ _ _ h => h) (Or.inl ⟨by rfl, ?_⟩) (by assumption) ?_
    rotate_left
    · intro w hSw; (try dsimp only at hSw); go_simp; (try with_reducible rfl)
    try simp only [Act.put, List.getElem_toArray, List.getElem_cons_zero, List.getElem_cons_succ, List.setIfInBounds_toArray, List.set_cons_zero, List.set_cons_succ]
    refine wpAnyH_take (i := 7) (oi := _) (v := ?_) rfl (by kernel_rfl) (by kernel_rfl) (by kernel_rfl) (fun _ _ _ h => h) (Or.inl ⟨by rfl, ?_⟩) (by assumption) ?_
    rotate_left
    · intro w hSw; (try dsimp only at hSw); go_simp; (try with_reducible rfl)
    try simp only [Act.put, List.getElem_toArray, List.getElem_cons_zero, List.getElem_cons_succ, List.setIfInBounds_toArray, List.set_cons_zero, List.set_cons_succ]
    refine wpAnyH_take (i := 8) (oi := _) (v := ?_) rfl (by kernel_rfl) (by kernel_rfl) (by kernel_rfl) (fun _ _ _ h => h) (Or.inl ⟨by rfl, ?_⟩) (by assumption) ?_
    rotate_left
    · intro w hSw; (try dsimp only at hSw); go_simp; (try with_reducible rfl)
    try simp only [Act.put, List.getElem_toArray, List.getElem_cons_zero, List.getElem_cons_succ, List.setIfInBounds_toArray, List.set_cons_zero, List.set_cons_succ]
    refine wpAnyH_ready (rs := [9]) (by kernel_rfl) (by simp) (AllReadyH.cons (o := _) rfl (fun K hK => ?_) AllReadyH.nil)
    try simp only [Act.put, List.getElem_toArray, List.getElem_cons_zero, List.getElem_cons_succ, List.setIfInBounds_toArray, List.set_cons_zero, List.set_cons_succ]
    go_simp
    go_at_call 40; have hx0 := mkb; clear hx0 mkb; refine (HNU0.out _ HBb.out).mono ?_; rintro e wd ⟨rfl, hq⟩; have HBd := Lib.hid (HBb.out.trans (hq.out.mono HBb.out.size)); have HDd := Lib.hid (sl_held (HGc.out.below HBd.out HGc.out.lt) (HBO.out.below HBd.out HBO.out.lt)); have mkd := Lib.hid trivial; clear hq
    try go_wp2_with fail
    refine hK.out _ _ HDd.out (fun hHeld3 => ?_)
    clear hK K hHeld2
    try simp only [Act.put, List.getElem_toArray, List.getElem_cons_zero, List.getElem_cons_succ, List.setIfInBounds_toArray, List.set_cons_zero, List.set_cons_succ]
    refine wpAnyH_take (i := 10) (oi := _) (v := ?_) rfl (by kernel_rfl) (by kernel_rfl) (by kernel_rfl) (fun _ _ _ h => h) (Or.inl ⟨by rfl, ?_⟩) (by assumption) ?_
    rotate_left
    · intro w hSw; (try dsimp only at hSw); go_simp; (try with_reducible rfl)
    try simp only [Act.put, List.getElem_toArray, List.getElem_cons_zero, List.getElem_cons_succ, List.setIfInBounds_toArray, List.set_cons_zero, List.set_cons_succ]
    refine wpAnyH_take (i := 11) (oi := _) (v := ?_) rfl (by kernel_rfl) (by kernel_rfl) (by kernel_rfl) (fun _ _ _ h => h) (Or.inl ⟨by rfl, ?_⟩) (by assumption) ?_
    rotate_left
    · intro w hSw; (try dsimp only at hSw); go_simp; (try with_reducible rfl)
    try simp only [Act.put, List.getElem_toArray, List.getElem_cons_zero, List.getElem_cons_succ, List.setIfInBounds_toArray, List.set_cons_zero, List.set_cons_succ]
    refine wpAnyH_take (i := 12) (oi := _) (v := ?_) rfl (by kernel_rfl) (by kernel_rfl) (by kernel_rfl) (fun _ _ _ h => h) (Or.inl ⟨by rfl, ?_⟩) (by assumption) ?_
    rotate_left
    · intro w hSw; (try dsimp only at hSw); go_simp; (try with_reducible rfl)
    try simp only [Act.put, List.getElem_toArray, List.getElem_cons_zero, List.getElem_cons_succ, List.setIfInBounds_toArray, List.set_cons_zero, List.set_cons_succ]
    refine wpAnyH_take (i := 13) (oi := _) (v := ?_) rfl (by kernel_rfl) (by kernel_rfl) (by kernel_rfl) (fun _ _ _ h => h) (Or.inl ⟨by rfl, ?_⟩) (by assumption) ?_
    rotate_left
    · intro w hSw; (try dsimp only at hSw); go_simp; (try with_reducible rfl)
    try simp only [Act.put, List.getElem_toArray, List.getElem_cons_zero, List.getElem_cons_succ, List.setIfInBounds_toArray, List.set_cons_zero, List.set_cons_succ]
    refine wpAnyH_take (i := 14) (oi := _) (v := ?_) rfl (by kernel_rfl) (by kernel_rfl) (by kernel_rfl) (fun _ _ _ h => h) (Or.inl ⟨by rfl, ?_⟩) (by assumption) ?_
    rotate_left
    · intro w hSw; (try dsimp only at hSw); go_simp; (try with_reducible rfl)
    try simp only [Act.put, List.getElem_toArray, List.getElem_cons_zero, List.getElem_cons_succ, List.setIfInBounds_toArray, List.set_cons_zero, List.set_cons_succ]
    refine wpAnyH_take (i := 15) (oi := _) (v := ?_) rfl (by kernel_rfl) (by kernel_rfl) (by kernel_rfl) (fun _ _ _ h => h) (Or.inl ⟨by rfl, ?_⟩) (by assumption) ?_
    rotate_left
    · intro w hSw; (try dsimp only at hSw); go_simp; (try with_reducible rfl)
    try simp only [Act.put, List.getElem_toArray, List.getElem_cons_zero, List.getElem_cons_succ, List.setIfInBounds_toArray, List.set_cons_zero, List.set_cons_succ]
    refine wpAnyH_ready (rs := [16]) (by kernel_rfl) (by simp) (AllReadyH.cons (o := _) rfl (fun K hK => ?_) AllReadyH.nil)
    try simp only [Act.put, List.getElem_toArray, List.getElem_cons_zero, List.getElem_cons_succ, List.setIfInBounds_toArray, List.set_cons_zero, List.set_cons_succ]
    go_simp
    go_at_call 40; have hx0 := mkd; clear hx0 mkd; refine (HNU1.out _ HBd.out).mono ?_; rintro e1 we ⟨rfl, hq⟩; have HBe := Lib.hid (HBd.out.trans (hq.out.mono HBd.out.size)); have HDe := Lib.hid (sl_held (HGc.out.below HBe.out HGc.out.lt) (HBO.out.below HBe.out HBO.out.lt)); have mke := Lib.hid trivial; clear hq
    try go_wp2_with fail
    refine hK.out _ _ HDe.out (fun hHeld4 => ?_)
    clear hK K hHeld3
    try simp only [Act.put, List.getElem_toArray, List.getElem_cons_zero, List.getElem_cons_succ, List.setIfInBounds_toArray, List.set_cons_zero, List.set_cons_succ]
    refine wpAnyH_take (i := 17) (oi := _) (v := ?_) rfl (by kernel_rfl) (by kernel_rfl) (by kernel_rfl) (fun _ _ _ h => h) (Or.inl ⟨by rfl, ?_⟩) (by assumption) ?_
    rotate_left
    · intro w hSw; (try dsimp only at hSw); go_simp; (try with_reducible rfl)
    try simp only [Act.put, List.getElem_toArray, List.getElem_cons_zero, List.getElem_cons_succ, List.setIfInBounds_toArray, List.set_cons_zero, List.set_cons_succ]
    refine wpAnyH_take (i := 18) (oi := _) (v := ?_) rfl (by kernel_rfl) (by kernel_rfl) (by kernel_rfl) (fun _ _ _ h => h) (Or.inl ⟨by rfl, ?_⟩) (by assumption) ?_
    rotate_left
    · intro w hSw; (try dsimp only at hSw); go_simp; (try with_reducible rfl)
    try simp only [Act.put, List.getElem_toArray, List.getElem_cons_zero, List.getElem_cons_succ, List.setIfInBounds_toArray, List.set_cons_zero, List.set_cons_succ]
    refine wpAnyH_take (i := 19) (oi := _) (v := ?_) rfl (by kernel_rfl) (by kernel_rfl) (by kernel_rfl) (fun _ _ _ h => h) (Or.inl ⟨by rfl, ?_⟩) (by assumption) ?_
    rotate_left
    · intro w hSw; (try dsimp only at hSw); go_simp; (try with_reducible rfl)
    try simp only [Act.put, List.getElem_toArray, List.getElem_cons_zero, List.getElem_cons_succ, List.setIfInBounds_toArray, List.set_cons_zero, List.set_cons_succ]
    refine wpAnyH_take (i := 20) (oi := _) (v := ?_) rfl (by kernel_rfl) (by kernel_rfl) (by kernel_rfl) (fun _ _ _ h => h) (Or.inl ⟨by rfl, ?_⟩) (by assumption) ?_
    rotate_left
    · intro w hSw; (try dsimp only at hSw); go_simp; (try with_reducible rfl)
    try simp only [Act.put, List.getElem_toArray, List.getElem_cons_zero, List.getElem_cons_succ, List.setIfInBounds_toArray, List.set_cons_zero, List.set_cons_succ]
    refine wpAnyH_take (i := 21) (oi := _) (v := ?_) rfl (by kernel_rfl) (by kernel_rfl) (by kernel_rfl) (fun _ _ _ h => h) (Or.inl ⟨by rfl, ?_⟩) (by assumption) ?_
    rotate_left
    · intro w hSw; (try dsimp only at hSw); go_simp; (try with_reducible rfl)
    try simp only [Act.put, List.getElem_toArray, List.getElem_cons_zero, List.getElem_cons_succ, List.setIfInBounds_toArray, List.set_cons_zero, List.set_cons_succ]
    refine wpAnyH_take (i := 22) (oi := _) (v := ?_) rfl (by kernel_rfl) (by kernel_rfl) (by kernel_rfl) (fun _ _ _ h => h) (Or.inl ⟨by rfl, ?_⟩) (by assumption) ?_
    rotate_left
    · intro w hSw; (try dsimp only at hSw); go_simp; (try with_reducible rfl)
    try simp only [Act.put, List.getElem_toArray, List.getElem_cons_zero, List.getElem_cons_succ, List.setIfInBounds_toArray, List.set_cons_zero, List.set_cons_succ]
    refine wpAnyH_ready (rs := [23]) (by kernel_rfl) (by simp) (AllReadyH.cons (o := _) rfl (fun K hK => ?_) AllReadyH.nil)
    try simp only [Act.put, List.getElem_toArray, List.getElem_cons_zero, List.getElem_cons_succ, List.setIfInBounds_toArray, List.set_cons_zero, List.set_cons_succ]
    go_simp
    go_at_call 40; have hx0 := mke; clear hx0 mke; refine (HNU2.out _ HBe.out).mono ?_; rintro e wg ⟨rfl, hq⟩; have HBg := Lib.hid (HBe.out.trans (hq.out.mono HBe.out.size)); have HDg := Lib.hid (sl_held (HGc.out.below HBg.out HGc.out.lt) (HBO.out.below HBg.out HBO.out.lt)); have mkg := Lib.hid trivial; clear hq
    try go_wp2_with fail
    refine hK.out _ _ HDg.out (fun hHeld5 => ?_)
    clear hK K hHeld4
    try simp only [Act.put, List.getElem_toArray, List.getElem_cons_zero, List.getElem_cons_succ, List.setIfInBounds_toArray, List.set_cons_zero, List.set_cons_succ]
    refine wpAnyH_take (i := 24) (oi := _) (v := ?_) rfl (by kernel_rfl) (by kernel_rfl) (by kernel_rfl) (fun _ _ _ h => h) (Or.inl ⟨by rfl, ?_⟩) (by assumption) ?_
    rotate_left
    · intro w hSw; (try dsimp only at hSw); go_simp; (try with_reducible rfl)
    try simp only [Act.put, List.getElem_toArray, List.getElem_cons_zero, List.getElem_cons_succ, List.setIfInBounds_toArray, List.set_cons_zero, List.set_cons_succ]
    refine wpAnyH_take (i := 25) (oi := _) (v := ?_) rfl (by kernel_rfl) (by kernel_rfl) (by kernel_rfl) (fun _ _ _ h => h) (Or.inl ⟨by rfl, ?_⟩) (by assumption) ?_
    rotate_left
    · intro w hSw; (try dsimp only at hSw); go_simp; (try with_reducible rfl)
    try simp only [Act.put, List.getElem_toArray, List.getElem_cons_zero, List.getElem_cons_succ, List.setIfInBounds_toArray, List.set_cons_zero, List.set_cons_succ]
    refine wpAnyH_take (i := 26) (oi := _) (v := ?_) rfl (by kernel_rfl) (by kernel_rfl) (by kernel_rfl) (fun _ _ _ h => h) (Or.inl ⟨by rfl, ?_⟩) (by assumption) ?_
    rotate_left
    · intro w hSw; (try dsimp only at hSw); go_simp; (try with_reducible rfl)
    try simp only [Act.put, List.getElem_toArray, List.getElem_cons_zero, List.getElem_cons_succ, List.setIfInBounds_toArray, List.set_cons_zero, List.set_cons_succ]
    refine wpAnyH_take (i := 27) (oi := _) (v := ?_) rfl (by kernel_rfl) (by kernel_rfl) (by kernel_rfl) (fun _ _ _ h => h) (Or.inl ⟨by rfl, ?_⟩) (by assumption) ?_
    rotate_left
    · intro w hSw; (try dsimp only at hSw); go_simp; (try with_reducible rfl)
    try simp only [Act.put, List.getElem_toArray, List.getElem_cons_zero, List.getElem_cons_succ, List.setIfInBounds_toArray, List.set_cons_zero, List.set_cons_succ]
    refine wpAnyH_take (i := 28) (oi := _) (v := ?_) rfl (by kernel_rfl) (by kernel_rfl) (by kernel_rfl) (fun _ _ _ h => h) (Or.inl ⟨by rfl, ?_⟩) (by assumption) ?_
    rotate_left
    · intro w hSw; (try dsimp only at hSw); go_simp; (try with_reducible rfl)
    try simp only [Act.put, List.getElem_toArray, List.getElem_cons_zero, List.getElem_cons_succ, List.setIfInBounds_toArray, List.set_cons_zero, List.set_cons_succ]
    refine wpAnyH_take (i := 29) (oi := _) (v := ?_) rfl (by kernel_rfl) (by kernel_rfl) (by kernel_rfl) (fun _ _ _ h => h) (Or.inl ⟨by rfl, ?_⟩) (by assumption) ?_
    rotate_left
    · intro w hSw; (try dsimp only at hSw); go_simp; (try with_reducible rfl)
    try simp only [Act.put, List.getElem_toArray, List.getElem_cons_zero, List.getElem_cons_succ, List.setIfInBounds_toArray, List.set_cons_zero, List.set_cons_succ]
    refine wpAnyH_take (i := 30) (oi := _) (v := ?_) rfl (by kernel_rfl) (by kernel_rfl) (by kernel_rfl) (fun _ _ _ h => h) (Or.inl ⟨by rfl, ?_⟩) (by assumption) ?_
    rotate_left
    · intro w hSw; (try dsimp only at hSw); go_simp; (try with_reducible rfl)
    try simp only [Act.put, List.getElem_toArray, List.getElem_cons_zero, List.getElem_cons_succ, List.setIfInBounds_toArray, List.set_cons_zero, List.set_cons_succ]
    refine wpAnyH_take (i := 31) (oi := _) (v := ?_) rfl (by kernel_rfl) (by kernel_rfl) (by kernel_rfl) (fun _ _ _ h => h) (Or.inl ⟨by rfl, ?_⟩) (by assumption) ?_
    rotate_left
    · intro w hSw; (try dsimp only at hSw); go_simp; (try with_reducible rfl)
    try simp only [Act.put, List.getElem_toArray, List.getElem_cons_zero, List.getElem_cons_succ, List.setIfInBounds_toArray, List.set_cons_zero, List.set_cons_succ]
    refine wpAnyH_take (i := 32) (oi := _) (v := undef) rfl (by kernel_rfl) (by kernel_rfl) (by kernel_rfl) (fun _ _ _ h => h) (Or.inr ⟨by rfl, rfl⟩) (by assumption) ?_
    try simp only [Act.put, List.getElem_toArray, List.getElem_cons_zero, List.getElem_cons_succ, List.setIfInBounds_toArray, List.set_cons_zero, List.set_cons_succ]
    refine wpAnyH_take (i := 33) (oi := _) (v := undef) rfl (by kernel_rfl) (by kernel_rfl) (by kernel_rfl) (fun _ _ _ h => h) (Or.inr ⟨by rfl, rfl⟩) (by assumption) ?_
    try simp only [Act.put, List.getElem_toArray, List.getElem_cons_zero, List.getElem_cons_succ, List.setIfInBounds_toArray, List.set_cons_zero, List.set_cons_succ]
    refine wpAnyH_take (i := 34) (oi := _) (v := undef) rfl (by kernel_rfl) (by kernel_rfl) (by kernel_rfl) (fun _ _ _ h => h) (Or.inr ⟨by rfl, rfl⟩) (by assumption) ?_
    try simp only [Act.put, List.getElem_toArray, List.getElem_cons_zero, List.getElem_cons_succ, List.setIfInBounds_toArray, List.set_cons_zero, List.set_cons_succ]
    refine wpAnyH_take (i := 35) (oi := _) (v := undef) rfl (by kernel_rfl) (by kernel_rfl) (by kernel_rfl) (fun _ _ _ h => h) (Or.inr ⟨by rfl, rfl⟩) (by assumption) ?_
    try simp only [Act.put, List.getElem_toArray, List.getElem_cons_zero, List.getElem_cons_succ, List.setIfInBounds_toArray, List.set_cons_zero, List.set_cons_succ]
    refine wpAnyH_take (i := 36) (oi := _) (v := undef) rfl (by kernel_rfl) (by kernel_rfl) (by kernel_rfl) (fun _ _ _ h => h) (Or.inr ⟨by rfl, rfl⟩) (by assumption) ?_
    try simp only [Act.put, List.getElem_toArray, List.getElem_cons_zero, List.getElem_cons_succ, List.setIfInBounds_toArray, List.set_cons_zero, List.set_cons_succ]
    refine wpAnyH_take (i := 37) (oi := _) (v := ?_) rfl (by kernel_rfl) (by kernel_rfl) (by kernel_rfl) (fun _ _ _ h => h) (Or.inl ⟨by rfl, ?_⟩) (by assumption) ?_
    rotate_left
    · intro w hSw; (try dsimp only at hSw); go_simp; (try with_reducible rfl)
    try simp only [Act.put, List.getElem_toArray, List.getElem_cons_zero, List.getElem_cons_succ, List.setIfInBounds_toArray, List.set_cons_zero, List.set_cons_succ]
    refine wpAnyH_take (i := 38) (oi := _) (v := ?_) rfl (by kernel_rfl) (by kernel_rfl) (by kernel_rfl) (fun _ _ _ h => h) (Or.inl ⟨by rfl, ?_⟩) (by assumption) ?_
    rotate_left
    · intro w hSw; (try dsimp only at hSw); go_simp; (try with_reducible rfl)
    try simp only [Act.put, List.getElem_toArray, List.getElem_cons_zero, List.getElem_cons_succ, List.setIfInBounds_toArray, List.set_cons_zero, List.set_cons_succ]
    refine wpAnyH_take (i := 39) (oi := _) (v := ?_) rfl (by kernel_rfl) (by kernel_rfl) (by kernel_rfl) (fun _ _ _ h => h) (Or.inl ⟨by rfl, ?_⟩) (by assumption) ?_
    rotate_left
    · intro w hSw; (try dsimp only at hSw); go_simp; (try with_reducible rfl)
    try simp only [Act.put, List.getElem_toArray, List.getElem_cons_zero, List.getElem_cons_succ, List.setIfInBounds_toArray, List.set_cons_zero, List.set_cons_succ]
    refine wpAnyH_ready (rs := [40]) (by kernel_rfl) (by simp) (AllReadyH.cons (o := _) rfl (fun K hK => ?_) AllReadyH.nil)
    try simp only [Act.put, List.getElem_toArray, List.getElem_cons_zero, List.getElem_cons_succ, List.setIfInBounds_toArray, List.set_cons_zero, List.set_cons_succ]
    go_simp
    go_at_call 16; have hx0 := mkg; clear hx0 mkg; refine (HWK.out _).mono ?_; rintro e wf ⟨rfl, hq⟩; have HBf := Lib.hid (HBg.out.trans (hq.mono HBg.out.size)); have HDf := Lib.hid (sl_held (HGc.out.below HBf.out HGc.out.lt) (HBO.out.below HBf.out HBO.out.lt)); clear hq
    try go_wp2_with fail
    refine hK.out _ _ HDf.out (fun hHeld6 => ?_)
    clear hK K hHeld5
    try simp only [Act.put, List.getElem_toArray, List.getElem_cons_zero, List.getElem_cons_succ, List.setIfInBounds_toArray, List.set_cons_zero, List.set_cons_succ]
    refine wpAnyH_take (i := 41) (oi := _) (v := ?_) rfl (by kernel_rfl) (by kernel_rfl) (by kernel_rfl) (fun _ _ _ h => h) (Or.inl ⟨by rfl, ?_⟩) (by assumption) ?_
    rotate_left
    · intro w hSw; (try dsimp only at hSw); go_simp; (try with_reducible rfl)
    try simp only [Act.put, List.getElem_toArray, List.getElem_cons_zero, List.getElem_cons_succ, List.setIfInBounds_toArray, List.set_cons_zero, List.set_cons_succ]
    refine wpAnyH_take (i := 42) (oi := _) (v := ?_) rfl (by kernel_rfl) (by kernel_rfl) (by kernel_rfl) (fun _ _ _ h => h) (Or.inl ⟨by rfl, ?_⟩) (by assumption) ?_
    rotate_left
    · intro w hSw; (try dsimp only at hSw); go_simp; (try with_reducible rfl)
    try simp only [Act.put, List.getElem_toArray, List.getElem_cons_zero, List.getElem_cons_succ, List.setIfInBounds_toArray, List.set_cons_zero, List.set_cons_succ]
    refine wpAnyH_done (by kernel_rfl) ?_ _
    go_wp2_with fail
    go_ret
    exact ⟨rfl, HLw.out.trans (HBf.out.mono HLw.out.size)⟩
  · have hss0 : ((nS : Int) == 0) = false := by rw [HNS.out, beq_eq_false_iff_ne]; have := List.length_pos_iff.2 hss; omega
    have HLE := Lib.hid (HLS.out hss)
    clear hss
    go_wp2_with fail
    go_region_held3 (fun w' => w'.cell? ⟨G, 0, none⟩ = some (.slice x1 nL k1) ∧ w'.cell? ⟨G, 1, none⟩ = some (.slice x2 nq k2) ∧ w'.cell? ⟨G, 2, none⟩ = some (.int .i64 N0) ∧ w'.cell? ⟨G, 3, none⟩ = some (.int .i64 N1) ∧ w'.cell? ⟨G, 4, none⟩ = some (.int .i64 N2) ∧ w'.cell? ⟨gd, 0, none⟩ = some (.slice xS nS kS) ∧ w'.cell? ⟨gd, 1, none⟩ = some (.slice bq m2 dq) ∧ w'.cell? ⟨gd, 2, none⟩ = some (.slice xO nO kO))
      (first | exact HDh.out | exact HDf.out | exact HDj.out | exact HDi.out | exact HDg.out | exact HDe.out | exact HDd.out | exact HDb.out | exact HDa.out | exact HDc.out)
      (first
        | (go_at_call 24; have hx0 := mka; clear hx0 mka; refine (HSX.out _ HBc.out).mono ?_; rintro e wa ⟨va, rfl, hN, hq⟩; obtain ⟨ya, za, hva, hfm⟩ := hN.out.form; clear hfm; obtain ⟨na, hna⟩ : ∃ n, (pl.sfx seb (⟨#[]⟩ : ByteArray).data.toList).length = n := ⟨_, rfl⟩; rw [hna] at hva; subst hva; have HNa := hN; clear hN hna; have HBa := Lib.hid (HBc.out.trans (hq.out.mono HBc.out.size)); have HDa := Lib.hid (sl_held (HGc.out.below HBa.out HGc.out.lt) (HBO.out.below HBa.out HBO.out.lt)); have mka := Lib.hid trivial; clear hq)
        | (go_at_call 17; have hx0 := mka; clear hx0 mka; refine (same_any _ _ (pl.sfx seb []) (pl.sfx seb []) _ _ _ (HRq.out.below HBa.out) HNa.out (by have := HQ9.out; omega) (by have := HQ9.out; omega)).mono ?_; rintro e wb ⟨rfl, m, rfl⟩; rw [decide_eq_true (rfl : (pl.sfx seb []) = (pl.sfx seb []))]; have HBb := Lib.hid (below_drewN HBa.out m); have HDb := Lib.hid (sl_held (HGc.out.below HBb.out HGc.out.lt) (HBO.out.below HBb.out HBO.out.lt)); have mkb := Lib.hid trivial)
        | (go_at_call 40; have hx0 := mkb; clear hx0 mkb; refine (HNU0.out _ HBb.out).mono ?_; rintro e wd ⟨rfl, hq⟩; have HBd := Lib.hid (HBb.out.trans (hq.out.mono HBb.out.size)); have HDd := Lib.hid (sl_held (HGc.out.below HBd.out HGc.out.lt) (HBO.out.below HBd.out HBO.out.lt)); have mkd := Lib.hid trivial; clear hq)
        | (go_at_call 40; have hx0 := mkd; clear hx0 mkd; refine (HNU1.out _ HBd.out).mono ?_; rintro e1 we ⟨rfl, hq⟩; have HBe := Lib.hid (HBd.out.trans (hq.out.mono HBd.out.size)); have HDe := Lib.hid (sl_held (HGc.out.below HBe.out HGc.out.lt) (HBO.out.below HBe.out HBO.out.lt)); have mke := Lib.hid trivial; clear hq)
        | (go_at_call 40; have hx0 := mke; clear hx0 mke; refine (HNU2.out _ HBe.out).mono ?_; rintro e wg ⟨rfl, hq⟩; have HBg := Lib.hid (HBe.out.trans (hq.out.mono HBe.out.size)); have HDg := Lib.hid (sl_held (HGc.out.below HBg.out HGc.out.lt) (HBO.out.below HBg.out HBO.out.lt)); have mkg := Lib.hid trivial; clear hq)
        | (go_at_call 39; have hx0 := mkg; clear hx0 mkg; refine (HSW.out _ HBg.out).mono ?_; rintro e wi ⟨vi, rfl, hN, hq⟩; obtain ⟨yi, zi, hvi, hfm⟩ := hN.out.form; clear hfm; obtain ⟨ni, hni⟩ : ∃ n, ((sva ++ svb).map pl.j53).length = n := ⟨_, rfl⟩; rw [hni] at hvi; subst hvi; have HNi := hN; clear hN hni; have HBi := Lib.hid (HBg.out.trans (hq.out.mono HBg.out.size)); have HDi := Lib.hid (sl_held (HGc.out.below HBi.out HGc.out.lt) (HBO.out.below HBi.out HBO.out.lt)); have mki := Lib.hid trivial; clear hq)
        | (go_at_call 17; have hx0 := mki; clear hx0 mki; refine (same_any _ _ LS ((sva ++ svb).map pl.j53) _ _ _ (HRs.out.below HBi.out) HNi.out (by have := HLL.out; omega) (by have := HSL3.out; rw [List.length_map]; omega)).mono ?_; rintro e wj ⟨rfl, m, rfl⟩; rw [decide_eq_true HLE.out]; have HBj := Lib.hid (below_drewN HBi.out m); have HDj := Lib.hid (sl_held (HGc.out.below HBj.out HGc.out.lt) (HBO.out.below HBj.out HBO.out.lt)); have mkj := Lib.hid trivial)
        | (go_at_call 16; have hx0 := mkj; clear hx0 mkj; refine (HWK.out _).mono ?_; rintro e wh ⟨rfl, hq⟩; have HBh := Lib.hid (HBj.out.trans (hq.mono HBj.out.size)); have HDh := Lib.hid (sl_held (HGc.out.below HBh.out HGc.out.lt) (HBO.out.below HBh.out HBO.out.lt)); clear hq))
    go_wp2_with fail
    go_ret
    exact ⟨rfl, HLw.out.trans (HBh.out.mono HLw.out.size)⟩

end Go.Proofs.YtfkohahlpfejbaaDoor
