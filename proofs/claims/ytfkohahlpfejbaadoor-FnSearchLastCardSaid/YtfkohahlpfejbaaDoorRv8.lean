/-
  FnResolv: the law over lists.
-/
import Derived.Test.YtfkohahlpfejbaaDoorRv7
import Derived.Deep.RegionHeld3
namespace Go.Proofs.YtfkohahlpfejbaaDoor
open Go.RowKit

def pl.fits10 (c : Cnf) : Bool := pl.fits3 c.1 && pl.fits3 c.2.1 && decide (c.2.2.length ≤ 2147483647)

set_option maxRecDepth 100000 in
set_option maxHeartbeats 2000000 in
theorem fits10_sp (vs vq vo : Value) (sv se : List (List UInt8)) (op : List Opt) (q : Bool) (w : World) (hs : RdS w vs sv) (hq : RdS w vq se) (ho : RdO w vo op) (hf : pl.fits10 (sv, se, op) = q) :
    Calls Tryd.prog 37 #[.agg #[vs, vq, vo]] w fun e w' => e = .returned (.bool q) ∧ Below w.heap.size w w' := by
  obtain ⟨W1, hW1⟩ : ∃ W1, w.alloc (.cells #[vs, vq, vo] 45) = W1 := ⟨_, rfl⟩
  have hB1 : Blk W1 w.heap.size #[vs, vq, vo] 45 := by rw [← hW1]; exact Blk.new w _ _
  have hb1 : Below w.heap.size w W1 := by rw [← hW1]; exact (Below.refl _ _).alloc (Nat.le_refl _) _
  have h1 := fits3_sp vs sv W1 (hs.below hb1)
  have h2 := fun W (hW : Below w.heap.size w W) => fits3_sp vq se W (hq.below hW)
  obtain ⟨q1, hq1⟩ : ∃ q1, pl.fits3 sv = q1 := ⟨_, rfl⟩
  obtain ⟨q2, hq2⟩ : ∃ q2, pl.fits3 se = q2 := ⟨_, rfl⟩
  rw [hq1] at h1
  rw [hq2] at h2
  have hqq : q = (q1 && q2 && decide (op.length ≤ 2147483647)) := by rw [← hf, ← hq1, ← hq2]; rfl
  obtain ⟨a1, cs, rfl, _⟩ := hs
  obtain ⟨aq, cq, rfl, _⟩ := hq
  obtain ⟨ao, co, rfl, _⟩ := ho
  have H1 := Lib.hid h1
  have H2 := Lib.hid h2
  have y0 : W1.cell? ⟨w.heap.size, 0, none⟩ = some (.slice a1 sv.length cs) := hB1.cell 0
  have y1 : W1.cell? ⟨w.heap.size, 1, none⟩ = some (.slice aq se.length cq) := hB1.cell 1
  have y2 : W1.cell? ⟨w.heap.size, 2, none⟩ = some (.slice ao op.length co) := hB1.cell 2
  have HB := Lib.hid hb1
  have HBK := Lib.hid hB1
  have HQQ := Lib.hid hqq
  clear h1 h2 hb1 hB1 hqq hf hq1 hq2
  rcases q1 with _ | _
  · go_enter Tryd.func37, Tryd.ntmps37
    go_wp2_with (go_at_call 58; (try rw [hW1]); refine H1.out.mono ?_; rintro e w2 ⟨rfl, hb2⟩; have HB2 := Lib.hid (HB.out.trans (hb2.mono HB.out.size)))
    go_ret
    exact ⟨by rw [HQQ.out]; rfl, HB2.out⟩
  rcases q2 with _ | _
  · go_enter Tryd.func37, Tryd.ntmps37
    go_wp2_with (first
      | (go_at_call 58; have hx0 := HB2; refine (H2.out _ HB2.out).mono ?_; rintro e w3 ⟨rfl, hb3⟩; have HB3 := Lib.hid (HB2.out.trans (hb3.mono HB2.out.size)))
      | (go_at_call 58; (try rw [hW1]); refine H1.out.mono ?_; rintro e w2 ⟨rfl, hb2⟩; have hk2 := HBK.out.below hb2 HBK.out.lt; have z1 := hk2.cell 1; simp at z1; have HB2 := Lib.hid (HB.out.trans (hb2.mono HB.out.size))))
    go_ret
    exact ⟨by rw [HQQ.out]; rfl, HB3.out⟩
  by_cases hl : (2147483647 : Int) < (op.length : Int)
  · have hqf : q = false := by rw [HQQ.out, decide_eq_false (by omega)]; rfl
    have HQF := Lib.hid hqf
    clear hqf
    go_enter Tryd.func37, Tryd.ntmps37
    go_wp2_with (first
      | (go_at_call 58; have hx0 := HB2; refine (H2.out _ HB2.out).mono ?_; rintro e w3 ⟨rfl, hb3⟩; have hk3 := HBK2.out.below hb3 HBK2.out.lt; have z2 := hk3.cell 2; simp at z2; have HB3 := Lib.hid (HB2.out.trans (hb3.mono HB2.out.size)))
      | (go_at_call 58; (try rw [hW1]); refine H1.out.mono ?_; rintro e w2 ⟨rfl, hb2⟩; have hk2 := HBK.out.below hb2 HBK.out.lt; have z1 := hk2.cell 1; simp at z1; have HBK2 := Lib.hid hk2; have HB2 := Lib.hid (HB.out.trans (hb2.mono HB.out.size))))
    go_ret
    exact ⟨by rw [HQF.out]; rfl, HB3.out⟩
  · have hqf : q = true := by rw [HQQ.out, decide_eq_true (by omega)]; rfl
    have HQF := Lib.hid hqf
    clear hqf
    go_enter Tryd.func37, Tryd.ntmps37
    go_wp2_with (first
      | (go_at_call 58; have hx0 := HB2; refine (H2.out _ HB2.out).mono ?_; rintro e w3 ⟨rfl, hb3⟩; have hk3 := HBK2.out.below hb3 HBK2.out.lt; have z2 := hk3.cell 2; simp at z2; have HB3 := Lib.hid (HB2.out.trans (hb3.mono HB2.out.size)))
      | (go_at_call 58; (try rw [hW1]); refine H1.out.mono ?_; rintro e w2 ⟨rfl, hb2⟩; have hk2 := HBK.out.below hb2 HBK.out.lt; have z1 := hk2.cell 1; simp at z1; have HBK2 := Lib.hid hk2; have HB2 := Lib.hid (HB.out.trans (hb2.mono HB.out.size))))
    go_ret
    exact ⟨by rw [HQF.out]; rfl, HB3.out⟩

theorem rv_held {W : World} {G C : Nat} {tg tc : TypeId} {x0 x1 x2 x3 x4 x5 x6 x7 x8 x9 x10 x11 c0 c1 c2 : Value} (h1 : Blk W G #[x0, x1, x2, x3, x4, x5, x6, x7, x8, x9, x10, x11] tg) (h2 : Blk W C #[c0, c1, c2] tc) : W.cell? ⟨G, 0, none⟩ = some x0 ∧ W.cell? ⟨G, 1, none⟩ = some x1 ∧ W.cell? ⟨G, 2, none⟩ = some x2 ∧ W.cell? ⟨G, 3, none⟩ = some x3 ∧ W.cell? ⟨G, 4, none⟩ = some x4 ∧ W.cell? ⟨G, 5, none⟩ = some x5 ∧ W.cell? ⟨G, 6, none⟩ = some x6 ∧ W.cell? ⟨G, 7, none⟩ = some x7 ∧ W.cell? ⟨G, 8, none⟩ = some x8 ∧ W.cell? ⟨G, 9, none⟩ = some x9 ∧ W.cell? ⟨G, 10, none⟩ = some x10 ∧ W.cell? ⟨G, 11, none⟩ = some x11 ∧ W.cell? ⟨C, 0, none⟩ = some c0 ∧ W.cell? ⟨C, 1, none⟩ = some c1 ∧ W.cell? ⟨C, 2, none⟩ = some c2 :=
  ⟨h1.cell 0, h1.cell 1, h1.cell 2, h1.cell 3, h1.cell 4, h1.cell 5, h1.cell 6, h1.cell 7, h1.cell 8, h1.cell 9, h1.cell 10, h1.cell 11, h2.cell 0, h2.cell 1, h2.cell 2⟩

set_option maxRecDepth 100000 in
set_option maxHeartbeats 8000000 in
theorem resolv_good (g4 o4 g6 o6 : Nat) (vs vq vo : Value) (sv se : List (List UInt8)) (op : List Opt) (apart : Bool) (hn : ByteArray) (w : World) (hs : RdS w vs sv) (hq : RdS w vq se) (ho : RdO w vo op) (hI : IpVars w g4 o4 g6 o6)
    (hf : pl.fits10 (sv, se, op) = true) (hh : ¬ (2147483647 < (hn.size : Int))) (hok : pl.rvOk (sv, se, op) = true) (hne : sv ≠ []) :
    Calls Tryd.prog 11 #[.agg #[vs, vq, vo], .bool apart, .string hn] w fun e w' => e = .returned (.bool true) ∧ Below w.heap.size w w' := by
  have hf3 := hf
  unfold pl.fits10 at hf3
  rw [Bool.and_eq_true, Bool.and_eq_true] at hf3
  obtain ⟨⟨hfa, hfb⟩, _⟩ := hf3
  have hl1 : ∀ q ∈ sv, q.length ≤ 2147483647 := fun q hq => by
    have h : pl.fits3 sv = true := hfa
    unfold pl.fits3 at h
    rw [Bool.and_eq_true, List.all_eq_true] at h
    simpa using h.2 q hq
  have hl2 : ∀ q ∈ se, q.length ≤ 2147483647 := fun q hq => by
    have h : pl.fits3 se = true := hfb
    unfold pl.fits3 at h
    rw [Bool.and_eq_true, List.all_eq_true] at h
    simpa using h.2 q hq
  obtain ⟨p1, p2, p3, _, _, p6⟩ := pl.rvOk_parts (sv, se, op) hok
  have p1' : sv.length ≤ 3 := p1
  have p2' : se.length ≤ 6 := p2
  have p3' : op.length ≤ 20 := p3
  have hits := pl.rvIts_ok (sv, se, op) apart hok hl1 hl2
  have hil : (pl.rvIts (sv, se, op) apart).length ≤ 200 := by
    unfold pl.rvIts
    cases apart with
    | true => simp; omega
    | false => simp; omega
  have hrun := pl.run_conf (sv, se, op) apart pl.rZero (by show 0 + sv.length ≤ 3; omega)
  obtain ⟨st, hst⟩ : ∃ st, pl.rRun (pl.rvIts (sv, se, op) apart) pl.rZero = st := ⟨_, rfl⟩
  rw [hst] at hrun
  obtain ⟨o1, o2⟩ := pl.opts_sv op { pl.rZero with sv := pl.rZero.sv ++ sv.map pl.j53, se := if se = [] then pl.rZero.se else se.map pl.rooted }
  obtain ⟨b0, b1, b2, b3, b4, b5, b6, b7⟩ := pl.opts_all op { pl.rZero with sv := pl.rZero.sv ++ sv.map pl.j53, se := if se = [] then pl.rZero.se else se.map pl.rooted } p6
  have hrun' : st = op.foldl pl.rOpt { pl.rZero with sv := pl.rZero.sv ++ sv.map pl.j53, se := if se = [] then pl.rZero.se else se.map pl.rooted } := hrun
  rw [← hrun'] at o1 o2 b0 b1 b2 b3 b4 b5 b6 b7
  have e1 : pl.rSv st = sv.map pl.j53 := by
    unfold pl.rSv
    rw [o1]
    have h : ([] : List (List UInt8)) ++ sv.map pl.j53 = sv.map pl.j53 := List.nil_append _
    show (if [] ++ sv.map pl.j53 = [] then _ else [] ++ sv.map pl.j53) = _
    rw [h, if_neg (by simpa using hne)]
  have e2 : pl.rSe st hn.data.toList = pl.sfx se hn.data.toList := by
    unfold pl.rSe pl.sfx
    rw [o2]
    by_cases h : se = []
    · simp only [h, if_true]; rfl
    · simp only [h, if_false, List.map_eq_nil_iff]
  have b0' : st.nd = pl.numOf op 0 1 := b0
  have b1' : st.tm = pl.numOf op 1 5 := b1
  have b2' : st.att = pl.numOf op 2 2 := b2
  have b3' : st.ro = pl.setOf op 3 := by rw [b3]; exact Bool.false_or _
  have b4' : st.si = pl.setOf op 4 := by rw [b4]; exact Bool.false_or _
  have b5' : st.tc = pl.setOf op 5 := by rw [b5]; exact Bool.false_or _
  have b6' : st.ta = pl.setOf op 6 := by rw [b6]; exact Bool.false_or _
  have b7' : st.nr = pl.setOf op 7 := by rw [b7]; exact Bool.false_or _
  have hrr := fun W (hW : IpVars W g4 o4 g6 o6) => rri_sp g4 o4 g6 o6 (pl.rvIts (sv, se, op) apart) hn W hits hil hW (by omega)
  simp only [pl.rvText_its, hst] at hrr
  have hwr := fun W (hW : Below w.heap.size w W) => write_sp vs vq vo sv se op apart W (hs.below hW) (hq.below hW) (ho.below hW) hl1 hl2
  have hft := fun W (hW : Below w.heap.size w W) => fits10_sp vs vq vo sv se op true W (hs.below hW) (hq.below hW) (ho.below hW) hf
  have hsw := fun W (hW : Below w.heap.size w W) => swp_sp vs vq vo sv se op W (hs.below hW) (hq.below hW) (ho.below hW) (by omega) hl1
  have hsx := fun W (hW : Below w.heap.size w W) => sfx_sp vs vq vo sv se op hn W (hs.below hW) (hq.below hW) (ho.below hW) (by omega) hl2 (by omega)
  have hnu := fun k d (hk : (k = 0 ∧ d = 1) ∨ (k = 1 ∧ d = 5) ∨ (k = 2 ∧ d = 2)) W (hW : Below w.heap.size w W) => number_sp vs vq vo sv se op k d W (hs.below hW) (hq.below hW) (ho.below hW) (by omega) hk
  have hse := fun k W (hW : Below w.heap.size w W) => set_sp vs vq vo sv se op k W (hs.below hW) (hq.below hW) (ho.below hW) (by omega)
  obtain ⟨a1, cs, rfl, _⟩ := hs
  obtain ⟨aq, cq, rfl, _⟩ := hq
  obtain ⟨ao, co, rfl, _⟩ := ho
  obtain ⟨W1, hW1⟩ : ∃ W1, w.alloc (.cells #[.slice a1 sv.length cs, .slice aq se.length cq, .slice ao op.length co] 45) = W1 := ⟨_, rfl⟩
  have hbk1 : Blk W1 w.heap.size #[.slice a1 sv.length cs, .slice aq se.length cq, .slice ao op.length co] 45 := by rw [← hW1]; exact Blk.new w _ _
  have hbl1 : Below w.heap.size w W1 := by rw [← hW1]; exact (Below.refl _ _).alloc (Nat.le_refl _) _
  have hss0 : ((sv.length : Int) == 0) = false := by rw [beq_eq_false_iff_ne]; have := List.length_pos_iff.2 hne; omega
  obtain ⟨T, hT⟩ : ∃ T : ByteArray, (⟨(pl.rvText (sv, se, op) apart).toArray⟩ : ByteArray) = T := ⟨_, rfl⟩
  have hwr' : ∀ W, Below w.heap.size w W → Calls Tryd.prog 38 #[.agg #[.slice a1 sv.length cs, .slice aq se.length cq, .slice ao op.length co], .bool apart] W fun e w' => e = .returned (.tuple #[.string T, .bool true]) ∧ Below W.heap.size W w' := fun W hW => (hwr W hW).mono fun e w' ⟨hb, hr⟩ => by
    rcases hr with ⟨_, he⟩ | ⟨hno, _⟩
    · exact ⟨by rw [he, hT], hb⟩
    · rw [hok] at hno; cases hno
  have hrr' : ∀ W, IpVars W g4 o4 g6 o6 → Calls Tryd.prog 23 #[.string T, .string hn] W (RrRes st hn.data.toList W) := fun W hW => by rw [← hT]; exact hrr W hW
  have y0 : W1.cell? ⟨w.heap.size, 0, none⟩ = some (.slice a1 sv.length cs) := hbk1.cell 0
  have y1 : W1.cell? ⟨w.heap.size, 1, none⟩ = some (.slice aq se.length cq) := hbk1.cell 1
  have y2 : W1.cell? ⟨w.heap.size, 2, none⟩ = some (.slice ao op.length co) := hbk1.cell 2
  have HRR := Lib.hid hrr'
  have HWR := Lib.hid hwr'
  have HFT := Lib.hid hft
  have HSW := Lib.hid hsw
  have HSX := Lib.hid hsx
  have HNU := Lib.hid hnu
  have HSE := Lib.hid hse
  have HI := Lib.hid hI
  have HBK1 := Lib.hid hbk1
  have HBL1 := Lib.hid hbl1
  have E1 := Lib.hid e1
  have E2 := Lib.hid e2
  have P1 := Lib.hid p1'
  have P2 := Lib.hid p2'
  clear hf hfa hfb hl1 hl2 p1 p2 p3 p6 p1' p2' p3' hits hil hrun hrun' hst o1 o2 b0 b1 b2 b3 b4 b5 b6 b7 e1 e2 hrr hwr hft hsw hsx hnu hse hwr' hrr' hI hbk1 hbl1 hT hok hne
  go_enter Tryd.func11, Tryd.ntmps11
  go_wp2_with (first
    | (go_at_call 23; refine (HRR.out _ (HI.out.below HB3.out (Nat.le_refl _))).mono ?_; rintro e w4 ⟨xs, xq, rfl, hb4, hS, hQ⟩; have HBK4 := Lib.hid (HBK3.out.below hb4 HBK3.out.lt); have HB4 := Lib.hid (HB3.out.trans (hb4.mono HB3.out.size)); rw [E1.out] at hS; rw [E2.out] at hQ; have HS4 := Lib.hid hS; have HQ4 := Lib.hid hQ; obtain ⟨x1, k1, rfl, hx1⟩ := hS.form; obtain ⟨x2, k2, rfl, hx2⟩ := hQ.form; unfold resB; clear hb4 hS hQ hx1 hx2)
    | (go_at_call 38; refine (HWR.out _ HB2.out).mono ?_; rintro e w3 ⟨rfl, hb3⟩; have hk3 := HBK2.out.below hb3 HBK2.out.lt; have z3 := hk3.cell 0; have z31 := hk3.cell 1; have z32 := hk3.cell 2; simp at z3 z31 z32; have HBK3 := Lib.hid hk3; have HB3 := Lib.hid (HB2.out.trans (hb3.mono HB2.out.size)); clear hb3 hk3)
    | (go_at_call 37; (try rw [hW1]); refine (HFT.out _ HBL1.out).mono ?_; rintro e w2 ⟨rfl, hb2⟩; have hk2 := HBK1.out.below hb2 HBK1.out.lt; have z2 := hk2.cell 0; have z21 := hk2.cell 1; have z22 := hk2.cell 2; simp at z2 z21 z22; have HBK2 := Lib.hid hk2; have HB2 := Lib.hid (HBL1.out.trans (hb2.mono HBL1.out.size)); clear hb2 hk2))
  simp only [List.append]
  obtain ⟨G, hG⟩ : ∃ G, w4.heap.size = G := ⟨_, rfl⟩
  obtain ⟨n2, hn2⟩ : ∃ n2, (pl.sfx se hn.data.toList).length = n2 := ⟨_, rfl⟩
  have hmp : (sv.map pl.j53).length = sv.length := List.length_map _
  refine wp_name (fun V hV => ?_)
  have hA : ∀ o, Blk (w4.alloc (.cells #[.slice x1 (sv.map pl.j53).length k1, .slice x2 (pl.sfx se hn.data.toList).length k2, .int .i64 (pl.numOf op 0 1), .int .i64 (pl.numOf op 1 5), .int .i64 (pl.numOf op 2 2), .bool (pl.setOf op 3), .bool false, .bool (pl.setOf op 4), .bool (pl.setOf op 5), .bool (pl.setOf op 6), .bool (pl.setOf op 7), .slice none 0 0] o)) w4.heap.size #[.slice x1 (sv.map pl.j53).length k1, .slice x2 (pl.sfx se hn.data.toList).length k2, .int .i64 (pl.numOf op 0 1), .int .i64 (pl.numOf op 1 5), .int .i64 (pl.numOf op 2 2), .bool (pl.setOf op 3), .bool false, .bool (pl.setOf op 4), .bool (pl.setOf op 5), .bool (pl.setOf op 6), .bool (pl.setOf op 7), .slice none 0 0] o := fun o => Blk.new w4 _ o
  simp only [hmp] at hA hV HS4
  have hbV : Below w4.heap.size w4 V := by rw [hV]; repeat (first | exact Below.refl _ _ | refine Below.drew ?_ | refine Below.alloc ?_ (by simp) _)
  have hGV : Blk V G #[.slice x1 sv.length k1, .slice x2 (pl.sfx se hn.data.toList).length k2, .int .i64 (pl.numOf op 0 1), .int .i64 (pl.numOf op 1 5), .int .i64 (pl.numOf op 2 2), .bool (pl.setOf op 3), .bool false, .bool (pl.setOf op 4), .bool (pl.setOf op 5), .bool (pl.setOf op 6), .bool (pl.setOf op 7), .slice none 0 0] 41 := by rw [hV, ← hG]; exact hA _
  have hCV := HBK4.out.below hbV HBK4.out.lt
  have hSV := HS4.out.below hbV
  have hQV := HQ4.out.below hbV
  have hWV := HB4.out.trans (hbV.mono HB4.out.size)
  rw [hn2] at hGV hQV
  simp only [hG, hn2]
  obtain ⟨d0_0, d0_1, d0_2, d0_3, d0_4, d0_5, d0_6, d0_7, d0_8, d0_9, d0_10, d0_11, d0_12, d0_13, d0_14⟩ := rv_held hGV hCV
  have hlen : (pl.sfx se hn.data.toList).length ≤ 1000000 := by
    unfold pl.sfx pl.defS
    split
    · split <;> simp
    · rw [List.length_map]; have := P2.out; omega
  have HLEN := Lib.hid hlen
  have HG5 := Lib.hid hGV
  have HC5 := Lib.hid hCV
  have HS5 := Lib.hid hSV
  have HQ5 := Lib.hid hQV
  have HBV : Hid (Below w.heap.size w V.drew) := Lib.hid hWV.drew
  have HBd : Hid (Below V.heap.size V V.drew) := Lib.hid (Below.refl _ _).drew
  have mka := Lib.hid trivial
  clear y0 y1 y2 z2 z21 z22 z3 z31 z32 hV hA hbV hGV hCV hSV hQV hWV hG hn2 hmp hlen
  go_region_held3 (fun w' => w'.cell? ⟨G, 0, none⟩ = some (.slice x1 sv.length k1) ∧ w'.cell? ⟨G, 1, none⟩ = some (.slice x2 n2 k2) ∧ w'.cell? ⟨G, 2, none⟩ = some (.int .i64 (pl.numOf op 0 1)) ∧ w'.cell? ⟨G, 3, none⟩ = some (.int .i64 (pl.numOf op 1 5)) ∧ w'.cell? ⟨G, 4, none⟩ = some (.int .i64 (pl.numOf op 2 2)) ∧ w'.cell? ⟨G, 5, none⟩ = some (.bool (pl.setOf op 3)) ∧ w'.cell? ⟨G, 6, none⟩ = some (.bool false) ∧ w'.cell? ⟨G, 7, none⟩ = some (.bool (pl.setOf op 4)) ∧ w'.cell? ⟨G, 8, none⟩ = some (.bool (pl.setOf op 5)) ∧ w'.cell? ⟨G, 9, none⟩ = some (.bool (pl.setOf op 6)) ∧ w'.cell? ⟨G, 10, none⟩ = some (.bool (pl.setOf op 7)) ∧ w'.cell? ⟨G, 11, none⟩ = some (.slice none 0 0) ∧ w'.cell? ⟨w.heap.size, 0, none⟩ = some (.slice a1 sv.length cs) ∧ w'.cell? ⟨w.heap.size, 1, none⟩ = some (.slice aq se.length cq) ∧ w'.cell? ⟨w.heap.size, 2, none⟩ = some (.slice ao op.length co))
    (first | exact ⟨dl0, dl1, dl2, dl3, dl4, dl5, dl6, dl7, dl8, dl9, dl10, dl11, dl12, dl13, dl14⟩ | exact ⟨dk0, dk1, dk2, dk3, dk4, dk5, dk6, dk7, dk8, dk9, dk10, dk11, dk12, dk13, dk14⟩ | exact ⟨dj0, dj1, dj2, dj3, dj4, dj5, dj6, dj7, dj8, dj9, dj10, dj11, dj12, dj13, dj14⟩ | exact ⟨di0, di1, di2, di3, di4, di5, di6, di7, di8, di9, di10, di11, di12, di13, di14⟩ | exact ⟨dh0, dh1, dh2, dh3, dh4, dh5, dh6, dh7, dh8, dh9, dh10, dh11, dh12, dh13, dh14⟩ | exact ⟨dg0, dg1, dg2, dg3, dg4, dg5, dg6, dg7, dg8, dg9, dg10, dg11, dg12, dg13, dg14⟩ | exact ⟨df0, df1, df2, df3, df4, df5, df6, df7, df8, df9, df10, df11, df12, df13, df14⟩ | exact ⟨de0, de1, de2, de3, de4, de5, de6, de7, de8, de9, de10, de11, de12, de13, de14⟩ | exact ⟨dd0, dd1, dd2, dd3, dd4, dd5, dd6, dd7, dd8, dd9, dd10, dd11, dd12, dd13, dd14⟩ | exact ⟨dc0, dc1, dc2, dc3, dc4, dc5, dc6, dc7, dc8, dc9, dc10, dc11, dc12, dc13, dc14⟩ | exact ⟨db0, db1, db2, db3, db4, db5, db6, db7, db8, db9, db10, db11, db12, db13, db14⟩ | exact ⟨da0, da1, da2, da3, da4, da5, da6, da7, da8, da9, da10, da11, da12, da13, da14⟩ | exact ⟨d0_0, d0_1, d0_2, d0_3, d0_4, d0_5, d0_6, d0_7, d0_8, d0_9, d0_10, d0_11, d0_12, d0_13, d0_14⟩ | go_keep)
    (first
        | (go_at_call 39; have hx0 := mka; clear hx0 mka; refine (HSW.out _ HBV.out).mono ?_; rintro e wa ⟨va, rfl, hNa, hqa⟩; have hba := HBd.out.trans (hqa.out.mono HBd.out.size); have HLa := Lib.hid (HBV.out.trans (hqa.out.mono HBV.out.size)); have HNewa := hNa; obtain ⟨ya, za, rfl, hfma⟩ := hNa.out.form; clear hfma; rw [show (sv.map pl.j53).length = sv.length from List.length_map _] at HNewa ⊢; have HRowa := Lib.hid (HS5.out.below hba); have HBa := Lib.hid hba; obtain ⟨da0, da1, da2, da3, da4, da5, da6, da7, da8, da9, da10, da11, da12, da13, da14⟩ := rv_held (HG5.out.below hba HG5.out.lt) (HC5.out.below hba HC5.out.lt); have mkb := Lib.hid trivial; clear hba)
        | (go_at_call 17; have hx0 := mkb; clear hx0 mkb; refine (same_any _ _ (sv.map pl.j53) (sv.map pl.j53) _ _ _ HRowa.out HNewa.out (by have := P1.out; simp; omega) (by have := P1.out; simp; omega)).mono ?_; rintro e wb ⟨rfl, mb, rfl⟩; rw [decide_eq_true (rfl : (sv.map pl.j53) = (sv.map pl.j53))]; have hbb := below_drewN (HBa.out) mb; have HLb := Lib.hid (below_drewN HLa.out mb); have HBb := Lib.hid hbb; obtain ⟨db0, db1, db2, db3, db4, db5, db6, db7, db8, db9, db10, db11, db12, db13, db14⟩ := rv_held (HG5.out.below hbb HG5.out.lt) (HC5.out.below hbb HC5.out.lt); have mkc := Lib.hid trivial; clear hbb)
        | (go_at_call 24; have hx0 := mkc; clear hx0 mkc; refine (HSX.out _ HLb.out).mono ?_; rintro e wc ⟨vc, rfl, hNc, hqc⟩; have hbc := HBb.out.trans (hqc.out.mono HBb.out.size); have HLc := Lib.hid (HLb.out.trans (hqc.out.mono HLb.out.size)); have HNewc := hNc; obtain ⟨yc, zc, rfl, hfmc⟩ := hNc.out.form; clear hfmc; have HRowc := Lib.hid (HQ5.out.below hbc); have HBc := Lib.hid hbc; obtain ⟨dc0, dc1, dc2, dc3, dc4, dc5, dc6, dc7, dc8, dc9, dc10, dc11, dc12, dc13, dc14⟩ := rv_held (HG5.out.below hbc HG5.out.lt) (HC5.out.below hbc HC5.out.lt); have mkd := Lib.hid trivial; clear hbc)
        | (go_at_call 17; have hx0 := mkd; clear hx0 mkd; refine (same_any _ _ (pl.sfx se hn.data.toList) (pl.sfx se hn.data.toList) _ _ _ HRowc.out HNewc.out (by have := HLEN.out; omega) (by have := HLEN.out; omega)).mono ?_; rintro e wd ⟨rfl, md, rfl⟩; rw [decide_eq_true (rfl : (pl.sfx se hn.data.toList) = (pl.sfx se hn.data.toList))]; have hbd := below_drewN (HBc.out) md; have HLd := Lib.hid (below_drewN HLc.out md); have HBd := Lib.hid hbd; obtain ⟨dd0, dd1, dd2, dd3, dd4, dd5, dd6, dd7, dd8, dd9, dd10, dd11, dd12, dd13, dd14⟩ := rv_held (HG5.out.below hbd HG5.out.lt) (HC5.out.below hbd HC5.out.lt); have mke := Lib.hid trivial; clear hbd)
        | (go_at_call 40; have hx0 := mke; clear hx0 mke; refine (HNU.out 0 1 (.inl ⟨rfl, rfl⟩) _ HLd.out).mono ?_; rintro e we ⟨rfl, hqe⟩; have hbe := HBd.out.trans (hqe.out.mono HBd.out.size); have HLe := Lib.hid (HLd.out.trans (hqe.out.mono HLd.out.size)); have HBe := Lib.hid hbe; obtain ⟨de0, de1, de2, de3, de4, de5, de6, de7, de8, de9, de10, de11, de12, de13, de14⟩ := rv_held (HG5.out.below hbe HG5.out.lt) (HC5.out.below hbe HC5.out.lt); have mkf := Lib.hid trivial; clear hbe)
        | (go_at_call 40; have hx0 := mkf; clear hx0 mkf; refine (HNU.out 1 5 (.inr (.inl ⟨rfl, rfl⟩)) _ HLe.out).mono ?_; rintro e wf ⟨rfl, hqf⟩; have hbf := HBe.out.trans (hqf.out.mono HBe.out.size); have HLf := Lib.hid (HLe.out.trans (hqf.out.mono HLe.out.size)); have HBf := Lib.hid hbf; obtain ⟨df0, df1, df2, df3, df4, df5, df6, df7, df8, df9, df10, df11, df12, df13, df14⟩ := rv_held (HG5.out.below hbf HG5.out.lt) (HC5.out.below hbf HC5.out.lt); have mkg := Lib.hid trivial; clear hbf)
        | (go_at_call 40; have hx0 := mkg; clear hx0 mkg; refine (HNU.out 2 2 (.inr (.inr ⟨rfl, rfl⟩)) _ HLf.out).mono ?_; rintro e wg ⟨rfl, hqg⟩; have hbg := HBf.out.trans (hqg.out.mono HBf.out.size); have HLg := Lib.hid (HLf.out.trans (hqg.out.mono HLf.out.size)); have HBg := Lib.hid hbg; obtain ⟨dg0, dg1, dg2, dg3, dg4, dg5, dg6, dg7, dg8, dg9, dg10, dg11, dg12, dg13, dg14⟩ := rv_held (HG5.out.below hbg HG5.out.lt) (HC5.out.below hbg HC5.out.lt); have mkh := Lib.hid trivial; clear hbg)
        | (go_at_call 41; have hx0 := mkh; clear hx0 mkh; refine (HSE.out 3 _ HLg.out).mono ?_; rintro e wh ⟨rfl, hqh⟩; have hbh := HBg.out.trans (hqh.out.mono HBg.out.size); have HLh := Lib.hid (HLg.out.trans (hqh.out.mono HLg.out.size)); have HBh := Lib.hid hbh; obtain ⟨dh0, dh1, dh2, dh3, dh4, dh5, dh6, dh7, dh8, dh9, dh10, dh11, dh12, dh13, dh14⟩ := rv_held (HG5.out.below hbh HG5.out.lt) (HC5.out.below hbh HC5.out.lt); have mki := Lib.hid trivial; clear hbh)
        | (go_at_call 41; have hx0 := mki; clear hx0 mki; refine (HSE.out 4 _ HLh.out).mono ?_; rintro e wi ⟨rfl, hqi⟩; have hbi := HBh.out.trans (hqi.out.mono HBh.out.size); have HLi := Lib.hid (HLh.out.trans (hqi.out.mono HLh.out.size)); have HBi := Lib.hid hbi; obtain ⟨di0, di1, di2, di3, di4, di5, di6, di7, di8, di9, di10, di11, di12, di13, di14⟩ := rv_held (HG5.out.below hbi HG5.out.lt) (HC5.out.below hbi HC5.out.lt); have mkj := Lib.hid trivial; clear hbi)
        | (go_at_call 41; have hx0 := mkj; clear hx0 mkj; refine (HSE.out 5 _ HLi.out).mono ?_; rintro e wj ⟨rfl, hqj⟩; have hbj := HBi.out.trans (hqj.out.mono HBi.out.size); have HLj := Lib.hid (HLi.out.trans (hqj.out.mono HLi.out.size)); have HBj := Lib.hid hbj; obtain ⟨dj0, dj1, dj2, dj3, dj4, dj5, dj6, dj7, dj8, dj9, dj10, dj11, dj12, dj13, dj14⟩ := rv_held (HG5.out.below hbj HG5.out.lt) (HC5.out.below hbj HC5.out.lt); have mkk := Lib.hid trivial; clear hbj)
        | (go_at_call 41; have hx0 := mkk; clear hx0 mkk; refine (HSE.out 6 _ HLj.out).mono ?_; rintro e wk ⟨rfl, hqk⟩; have hbk := HBj.out.trans (hqk.out.mono HBj.out.size); have HLk := Lib.hid (HLj.out.trans (hqk.out.mono HLj.out.size)); have HBk := Lib.hid hbk; obtain ⟨dk0, dk1, dk2, dk3, dk4, dk5, dk6, dk7, dk8, dk9, dk10, dk11, dk12, dk13, dk14⟩ := rv_held (HG5.out.below hbk HG5.out.lt) (HC5.out.below hbk HC5.out.lt); have mkl := Lib.hid trivial; clear hbk)
        | (go_at_call 41; have hx0 := mkl; clear hx0 mkl; refine (HSE.out 7 _ HLk.out).mono ?_; rintro e wl ⟨rfl, hql⟩; have hbl := HBk.out.trans (hql.out.mono HBk.out.size); have HLl := Lib.hid (HLk.out.trans (hql.out.mono HLk.out.size)); have HBl := Lib.hid hbl; obtain ⟨dl0, dl1, dl2, dl3, dl4, dl5, dl6, dl7, dl8, dl9, dl10, dl11, dl12, dl13, dl14⟩ := rv_held (HG5.out.below hbl HG5.out.lt) (HC5.out.below hbl HC5.out.lt); clear hbl))
  go_wp2_with fail
  go_ret
  exact ⟨rfl, HLl.out⟩

end Go.Proofs.YtfkohahlpfejbaaDoor
