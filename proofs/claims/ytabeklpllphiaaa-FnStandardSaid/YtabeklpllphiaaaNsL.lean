/-
  FnSources: the law over lists.
-/
import Derived.Test.YtabeklpllphiaaaNsX
import Derived.Test.YtabeklpllphiaaaNsI
import Derived.Test.YtabeklpllphiaaaHost2
import Derived.Deep.RegionHeld3
import Derived.Deep.QuietTactic
import Derived.BigQuiet
namespace Go.Proofs.Ytabeklpllphiaaa
open Go.RowKit

theorem switch_any (v : Value) (db : List UInt8) (l : List Src) (q : Bool) (w : World) (hv : RdN w v l) (hd : db.length ≤ 2147483647) (hf : ∀ s ∈ l, FitN s) (hq : pl.swOk db l = q) :
    Calls Try.prog 20 #[.string ⟨db.toArray⟩, v] w fun e w' => ∃ T, e = .returned (.tuple #[.string T, .bool q]) ∧ Hid (q = true → T = ⟨(pl.swText db l).toArray⟩) ∧ Hid (Below w.heap.size w w') := by
  refine (switch_sp v db l w hv hd hf).mono ?_
  rintro e w' ⟨hb, hr⟩
  rcases hr with ⟨hS, rfl⟩ | ⟨hS, rfl⟩
  · have : q = true := by rw [← hq]; exact hS
    subst this
    exact ⟨_, rfl, Lib.hid (fun _ => rfl), Lib.hid hb⟩
  · have : q = false := by rw [← hq]; exact hS
    subst this
    exact ⟨_, rfl, Lib.hid (fun h => by cases h), Lib.hid hb⟩

theorem held6 {W : World} {G C : Nat} {tg tc : TypeId} {x0 x1 x2 c0 c1 c2 : Value} (h1 : Blk W G #[x0, x1, x2] tg) (h2 : Blk W C #[c0, c1, c2] tc) : W.cell? ⟨G, 0, none⟩ = some x0 ∧ W.cell? ⟨G, 1, none⟩ = some x1 ∧ W.cell? ⟨G, 2, none⟩ = some x2 ∧ W.cell? ⟨C, 0, none⟩ = some c0 ∧ W.cell? ⟨C, 1, none⟩ = some c1 ∧ W.cell? ⟨C, 2, none⟩ = some c2 :=
  ⟨h1.cell 0, h1.cell 1, h1.cell 2, h2.cell 0, h2.cell 1, h2.cell 2⟩

set_option maxRecDepth 100000 in
set_option maxHeartbeats 8000000 in
theorem src_law (v : Value) (db : List UInt8) (l : List Src) (w : World) (hv : RdN w v l) :
    Calls Try.prog 6 #[.string ⟨db.toArray⟩, v] w fun e w' => e = .returned (.bool true) ∧ Below w.heap.size w w' := by
  have hwk := works_any
  obtain ⟨DB, hDB⟩ : ∃ DB : ByteArray, (⟨db.toArray⟩ : ByteArray) = DB := ⟨_, rfl⟩
  have hDs : DB.size = db.length := by rw [← hDB]; rfl
  have hft := fun W (hW : Below w.heap.size w W) => fits6_sp v l W (hv.below hW)
  have HWK := Lib.hid hwk
  clear hwk
  by_cases hbig : 2147483647 < db.length
  · have hbI : 2147483647 < (DB.size : Int) := by omega
    obtain ⟨a, cap, rfl, _⟩ := hv
    rw [hDB]
    clear hft hDs hDB hbig
    go_enter Try.func6, Try.ntmps6
    go_wp2_with fail
    go_ret
    exact ⟨rfl, Below.refl _ _⟩
  have hbI : ¬ (2147483647 < (DB.size : Int)) := by omega
  obtain ⟨f, hfa⟩ : ∃ f, pl.fits6 l = f := ⟨_, rfl⟩
  rw [hfa] at hft
  have HFT := Lib.hid hft
  rcases f with _ | _
  · obtain ⟨a, cap, rfl, hvv⟩ := hv
    rw [hDB]
    clear hft hDs hDB hbig hfa hvv
    go_enter Try.func6, Try.ntmps6
    go_wp2_with (go_at_call 19; refine (HFT.out _ (Below.refl _ _)).mono ?_; rintro e w2 ⟨rfl, hb2⟩)
    go_ret
    exact ⟨rfl, hb2⟩
  have hfit := FitN.all l hfa
  obtain ⟨q, hq⟩ : ∃ q, pl.swOk db l = q := ⟨_, rfl⟩
  have hsw := fun W (hW : Below w.heap.size w W) => switch_any v db l q W (hv.below hW) (by omega) hfit hq
  rw [hDB] at hsw
  have HSW := Lib.hid hsw
  rcases q with _ | _
  · obtain ⟨a, cap, rfl, hvv⟩ := hv
    rw [hDB]
    clear hft hDs hDB hbig hfa hvv hsw hq hfit
    go_enter Try.func6, Try.ntmps6
    go_wp2_with (first
      | (go_at_call 12; refine (HWK.out _).mono ?_; rintro e w4 ⟨rfl, hb4⟩; have HB4 := Lib.hid (HB3.out.trans (hb4.mono HB3.out.size)); clear hb4)
      | (go_at_call 20; refine (HSW.out _ HB2.out).mono ?_; rintro e w3 ⟨T, rfl, HT, hb3⟩; have HB3 := Lib.hid (HB2.out.trans (hb3.out.mono HB2.out.size)); clear hb3)
      | (go_at_call 19; refine (HFT.out _ (Below.refl _ _)).mono ?_; rintro e w2 ⟨rfl, hb2⟩; have HB2 := Lib.hid hb2; clear hb2))
    go_ret
    exact ⟨rfl, HB4.out⟩
  have hsrc := fun W => isrc_sp db l W hq (by omega) hfit
  obtain ⟨TX, hTX⟩ : ∃ TX : ByteArray, (⟨(pl.swText db l).toArray⟩ : ByteArray) = TX := ⟨_, rfl⟩
  rw [hTX, hDB] at hsrc
  obtain ⟨hq1, hq2, hq3, hq4⟩ := pl.swOk_parts db l hq
  have hc8 : ∀ s ∈ l, s.2.length ≤ 8 := fun s hs => (pl.srcOk_parts s (hq4 s hs)).2.1
  have HV := Lib.hid hv
  obtain ⟨a, cap, rfl, hvv⟩ := hv
  have HSRC := Lib.hid hsrc
  have HTX := Lib.hid hTX
  have HC8 := Lib.hid hc8
  have HFIT := Lib.hid hfit
  have hl20 : l.length ≤ 20 := hq3
  have HVV := Lib.hid hvv
  rw [hDB]
  clear hft hDs hDB hbig hfa hvv hsw hq hfit hsrc hTX hq1 hq2 hq3 hq4 hc8
  go_enter Try.func6, Try.ntmps6
  go_wp2_with (first
    | (go_at_call 21; refine (HSRC.out _).mono ?_; rintro e w4 ⟨vg, rfl, HSO, hb4⟩; obtain ⟨ag, cg, hag⟩ := HSO.out.form; rw [List.length_map] at hag; subst hag; have HB4 := Lib.hid (HB3.out.trans (hb4.out.mono HB3.out.size)); clear hb4)
    | (go_at_call 20; refine (HSW.out _ HB2.out).mono ?_; rintro e w3 ⟨T, rfl, HT, hb3⟩; have hTe := HT.out trivial; rw [HTX.out] at hTe; subst hTe; have HB3 := Lib.hid (HB2.out.trans (hb3.out.mono HB2.out.size)); clear hb3)
    | (go_at_call 19; refine (HFT.out _ (Below.refl _ _)).mono ?_; rintro e w2 ⟨rfl, hb2⟩; have HB2 := Lib.hid hb2; clear hb2))
  go_loopw [48] (fun i wr => ∃ k : Nat, k ≤ l.length ∧ i = .int .i64 k ∧ Hid (Below w4.heap.size w4 wr)) (fun i _ => l.length - (intOf i).toNat)
  case atStart => exact ⟨0, Nat.zero_le _, rfl, Lib.hid (Below.refl _ _)⟩
  case round =>
    obtain ⟨k, hk, rfl, HBr⟩ := hrel
    by_cases hlt : k < l.length
    · obtain ⟨s0, hs0⟩ : ∃ s0, l[k]? = some s0 := ⟨_, List.getElem?_eq_getElem hlt⟩
      have hbw : Below w.heap.size w wr := HB4.out.trans (HBr.out.mono HB4.out.size)
      obtain ⟨nm, cs⟩ := s0
      obtain ⟨gg, cap2, x, hag, _, hgg, c0, c1, c2, hcr⟩ := (HSO.out.below HBr.out).at k (pl.sB (nm, cs)) (by rw [List.getElem?_map, hs0]; rfl)
      injection hag with hag e2 e3
      subst hag
      clear e2 e3
      obtain ⟨g, o, vn, ha, hg, hcell, hcell2, hrd⟩ := HVV.out k (nm, cs) hs0
      subst ha
      have hrd' : RdK w vn cs := hrd
      have hcr' : Crs wr w3.heap.size 53 x (cs.map pl.lowC) := hcr
      obtain ⟨xa, xc, hxa⟩ := Row.shape hcr'
      rw [List.length_map] at hxa
      subst hxa
      obtain ⟨an, cn, hvn, hnc⟩ := hrd'
      subst hvn
      obtain ⟨NB, hNB⟩ : ∃ NB : ByteArray, (⟨nm.toArray⟩ : ByteArray) = NB := ⟨_, rfl⟩
      obtain ⟨bb, hbb⟩ : ∃ bb : Bool, (pl.sB (nm, cs)).2 = bb := ⟨_, rfl⟩
      have c0' : wr.cell? ⟨gg, k * 3, none⟩ = some (.string NB) := by rw [c0, ← hNB]; rfl
      have c2' : wr.cell? ⟨gg, k * 3 + 2, none⟩ = some (.bool bb) := by rw [c2, hbb]
      have d0 : ∀ W, Below w.heap.size w W → W.cell? ⟨g, o + k * 2, none⟩ = some (.string NB) := fun W hW => by rw [below_cell hW _ _ hg, hcell, ← hNB]; rfl
      have d1 : ∀ W, Below w.heap.size w W → W.cell? ⟨g, o + k * 2 + 1, none⟩ = some (.slice an cs.length cn) := fun W hW => by rw [below_cell hW _ _ hg]; exact hcell2
      have hc8 : cs.length ≤ 8 := HC8.out _ (List.mem_of_getElem? hs0)
      have hcf : ∀ c ∈ cs, FitC c := (HFIT.out _ (List.mem_of_getElem? hs0)).2.2
      obtain ⟨V, hV⟩ : ∃ V, wr.alloc (.cells #[.string NB, .slice xa cs.length xc, .bool bb] 48) = V := ⟨_, rfl⟩
      have hbV : Below wr.heap.size wr V := by rw [← hV]; exact (Below.refl _ _).alloc (Nat.le_refl _) _
      have hBs : Blk V wr.heap.size #[.string NB, .slice xa cs.length xc, .bool bb] 48 := by rw [← hV]; exact Blk.new wr _ _
      have hbwV := hbw.trans (hbV.mono hbw.size)
      have HV2 := Lib.hid hV
      have HBV := Lib.hid hbV
      have HBS := Lib.hid hBs
      have HBWV := Lib.hid hbwV
      have HCR := Lib.hid hcr'
      have HNC := Lib.hid hnc
      have HCF := Lib.hid hcf
      have D0 := Lib.hid d0
      have D1 := Lib.hid d1
      clear hbw hcr hcr' hrd hnc hNB hbb c0 c2 d0 d1 hcf hV hbV hBs hbwV hs0 hcell hcell2
      go_wp2_with fail
      refine wp_name (fun V2 hV2 => ?_)
      have hVV : V2 = V := by rw [hV2]; exact HV2.out
      clear hV2
      subst hVV
      clear c0' c1 c2'
      have s0 : V2.cell? ⟨wr.heap.size, 0, none⟩ = some (.string NB) := HBS.out.cell 0
      have s1 : V2.cell? ⟨wr.heap.size, 1, none⟩ = some (.slice xa cs.length xc) := HBS.out.cell 1
      have t0 := D0.out V2 HBWV.out
      have t1 := D1.out V2 HBWV.out
      have hk0 : (0 : Int) ≤ (k : Int) := by omega
      have hkl : (k : Int) < (l.length : Int) := by omega
      go_quiet (fail)
      go_wp2_with fail
      clear s0 s1 t0 t1
      obtain ⟨wo, rfl⟩ : ∃ wo : World, wo = wr := ⟨_, rfl⟩
      have HBd : Hid (Below V2.heap.size V2 (V2.drewN nq)) := Lib.hid (below_drewN (Below.refl _ _) _)
      go_loopw [76] (fun i wq => ∃ m : Nat, m ≤ cs.length ∧ i = .int .i64 m ∧ Hid (Below V2.heap.size V2 wq)) (fun i _ => cs.length - (intOf i).toNat)
      case atStart => exact ⟨0, Nat.zero_le _, rfl, HBd⟩
      case round =>
        obtain ⟨m, hm, rfl, HBq⟩ := hrel
        have hbo : Below wo.heap.size wo wr := HBV.out.trans (HBq.out.mono HBV.out.size)
        have hbw : Below w.heap.size w wr := HBWV.out.trans (HBq.out.mono HBWV.out.size)
        by_cases hlm : m < cs.length
        · obtain ⟨c, hc⟩ : ∃ c, cs[m]? = some c := ⟨_, List.getElem?_eq_getElem hlm⟩
          obtain ⟨gx, cx, hxe, _, hgx, e0, e1, e2⟩ := (HCR.out.below hbo).at m (pl.lowC c) (by rw [List.getElem?_map, hc]; rfl)
          injection hxe with hxe e3 e4
          subst hxe
          clear e3 e4
          obtain ⟨gn, on, han, hgn, f0, f1, f2⟩ := HNC.out m c hc
          subst han
          obtain ⟨hf1, hf2⟩ := HCF.out c (List.mem_of_getElem? hc)
          obtain ⟨ng, st, ac⟩ := c
          have hf1' : st.length ≤ 2147483647 := hf1
          have hf2' : ac.length ≤ 2147483647 := hf2
          obtain ⟨SB, hSB⟩ : ∃ SB : ByteArray, (⟨st.toArray⟩ : ByteArray) = SB := ⟨_, rfl⟩
          obtain ⟨AB, hAB⟩ : ∃ AB : ByteArray, (⟨ac.toArray⟩ : ByteArray) = AB := ⟨_, rfl⟩
          obtain ⟨LS, hLS⟩ : ∃ LS : ByteArray, (⟨(pl.low st).toArray⟩ : ByteArray) = LS := ⟨_, rfl⟩
          obtain ⟨LA, hLA⟩ : ∃ LA : ByteArray, (⟨(pl.low ac).toArray⟩ : ByteArray) = LA := ⟨_, rfl⟩
          have hl1 := fun W => low_is st hf1' W
          have hl2 := fun W => low_is ac hf2' W
          rw [hSB, hLS] at hl1
          rw [hAB, hLA] at hl2
          have e0' : wr.cell? ⟨gx, m * 3, none⟩ = some (.bool ng) := e0
          have e1' : wr.cell? ⟨gx, m * 3 + 1, none⟩ = some (.string LS) := by rw [e1, ← hLS]; rfl
          have e2' : wr.cell? ⟨gx, m * 3 + 2, none⟩ = some (.string LA) := by rw [e2, ← hLA]; rfl
          obtain ⟨W2, hW2⟩ : ∃ W2, wr.alloc (.cells #[.bool ng, .string LS, .string LA] 53) = W2 := ⟨_, rfl⟩
          have hbW2 : Below wr.heap.size wr W2 := by rw [← hW2]; exact (Below.refl _ _).alloc (Nat.le_refl _) _
          have hbk1 : Blk W2 wr.heap.size #[.bool ng, .string LS, .string LA] 53 := by rw [← hW2]; exact Blk.new wr _ _
          have hz2 : W2.heap.size = wr.heap.size + 1 := by rw [← hW2]; simp
          have hbw2 := hbw.trans (hbW2.mono hbw.size)
          have g1 := D1.out W2 hbw2
          have g3 : W2.cell? ⟨gn, on + m * 3, none⟩ = some (.bool ng) := by rw [below_cell hbw2 _ _ hgn]; exact f0
          have g4 : W2.cell? ⟨gn, on + m * 3 + 1, none⟩ = some (.string SB) := by rw [below_cell hbw2 _ _ hgn, f1, ← hSB]; rfl
          have g5 : W2.cell? ⟨gn, on + m * 3 + 2, none⟩ = some (.string AB) := by rw [below_cell hbw2 _ _ hgn, f2, ← hAB]; rfl
          have HL1 := Lib.hid hl1
          have HL2 := Lib.hid hl2
          have HW2 := Lib.hid hW2
          have HBK1 := Lib.hid hbk1
          have HBW2 := Lib.hid hbW2
          have HZ2 := Lib.hid hz2
          clear hl1 hl2 hbk1 hbW2 hz2 hbw2 hSB hAB hLS hLA e0 e1 e2 f0 f1 f2 hf1 hf2 hf1' hf2' hbo hbw hc hW2
          go_upto_region 17 with fail
          refine wp_name (fun W3 hW3 => ?_)
          have hWW : W3 = W2 := by rw [hW3]; exact HW2.out
          clear hW3
          subst hWW
          clear e0' e1' e2'
          go_upto_region 18 with fail
          clear g1 g3 g4 g5
          refine wp_name (fun U hU => ?_)
          have hbU : Below W3.heap.size W3 U := by rw [hU]; exact (Below.refl _ _).alloc (Nat.le_refl _) _
          have hk1 := HBK1.out.below hbU HBK1.out.lt
          have hk2 : Blk U W3.heap.size #[.bool ng, .string SB, .string AB] 54 := by rw [hU]; exact Blk.new W3 _ _
          clear hU
          obtain ⟨ga, hga⟩ : ∃ ga, wr.heap.size = ga := ⟨_, rfl⟩
          obtain ⟨gb, hgb⟩ : ∃ gb, W3.heap.size = gb := ⟨_, rfl⟩
          rw [hga] at hk1 ⊢
          rw [hgb] at hk2 ⊢
          obtain ⟨s0, s1, s2, s3, s4, s5⟩ := held6 (W := U.drew) (hk1.drewN 1) (hk2.drewN 1)
          have HK1 := Lib.hid hk1
          have HK2 := Lib.hid hk2
          have HBU := Lib.hid ((HBq.out.trans (HBW2.out.mono HBq.out.size)).trans (hbU.mono (HBq.out.trans (HBW2.out.mono HBq.out.size)).size))
          clear hk1 hk2 hbU hga hgb
          go_region_held3 (fun w' => w'.cell? ⟨ga, 0, none⟩ = some (.bool ng) ∧ w'.cell? ⟨ga, 1, none⟩ = some (.string LS) ∧ w'.cell? ⟨ga, 2, none⟩ = some (.string LA) ∧ w'.cell? ⟨gb, 0, none⟩ = some (.bool ng) ∧ w'.cell? ⟨gb, 1, none⟩ = some (.string SB) ∧ w'.cell? ⟨gb, 2, none⟩ = some (.string AB))
            (first | exact ⟨v0, v1, v2, v3, v4, v5⟩ | exact ⟨u0, u1, u2, u3, u4, u5⟩ | exact ⟨s0, s1, s2, s3, s4, s5⟩)
            (first
              | (go_at_call 11; have hx0 := HK5; (with_reducible refine (HL2.out _).mono ?_); rintro e w6 ⟨rfl, hb6⟩; have HB6 := Lib.hid (HB5.out.trans (hb6.out.mono HB5.out.size)); have hb7 := HBX5.out.trans (hb6.out.mono HBX5.out.size); obtain ⟨v0, v1, v2, v3, v4, v5⟩ := held6 (HK1.out.below hb7 HK1.out.lt) (HK2.out.below hb7 HK2.out.lt); clear hb6 hb7)
              | (go_at_call 11; (with_reducible refine (HL1.out _).mono ?_); rintro e w5 ⟨rfl, hb5⟩; have hbx : Below U.heap.size U w5 := (Below.refl U.heap.size U).drew.trans hb5.out; have HBX5 := Lib.hid hbx; have HB5 := Lib.hid (HBU.out.trans (hbx.mono HBU.out.size)); have HK5 := Lib.hid trivial; obtain ⟨u0, u1, u2, u3, u4, u5⟩ := held6 (HK1.out.below hbx HK1.out.lt) (HK2.out.below hbx HK2.out.lt); clear hb5 hbx))
          go_wp2_with fail
          go_roundw
          case rel => exact ⟨m + 1, by omega, by go_num, HB6⟩
          case measure => simp [intOf]; omega
        · go_wp2_with fail
          go_roundw
          case rel => exact ⟨k + 1, by omega, by go_num, Lib.hid (HBr.out.trans ((HBV.out.trans (HBq.out.mono HBV.out.size)).mono HBr.out.size))⟩
          case measure => simp [intOf]; omega
    · go_wp2_with (go_at_call 12; refine (HWK.out _).mono ?_; rintro e w5 ⟨rfl, hb5⟩; have HB5 := Lib.hid ((HB4.out.trans (HBr.out.mono HB4.out.size)).trans (hb5.mono (HB4.out.trans (HBr.out.mono HB4.out.size)).size)); clear hb5)
      go_ret
      exact ⟨rfl, HB5.out⟩

end Go.Proofs.Ytabeklpllphiaaa
