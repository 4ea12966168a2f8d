/-
  FnStandard: the law.
-/
import Derived.Test.YtabeklpllphiaaaNsX
import Derived.Test.YtabeklpllphiaaaNsI
import Derived.Test.YtabeklpllphiaaaNsT
import Derived.Test.YtabeklpllphiaaaNsL
import Derived.Deep.CutRange
namespace Go.Proofs.Ytabeklpllphiaaa
open Go.RowKit

theorem pl.ssa_no (c : Crit) : pl.ssa (pl.lowC c) false = pl.stdB c := by
  obtain ⟨ng, st, ac⟩ := c
  unfold pl.ssa pl.stdB pl.lowC
  cases ng
  · cases hd : pl.dflt (pl.low st) <;> simp [hd]
  · rfl
theorem pl.ssa_yes (c : Crit) (h : pl.low c.2.2 ≠ pl.tRet ∨ pl.stdB c = true) : pl.ssa (pl.lowC c) true = pl.stdB c := by
  obtain ⟨ng, st, ac⟩ := c
  have h' : pl.low ac ≠ pl.tRet ∨ pl.stdB (ng, st, ac) = true := h
  unfold pl.ssa pl.lowC
  unfold pl.stdB at h' ⊢
  cases ng
  · simp only [Bool.false_eq_true, if_false] at h' ⊢
    cases hd : pl.dflt (pl.low st) with
    | none => rfl
    | some d =>
      simp only [hd] at h' ⊢
      rcases h' with h' | h'
      · simp [h']
      · rw [h']; simp
  · rfl
theorem pl.std_law (cs : List Crit) (h : ∀ c, cs.getLast? = some c → pl.low c.2.2 ≠ pl.tRet ∨ pl.stdB c = true) : pl.stdC (cs.map pl.lowC) = cs.all pl.stdB := by
  have hk : ∀ k, k ≤ cs.length → pl.stdTo (cs.map pl.lowC) k = (cs.take k).all pl.stdB := by
    intro k
    induction k with
    | zero => intro _; rfl
    | succ k ih =>
      intro hk
      obtain ⟨c, hc⟩ : ∃ c, cs[k]? = some c := ⟨_, List.getElem?_eq_getElem (by omega)⟩
      rw [pl.stdTo_succ (cs.map pl.lowC) k (pl.lowC c) (by rw [List.getElem?_map, hc]; rfl), ih (by omega), pl.take_at cs k c hc, List.all_append, List.length_map]
      congr 1
      by_cases hl : k + 1 = cs.length
      · rw [decide_eq_true (by omega)]
        have hlast : cs.getLast? = some c := by rw [List.getLast?_eq_getElem?, ← hl]; exact hc
        rw [pl.ssa_yes c (h c hlast)]
        simp
      · rw [decide_eq_false (by omega), pl.ssa_no]
        simp
  unfold pl.stdC
  rw [List.length_map, hk cs.length (Nat.le_refl _), List.take_length]

theorem RdN.one (W : World) (nm : List UInt8) (x : Value) (cs : List Crit) (h : RdK W x cs) : RdN (W.alloc (.cells #[pl.strV nm, x] 51)) (.slice (some ⟨W.heap.size, 0, none⟩) 1 1) [(nm, cs)] := by
  have hb := Blk.new W #[pl.strV nm, x] 51
  refine ⟨_, 1, rfl, fun k s hk => ?_⟩
  have h0 : k = 0 := by have := (List.getElem?_eq_some_iff.1 hk).1; simp at this; omega
  subst h0
  simp at hk
  subst hk
  exact ⟨_, 0, x, rfl, hb.lt, hb.cell 0, hb.cell 1, h.below ((Below.refl _ _).alloc (Nat.le_refl _) _)⟩

set_option maxRecDepth 100000 in
set_option maxHeartbeats 8000000 in
theorem std_law (v : Value) (db : List UInt8) (nm : List UInt8) (cs : List Crit) (w : World) (hv : RdK w v cs) :
    Calls Try.prog 7 #[.string ⟨db.toArray⟩, .agg #[pl.strV nm, v]] w fun e w' => e = .returned (.bool true) ∧ Below w.heap.size w w' := by
  have hwk := works_any
  obtain ⟨DB, hDB⟩ : ∃ DB : ByteArray, (⟨db.toArray⟩ : ByteArray) = DB := ⟨_, rfl⟩
  have hDs : DB.size = db.length := by rw [← hDB]; rfl
  obtain ⟨NB, hNB⟩ : ∃ NB : ByteArray, (⟨nm.toArray⟩ : ByteArray) = NB := ⟨_, rfl⟩
  have hNV : pl.strV nm = .string NB := by rw [← hNB]; rfl
  have hft := fun W (hW : Below w.heap.size w W) => fits7_sp v (nm, cs) W (hv.below hW)
  have hft' : ∀ W, Below w.heap.size w W → Calls Try.prog 22 #[.agg #[.string NB, v]] W fun e w' => e = .returned (.bool (pl.fits7 (nm, cs))) ∧ Below W.heap.size W w' := fun W hW => by rw [← hNV]; exact hft W hW
  rw [hDB, hNV]
  obtain ⟨W1, hW1⟩ : ∃ W1, w.alloc (.cells #[.string NB, v] 51) = W1 := ⟨_, rfl⟩
  have hB1 : Blk W1 w.heap.size #[.string NB, v] 51 := by rw [← hW1]; exact Blk.new w _ _
  have hb1 : Below w.heap.size w W1 := by rw [← hW1]; exact (Below.refl _ _).alloc (Nat.le_refl _) _
  have HV := Lib.hid hv
  obtain ⟨an, cn, rfl, hnc⟩ := hv
  have HWK := Lib.hid hwk
  have HB1 := Lib.hid hB1
  have HBL1 := Lib.hid hb1
  have HW1 := Lib.hid hW1
  have HNC := Lib.hid hnc
  have y0 : W1.cell? ⟨w.heap.size, 0, none⟩ = some (.string NB) := hB1.cell 0
  have y1 : W1.cell? ⟨w.heap.size, 1, none⟩ = some (.slice an cs.length cn) := hB1.cell 1
  clear hwk hft hB1 hb1 hnc
  by_cases hbig : 2147483647 < db.length
  · have hbI : 2147483647 < (DB.size : Int) := by omega
    clear hft' hDs hDB hbig hNB hNV
    go_enter Try.func7, Try.ntmps7
    go_wp2_with fail
    go_ret
    exact ⟨rfl, by first | exact HBL1.out | (rw [HW1.out]; exact HBL1.out)⟩
  have hbI : ¬ (2147483647 < (DB.size : Int)) := by omega
  obtain ⟨f, hfa⟩ : ∃ f, pl.fits7 (nm, cs) = f := ⟨_, rfl⟩
  rw [hfa] at hft'
  have HFT := Lib.hid hft'
  rcases f with _ | _
  · clear hft' hDs hDB hbig hNB hNV hfa
    go_enter Try.func7, Try.ntmps7
    go_wp2_with (go_at_call 22; (try rw [hW1]); refine (HFT.out _ HBL1.out).mono ?_; rintro e w2 ⟨rfl, hb2⟩; have HB2 := Lib.hid (HBL1.out.trans (hb2.mono HBL1.out.size)); clear hb2)
    go_ret
    exact ⟨rfl, HB2.out⟩
  have hfit := FitN.of (nm, cs) hfa
  have hfl : ∀ s ∈ [(nm, cs)], FitN s := fun s hs => by rw [List.mem_singleton] at hs; rw [hs]; exact hfit
  obtain ⟨q, hq⟩ : ∃ q, pl.swOk db [(nm, cs)] = q := ⟨_, rfl⟩
  have hsw := fun W (hW : Below w.heap.size w W) => switch_any (.slice (some ⟨W.heap.size, 0, none⟩) 1 1) db [(nm, cs)] q (W.alloc (.cells #[.string NB, .slice an cs.length cn] 51)) (by rw [← hNV]; exact RdN.one W nm _ cs (HV.out.below hW)) (by omega) hfl hq
  rw [hDB] at hsw
  have HSW := Lib.hid hsw
  have htwo : ∀ W o, Blk W w.heap.size #[.string NB, .slice an cs.length cn] 51 → (W.alloc o).cell? ⟨w.heap.size, 0, none⟩ = some (.string NB) ∧ (W.alloc o).cell? ⟨w.heap.size, 1, none⟩ = some (.slice an cs.length cn) := fun W o h => ⟨(h.alloc o).cell 0, (h.alloc o).cell 1⟩
  rcases q with _ | _
  · clear hft' hDs hDB hbig hNB hNV hfa hsw hfl hfit hq htwo
    go_enter Try.func7, Try.ntmps7
    go_wp2_with (first
      | (go_at_call 12; refine (HWK.out _).mono ?_; rintro e w4 ⟨rfl, hb4⟩; have HB4 := Lib.hid (HB3.out.trans (hb4.mono HB3.out.size)); clear hb4)
      | (go_at_call 20; refine (HSW.out _ HB2.out).mono ?_; rintro e w3 ⟨T, rfl, HT, hb3⟩; have HB3 := Lib.hid (((HB2.out.alloc HB2.out.size _)).trans (hb3.out.mono (HB2.out.alloc HB2.out.size _).size)); clear hb3)
      | (go_at_call 22; (try rw [hW1]); refine (HFT.out _ HBL1.out).mono ?_; rintro e w2 ⟨rfl, hb2⟩; have hk2 := HB1.out.below hb2 HB1.out.lt; have z20 := hk2.cell 0; have z21 := hk2.cell 1; simp at z20 z21; have HB2 := Lib.hid (HBL1.out.trans (hb2.mono HBL1.out.size)); clear hb2 hk2))
    go_ret
    exact ⟨rfl, HB4.out⟩
  have hsrc := fun W => isrc_sp db [(nm, cs)] W hq (by omega) hfl
  obtain ⟨TX, hTX⟩ : ∃ TX : ByteArray, (⟨(pl.swText db [(nm, cs)]).toArray⟩ : ByteArray) = TX := ⟨_, rfl⟩
  rw [hTX, hDB] at hsrc
  have hc8 : cs.length ≤ 8 := (pl.srcOk_parts (nm, cs) ((pl.swOk_parts db [(nm, cs)] hq).2.2.2 _ (by simp))).2.1
  have hcf : ∀ c ∈ cs, FitC c := hfit.2.2
  have HSRC := Lib.hid hsrc
  have HTX := Lib.hid hTX
  have HCF := Lib.hid hcf
  clear hft' hDs hDB hbig hNB hNV hfa hsw hfl hfit hq htwo hsrc hTX hcf
  go_enter Try.func7, Try.ntmps7
  go_upto_region 4 with (first
    | (go_at_call 20; refine (HSW.out _ HB2.out).mono ?_; rintro e w3 ⟨T, rfl, HT, hb3⟩; have hTe := HT.out trivial; rw [HTX.out] at hTe; subst hTe; have hal2 := (Below.refl w2.heap.size w2).alloc (Nat.le_refl _) (Obj.cells #[.string NB, .slice an cs.length cn] 51); have hk3 := (HBK2.out.below hal2 HBK2.out.lt).below hb3.out (Nat.lt_of_lt_of_le HBK2.out.lt hal2.size); have HBK3 := Lib.hid hk3; have HB3 := Lib.hid (((HB2.out.alloc HB2.out.size _)).trans (hb3.out.mono (HB2.out.alloc HB2.out.size _).size)); clear hb3 hk3 hal2)
    | (go_at_call 22; (try rw [hW1]); refine (HFT.out _ HBL1.out).mono ?_; rintro e w2 ⟨rfl, hb2⟩; have hk2 := HB1.out.below hb2 HB1.out.lt; have z20 := hk2.cell 0; have z21 := hk2.cell 1; simp at z20 z21; have HBK2 := Lib.hid hk2; have HB2 := Lib.hid (HBL1.out.trans (hb2.mono HBL1.out.size)); clear hb2 hk2))
  have hcell : ∀ W, Below w.heap.size w W → ∀ (m : Nat) (c : Crit), cs[m]? = some c → ∃ g o, an = some ⟨g, o, none⟩ ∧ W.cell? ⟨g, o + m * 3, none⟩ = some (.bool c.1) ∧ W.cell? ⟨g, o + m * 3 + 1, none⟩ = some (pl.strV c.2.1) ∧ W.cell? ⟨g, o + m * 3 + 2, none⟩ = some (pl.strV c.2.2) := fun W hW m c hc => by
    obtain ⟨g, o, e, hg, h0, h1, h2⟩ := HNC.out m c hc
    exact ⟨g, o, e, by rw [below_cell hW _ _ hg]; exact h0, by rw [below_cell hW _ _ hg]; exact h1, by rw [below_cell hW _ _ hg]; exact h2⟩
  have HCELL := Lib.hid hcell
  clear hcell z20 z21 y0 y1 hW1
  go_cut [59] from 27 to 59 (fun c59 wx => ∃ q : Bool, c59 = .bool q ∧ Hid (q = false → ∀ c, cs.getLast? = some c → pl.low c.2.2 ≠ pl.tRet ∨ pl.stdB c = true) ∧ Hid (Blk wx w.heap.size #[.string NB, .slice an cs.length cn] 51) ∧ Hid (Below w.heap.size w wx))
  case first =>
    have b1 : w3.cell? ⟨w.heap.size, 1, none⟩ = some (.slice an cs.length cn) := HBK3.out.cell 1
    by_cases hn : 0 < cs.length
    · obtain ⟨c, hc⟩ : ∃ c, cs[cs.length - 1]? = some c := ⟨_, List.getElem?_eq_getElem (by omega)⟩
      have hlast : cs.getLast? = some c := by rw [List.getLast?_eq_getElem?]; exact hc
      have hcfc := HCF.out c (List.mem_of_getElem? hc)
      obtain ⟨gn, on, han, e0, e1, e2⟩ := HCELL.out w3 HB3.out (cs.length - 1) c hc
      subst han
      obtain ⟨ng, st, ac⟩ := c
      obtain ⟨hf1, hf2⟩ := hcfc
      have hf2' : ac.length ≤ 2147483647 := hf2
      obtain ⟨AB, hAB⟩ : ∃ AB : ByteArray, (⟨ac.toArray⟩ : ByteArray) = AB := ⟨_, rfl⟩
      obtain ⟨SB, hSB⟩ : ∃ SB : ByteArray, (⟨st.toArray⟩ : ByteArray) = SB := ⟨_, rfl⟩
      obtain ⟨LA, hLA⟩ : ∃ LA : ByteArray, (⟨(pl.low ac).toArray⟩ : ByteArray) = LA := ⟨_, rfl⟩
      have hl2 := fun W => low_is ac hf2' W
      rw [hAB, hLA] at hl2
      have hst := fun W => std1_sp (ng, st, ac) W ⟨hf1, hf2⟩
      obtain ⟨sb, hsb⟩ : ∃ sb, pl.stdB (ng, st, ac) = sb := ⟨_, rfl⟩
      have hst' : ∀ W, Calls Try.prog 23 #[.agg #[.bool ng, .string SB, .string AB]] W fun e w' => e = .returned (.bool sb) ∧ Hid (Below W.heap.size W w') := fun W => by rw [← hSB, ← hAB, ← hsb]; exact hst W
      have hbr := beq_tx (pl.low ac) pl.tRet
      rw [hLA] at hbr
      have hbr' : (LA.toList == [114, 101, 116, 117, 114, 110]) = decide (pl.low ac = pl.tRet) := hbr
      obtain ⟨r1, hr1⟩ : ∃ r : Bool, decide (pl.low ac = pl.tRet) = r := ⟨_, rfl⟩
      rw [hr1] at hbr'
      have e2' : w3.cell? ⟨gn, on + (cs.length - 1) * 3 + 2, none⟩ = some (.string AB) := by rw [e2, ← hAB]; rfl
      have hcs4 : ∀ W, Below w.heap.size w W → W.cell? ⟨gn, on + (cs.length - 1) * 3, none⟩ = some (.bool ng) ∧ W.cell? ⟨gn, on + (cs.length - 1) * 3 + 1, none⟩ = some (.string SB) ∧ W.cell? ⟨gn, on + (cs.length - 1) * 3 + 2, none⟩ = some (.string AB) := fun W hW => by
        obtain ⟨g', o', he, k0, k1, k2⟩ := HCELL.out W hW (cs.length - 1) (ng, st, ac) hc
        injection he with he
        injection he with he1 he2 _
        subst he1
        subst he2
        exact ⟨k0, by rw [k1, ← hSB]; rfl, by rw [k2, ← hAB]; rfl⟩
      have hfin : (r1 = false ∨ sb = true) → ∀ c, cs.getLast? = some c → pl.low c.2.2 ≠ pl.tRet ∨ pl.stdB c = true := fun h c hcl => by
        rw [hlast] at hcl
        injection hcl with hcl
        subst hcl
        rcases h with h | h
        · left; rw [h] at hr1; exact of_decide_eq_false hr1
        · right; rw [hsb]; exact h
      have hni : (0 : Int) < (cs.length : Int) := by omega
      have hn1 : (0 : Int) ≤ (cs.length : Int) - 1 := by omega
      have hn2 : (cs.length : Int) - 1 < (cs.length : Int) := by omega
      have HL2 := Lib.hid hl2
      have HST := Lib.hid hst'
      have HFIN := Lib.hid hfin
      have HCS4 := Lib.hid hcs4
      clear hl2 hst hst' hfin hcs4 hbr hr1 hsb hAB hSB hLA hf1 hf2 hf2' hc hlast e0 e1 e2
      rcases r1 with _ | _
      · go_wp2_with (go_at_call 11; refine (HL2.out _).mono ?_; rintro e w4 ⟨rfl, hb4⟩; have HBK4 := Lib.hid (HBK3.out.below hb4.out HBK3.out.lt); have HB4 := Lib.hid (HB3.out.trans (hb4.out.mono HB3.out.size)); clear hb4)
        go_meet
        exact ⟨false, rfl, Lib.hid (fun _ => HFIN.out (by simp)), HBK4, HB4⟩
      · rcases sb with _ | _
        all_goals
          go_wp2_with (first
            | (go_at_call 23; refine (HST.out _).mono ?_; rintro e w5 ⟨rfl, hb5⟩; have HBK5 := Lib.hid (HBK4.out.below hb5.out HBK4.out.lt); have HB5 := Lib.hid (HB4.out.trans (hb5.out.mono HB4.out.size)); clear hb5)
            | (go_at_call 11; refine (HL2.out _).mono ?_; rintro e w4 ⟨rfl, hb4⟩; have hk4 := HBK3.out.below hb4.out HBK3.out.lt; have k41 : w4.cell? ⟨w.heap.size, 1, none⟩ = some (.slice (some ⟨gn, on, none⟩) cs.length cn) := hk4.cell 1; have HBK4 := Lib.hid hk4; have HB4 := Lib.hid (HB3.out.trans (hb4.out.mono HB3.out.size)); obtain ⟨k42, k43, k44⟩ := HCS4.out w4 HB4.out; clear hb4 hk4))
          go_meet
        · exact ⟨true, rfl, Lib.hid (fun h => by cases h), HBK5, HB5⟩
        · exact ⟨false, rfl, Lib.hid (fun _ => HFIN.out (by simp)), HBK5, HB5⟩
    · have hni : ¬ ((0 : Int) < (cs.length : Int)) := by omega
      have he : cs = [] := List.eq_nil_of_length_eq_zero (by omega)
      have HE := Lib.hid he
      clear he
      go_wp2_with fail
      go_meet
      exact ⟨false, rfl, Lib.hid (fun _ c hc => by rw [HE.out] at hc; cases hc), HBK3, HB3⟩
  case rest =>
  obtain ⟨q, rfl, HQ, HBKq, HBq⟩ := hcut
  rcases q with _ | _
  rotate_left
  · go_wp2_with (go_at_call 12; refine (HWK.out _).mono ?_; rintro e w6 ⟨rfl, hb6⟩; have HB6 := Lib.hid (HBq.out.trans (hb6.mono HBq.out.size)); clear hb6)
    go_ret
    exact ⟨rfl, HB6.out⟩
  have HSTDL := Lib.hid (pl.std_law cs (HQ.out rfl))
  have hs1 : wc.cell? ⟨w.heap.size, 1, none⟩ = some (.slice an cs.length cn) := HBKq.out.cell 1
  clear HQ
  go_wp2_with fail
  clear hs1
  go_loopw [7, 64] (fun wv i wr => ∃ k : Nat, k ≤ cs.length ∧ i = .int .i64 k ∧ wv = .bool ((cs.take k).all pl.stdB) ∧ Hid (Below w.heap.size w wr)) (fun _ i _ => cs.length - (intOf i).toNat)
  case atStart => exact ⟨0, Nat.zero_le _, rfl, rfl, HBq⟩
  case round =>
    obtain ⟨k, hk, rfl, rfl, HBr⟩ := hrel
    by_cases hlt : k < cs.length
    · obtain ⟨c, hc⟩ : ∃ c, cs[k]? = some c := ⟨_, List.getElem?_eq_getElem hlt⟩
      obtain ⟨gn, on, han, e0, e1, e2⟩ := HCELL.out wr HBr.out k c hc
      subst han
      have hcfc := HCF.out c (List.mem_of_getElem? hc)
      have htk : (cs.take (k + 1)).all pl.stdB = ((cs.take k).all pl.stdB && pl.stdB c) := by rw [pl.take_at cs k c hc, List.all_append]; simp
      obtain ⟨ng, st, ac⟩ := c
      obtain ⟨SB, hSB⟩ : ∃ SB : ByteArray, (⟨st.toArray⟩ : ByteArray) = SB := ⟨_, rfl⟩
      obtain ⟨AB, hAB⟩ : ∃ AB : ByteArray, (⟨ac.toArray⟩ : ByteArray) = AB := ⟨_, rfl⟩
      have hst := fun W => std1_sp (ng, st, ac) W hcfc
      obtain ⟨sb, hsb⟩ : ∃ sb, pl.stdB (ng, st, ac) = sb := ⟨_, rfl⟩
      have hst' : ∀ W, Calls Try.prog 23 #[.agg #[.bool ng, .string SB, .string AB]] W fun e w' => e = .returned (.bool sb) ∧ Hid (Below W.heap.size W w') := fun W => by rw [← hSB, ← hAB, ← hsb]; exact hst W
      rw [hsb] at htk
      have e0' : wr.cell? ⟨gn, on + k * 3, none⟩ = some (.bool ng) := e0
      have e1' : wr.cell? ⟨gn, on + k * 3 + 1, none⟩ = some (.string SB) := by rw [e1, ← hSB]; rfl
      have e2' : wr.cell? ⟨gn, on + k * 3 + 2, none⟩ = some (.string AB) := by rw [e2, ← hAB]; rfl
      obtain ⟨b0, hb0⟩ : ∃ b0, (cs.take k).all pl.stdB = b0 := ⟨_, rfl⟩
      rw [hb0] at htk ⊢
      have HST := Lib.hid hst'
      have HTK := Lib.hid htk
      have HBA := Lib.hid (HBr.out.alloc HBr.out.size (Obj.cells #[.bool ng, .string SB, .string AB] 54))
      clear hst hst' htk hb0 hsb hSB hAB hcfc hc e0 e1 e2
      rcases b0 with _ | _
      · go_wp2_with fail
        go_roundw
        case rel => exact ⟨k + 1, by omega, by go_num, by rw [HTK.out]; rfl, HBA⟩
        case measure => simp [intOf]; omega
      · go_wp2_with (go_at_call 23; refine (HST.out _).mono ?_; rintro e w5 ⟨rfl, hb5⟩; have HB5 := Lib.hid (HBA.out.trans (hb5.out.mono HBA.out.size)); clear hb5)
        go_roundw
        case rel => exact ⟨k + 1, by omega, by go_num, by rw [HTK.out]; simp, HB5⟩
        case measure => simp [intOf]; omega
    · have hke : cs.take k = cs := List.take_of_length_le (by omega)
      rw [hke]
      obtain ⟨B, hB⟩ : ∃ B, cs.all pl.stdB = B := ⟨_, rfl⟩
      have hsb : (pl.sB (nm, cs)).2 = B := by rw [← hB, ← HSTDL.out]; rfl
      rw [hB]
      have HSB := Lib.hid hsb
      clear hke hsb hB
      go_wp2_with (go_at_call 21; refine (HSRC.out _).mono ?_; rintro e w6 ⟨vg, rfl, HSO, hb6⟩; obtain ⟨gg, cap2, x, hvg, _, hgg, c0, c1, c2, hcr⟩ := HSO.out.at 0 (pl.sB (nm, cs)) rfl; have hvg2 : vg = .slice (some ⟨gg, 0, none⟩) 1 cap2 := hvg; subst hvg2; rw [HSB.out] at c2; have HB6 := Lib.hid (HBr.out.trans (hb6.out.mono HBr.out.size)); clear hb6 hvg hcr c0 c1)
      go_ret
      exact ⟨by simp, HB6.out⟩

end Go.Proofs.Ytabeklpllphiaaa
