/-
  WALK: impl.Sources.
-/
import Derived.Test.YtabeklpllphiaaaNsS
namespace Go.Proofs.Ytabeklpllphiaaa
open Go.RowKit

set_option maxRecDepth 100000 in
set_option maxHeartbeats 8000000 in
theorem isrc_sp (db : List UInt8) (l : List Src) (w : World) (hok : pl.swOk db l = true) (hd : db.length ≤ 2147483647) (hf : ∀ s ∈ l, FitN s) :
    Calls Try.prog 21 #[.string ⟨(pl.swText db l).toArray⟩, .string ⟨db.toArray⟩] w (NsRes db l 48 53 w) := by
  have hnc := nsrc_sp db l w hok hd hf
  have h20 := (pl.swOk_parts db l hok).2.2.1
  have hso := (pl.swOk_parts db l hok).2.2.2
  have hc8 : ∀ s ∈ l, s.2.length ≤ 8 := fun s hs => (pl.srcOk_parts s (hso s hs)).2.1
  have HNC := Lib.hid hnc
  have HC8 := Lib.hid hc8
  have H20 := Lib.hid h20
  clear hnc hso hc8 hok hf hd h20
  go_enter Try.func21, Try.ntmps21
  go_wp2_with (go_at_call 33; refine HNC.out.mono ?_; rintro e w2 ⟨v, rfl, HN2, HB2⟩; obtain ⟨av, cv, hav⟩ := HN2.out.form; rw [List.length_map] at hav; subst hav)
  have hlc : l.length ≤ 20 := H20.out
  go_loopw [8, 22] (fun lv i wr => ∃ k : Nat, k ≤ l.length ∧ i = .int .i64 k ∧ Hid (SoR wr w.heap.size 48 53 lv ((l.take k).map pl.sB)) ∧ Hid (SoR wr w.heap.size 83 84 (.slice av l.length cv) (l.map pl.sB)) ∧ Hid (Below w.heap.size w wr)) (fun _ i _ => l.length - (intOf i).toNat)
  case atStart => exact ⟨0, Nat.zero_le _, rfl, Lib.hid (SoR.nil _ _ _ _), HN2, HB2⟩
  case round =>
    obtain ⟨k, hk, rfl, HS, HN, HB⟩ := hrel
    by_cases hlt : k < l.length
    · obtain ⟨s0, hs0⟩ : ∃ s0, l[k]? = some s0 := ⟨_, List.getElem?_eq_getElem hlt⟩
      obtain ⟨g, cap, x, hav, _, hg, c0, c1, c2, hcr⟩ := HN.out.at k (pl.sB s0) (by rw [List.getElem?_map, hs0]; rfl)
      injection hav with hav e2 e3
      subst hav
      clear e2 e3
      have htk : (l.take (k + 1)).map pl.sB = (l.take k).map pl.sB ++ [pl.sB s0] := by rw [pl.take_at l k s0 hs0, List.map_append]; rfl
      have hc8 : (pl.sB s0).1.2.length ≤ 8 := by
        have := HC8.out s0 (List.mem_of_getElem? hs0)
        show (s0.2.map pl.lowC).length ≤ 8
        rw [List.length_map]; exact this
      obtain ⟨⟨⟨nm, cs⟩, b⟩, hsb⟩ : ∃ q : SrcB, pl.sB s0 = q := ⟨_, rfl⟩
      rw [hsb] at c0 c2 hcr hc8 htk
      have hcr' : Crs wr w.heap.size 84 x cs := hcr
      have hc8' : cs.length ≤ 8 := hc8
      obtain ⟨xa, xc, hxa⟩ := Row.shape hcr'
      subst hxa
      obtain ⟨NB, hNB⟩ : ∃ NB : ByteArray, (⟨nm.toArray⟩ : ByteArray) = NB := ⟨_, rfl⟩
      have hNV : pl.strV nm = .string NB := by rw [← hNB]; rfl
      have c0' : wr.cell? ⟨g, k * 3, none⟩ = some (.string NB) := by rw [← hNV]; exact c0
      have c2' : wr.cell? ⟨g, k * 3 + 2, none⟩ = some (.bool b) := c2
      obtain ⟨V, hV⟩ : ∃ V, wr.alloc (.cells #[.string NB, .slice xa cs.length xc, .bool b] 83) = V := ⟨_, rfl⟩
      have hbV : Below wr.heap.size wr V := by rw [← hV]; exact (Below.refl _ _).alloc (Nat.le_refl _) _
      have hBs : Blk V wr.heap.size #[.string NB, .slice xa cs.length xc, .bool b] 83 := by rw [← hV]; exact Blk.new wr _ _
      have hzV : V.heap.size = wr.heap.size + 1 := by rw [← hV]; simp
      obtain ⟨lva, lvc, hlv⟩ := HS.out.form
      rw [List.length_map, List.length_take, Nat.min_eq_left (Nat.le_of_lt hlt)] at hlv
      subst hlv
      have HTK := Lib.hid htk
      have HCR := Lib.hid hcr'
      have HV := Lib.hid hV
      have HBV := Lib.hid hbV
      have HBS := Lib.hid hBs
      have HZV := Lib.hid hzV
      have HC8' := Lib.hid hc8'
      have HNV := Lib.hid hNV
      clear htk hcr hcr' hV hbV hBs hzV hc8 hc8' hNB hNV hsb hs0 c0 c2
      go_upto_region 6 with fail
      refine wp_name (fun V2 hV2 => ?_)
      have hVV : V2 = V := by rw [hV2]; exact HV.out
      clear hV2
      subst hVV
      clear c0' c1 c2'
      obtain ⟨gs, hgs⟩ : ∃ gs, wr.heap.size = gs := ⟨_, rfl⟩
      rw [hgs]
      have hBs2 := HBS.out
      rw [hgs] at hBs2
      have s0d : V2.cell? ⟨gs, 0, none⟩ = some (.string NB) := hBs2.cell 0
      have s1d : V2.cell? ⟨gs, 1, none⟩ = some (.slice xa cs.length xc) := hBs2.cell 1
      have s2d : V2.cell? ⟨gs, 2, none⟩ = some (.bool b) := hBs2.cell 2
      have s1e : ∀ o, (V2.alloc o).cell? ⟨gs, 1, none⟩ = some (.slice xa cs.length xc) := fun o => (hBs2.alloc o).cell 1
      have HGS := Lib.hid hgs
      have HBS2 := Lib.hid hBs2
      have hX : Blk (V2.alloc (Obj.cells #[.string NB, .slice none 0 0, .bool b] 48)) V2.heap.size #[.string NB, .slice none 0 0, .bool b] 48 := Blk.new V2 _ _
      have hBX : Below V2.heap.size V2 (V2.alloc (Obj.cells #[.string NB, .slice none 0 0, .bool b] 48)) := (Below.refl _ _).alloc (Nat.le_refl _) _
      have HX0 := Lib.hid hX
      have HBX0 := Lib.hid hBX
      clear hBs2 hgs hX hBX
      go_wp2_with fail
      obtain ⟨gx, hgx⟩ : ∃ gx, V2.heap.size = gx := ⟨_, rfl⟩
      have HX : Hid (Blk (V2.alloc (Obj.cells #[.string NB, .slice none 0 0, .bool b] 48)) gx #[.string NB, .slice none 0 0, .bool b] 48) := Lib.hid (by rw [← hgx]; exact HX0.out)
      have HGX : Hid (V2.heap.size ≤ gx) := Lib.hid (Nat.le_of_eq hgx)
      have HBX := HBX0
      rw [hgx]
      clear hgx s0d s1d s2d s1e HX0 HBX0
      obtain ⟨wo, rfl⟩ : ∃ wo : World, wo = wr := ⟨_, rfl⟩
      go_loopw [34] (fun i wq => ∃ (m : Nat) (vc : Value), m ≤ cs.length ∧ i = .int .i64 m ∧ Hid (Blk wq gx #[.string NB, vc, .bool b] 48) ∧ Hid (Crs wq V2.heap.size 53 vc (cs.take m)) ∧ Hid (Below V2.heap.size V2 wq)) (fun i _ => cs.length - (intOf i).toNat)
      case atStart => exact ⟨0, _, Nat.zero_le _, rfl, HX, Lib.hid (Crs.nil _ _ _), HBX⟩
      case round =>
        obtain ⟨m, vc, hm, rfl, HXq, HCq, HBq⟩ := hrel
        have hcb : cs.length ≤ 8 := HC8'.out
        have hbo : Below wo.heap.size wo wr := HBV.out.trans (HBq.out.mono HBV.out.size)
        by_cases hlm : m < cs.length
        · obtain ⟨c, hc⟩ : ∃ c, cs[m]? = some c := ⟨_, List.getElem?_eq_getElem hlm⟩
          obtain ⟨g2, cp2, hxe, _, hg2, d0, d1, d2⟩ := (HCR.out.below hbo).at m c hc
          injection hxe with hxe e2 e3
          subst hxe
          clear e2 e3
          obtain ⟨cn, cst, cac⟩ := c
          obtain ⟨SB, hSB⟩ : ∃ SB : ByteArray, (⟨cst.toArray⟩ : ByteArray) = SB := ⟨_, rfl⟩
          obtain ⟨AB, hAB⟩ : ∃ AB : ByteArray, (⟨cac.toArray⟩ : ByteArray) = AB := ⟨_, rfl⟩
          have hcc : ([.bool cn, .string SB, .string AB] : List Value) = critCells (cn, cst, cac) := by rw [← hSB, ← hAB]; rfl
          have d0' : wr.cell? ⟨g2, m * 3, none⟩ = some (.bool cn) := d0
          have d1' : wr.cell? ⟨g2, m * 3 + 1, none⟩ = some (.string SB) := by rw [d1, ← hSB]; rfl
          have d2' : wr.cell? ⟨g2, m * 3 + 2, none⟩ = some (.string AB) := by rw [d2, ← hAB]; rfl
          have htk3 := pl.take_at cs m (cn, cst, cac) hc
          obtain ⟨n0, hn0⟩ : ∃ n0, (cs.take m).length = n0 := ⟨_, rfl⟩
          have hown := HCq.out
          unfold Crs at hown
          rw [hn0] at hown
          have hn8 : n0 ≤ 8 := by rw [← hn0, List.length_take]; have := HC8'.out; omega
          obtain ⟨va, vcap, hva⟩ := Row.shape hown
          subst hva
          have halk : Below wr.heap.size wr (wr.alloc (Obj.cells #[.bool cn, .string SB, .string AB] 84)) := (Below.refl _ _).alloc (Nat.le_refl _) _
          have halr : Below wr.heap.size wr ((wr.alloc (Obj.cells #[.bool cn, .string SB, .string AB] 84)).alloc (Obj.cells #[.bool cn, .string SB, .string AB] 53)) := halk.alloc halk.size _
          have z1 : (wr.alloc (Obj.cells #[.bool cn, .string SB, .string AB] 84)).cell? ⟨gx, 1, none⟩ = some (.slice va n0 vcap) := (HXq.out.below halk HXq.out.lt).cell 1
          have HOWN := Lib.hid (Row.below hown halk)
          have HTK3 := Lib.hid htk3
          have HCC := Lib.hid hcc
          have HALR := Lib.hid halr
          have HALK := Lib.hid halk
          have HN0 := Lib.hid hn0
          clear hown htk3 hcc halr halk hn0 hSB hAB d0 d1 d2 hc hbo
          go_wp2_with (at_builtin; refine app_row_g 46 53 (.agg #[.bool false, .string ⟨#[]⟩, .string ⟨#[]⟩]) 3 40 Try.underlying46 infoIC rfl (by decide) (by decide) #[.bool cn, .string SB, .string AB] rfl (by simp [Value.oneCell']) rfl _ _ rfl rfl V2.heap.size HOWN.out (wr.heap.size + 1) (by simp) rfl (by omega) (Nat.le_trans HBq.out.size HALK.out.size) ?_; intro v9 w9 hv9 hg9; obtain ⟨a9, c9, hav9⟩ := Row.shape hv9; obtain ⟨n9, hn9⟩ : ∃ n9, n0 + 1 = n9 := ⟨_, rfl⟩; rw [hn9] at hav9 hv9; have HN9 := Lib.hid hn9; clear hn9; subst hav9; have hst := cs_step (c := (cn, cst, cac)) (by decide) HXq.out HCq.out HBq.out HGX.out HALR.out (by rw [HN0.out, HN9.out]; exact hv9) HCC.out hg9; have x91 : w9.cell? ⟨gx, 1, none⟩ = some (.slice va n0 vcap) := hst.1.cell 1; have f91 := hst.1.frozen 1; have HST9 := Lib.hid hst; clear hst hv9 hg9)
          go_roundw
          case rel => exact ⟨m + 1, _, by omega, by go_num, Lib.hid HST9.out.2.1, Lib.hid (by rw [HTK3.out]; exact HST9.out.2.2.1), Lib.hid HST9.out.2.2.2⟩
          case measure => simp [intOf]; omega
        · have hme : m = cs.length := by omega
          subst hme
          have hCq := HCq.out
          rw [List.take_length] at hCq
          have hSq := (HS.out.below hbo)
          have hNq := (HN.out.below hbo)
          have hBw := HB.out.trans (hbo.mono HB.out.size)
          obtain ⟨vs, hvs, hown, hcrs⟩ := hSq
          have hlk : ((l.take k).map pl.sB).length = k := by rw [List.length_map, List.length_take, Nat.min_eq_left (Nat.le_of_lt hlt)]
          rw [hlk] at hown
          obtain ⟨va, vcap, hva⟩ := Row.shape hCq
          obtain ⟨nc, hnc⟩ : ∃ nc, cs.length = nc := ⟨_, rfl⟩
          rw [hnc] at hva
          subst hva
          have hal : Below wr.heap.size wr (wr.alloc (Obj.cells #[.string NB, .slice va nc vcap, .bool b] 48)) := (Below.refl _ _).alloc (Nat.le_refl _) _
          have x0 : wr.cell? ⟨gx, 0, none⟩ = some (.string NB) := HXq.out.cell 0
          have x1 : wr.cell? ⟨gx, 1, none⟩ = some (.slice va nc vcap) := HXq.out.cell 1
          have x2 : wr.cell? ⟨gx, 2, none⟩ = some (.bool b) := HXq.out.cell 2
          have hwl : w.heap.size ≤ V2.heap.size := by have h1 := HBV.out.size; have h2 := HB.out.size; omega
          have HCQ := Lib.hid (hCq.mono hwl)
          have HNQ := Lib.hid hNq
          have HBW := Lib.hid hBw
          have HVS := Lib.hid hvs
          have HOWN := Lib.hid hown
          have HCRS := Lib.hid hcrs
          have HLK := Lib.hid hlk
          have HAL := Lib.hid hal
          clear hCq hNq hBw hvs hown hcrs hlk hal hwl hnc hbo
          go_wp2_with (at_builtin; refine app_row_g 43 48 (.agg #[.string ⟨#[]⟩, .slice none 0 0, .bool false]) 3 48 Try.underlying43 infoIS rfl (by decide) (by decide) #[.string NB, .slice va nc vcap, .bool b] rfl (by simp [Value.oneCell']) rfl _ _ rfl rfl w.heap.size HOWN.out wr.heap.size rfl rfl (by omega) HBW.out.size ?_; intro v9 w9 hv9 hg9; obtain ⟨a9, c9, hav9⟩ := Row.shape hv9; obtain ⟨n9, hn9⟩ : ∃ n9, k + 1 = n9 := ⟨_, rfl⟩; rw [hn9] at hav9 hv9; have HN9 := Lib.hid hn9; clear hn9; subst hav9; have HV9 := Lib.hid hv9; have HG9 := Lib.hid hg9; clear hv9 hg9)
          have k1 : KeepT 48 wr w9 := (KeepT.of HAL.out).trans (KeepT.grown (Row.below HOWN.out HAL.out) HG9.out)
          have hS9 := SoR.push (tc := 53) (by decide) HVS.out HCRS.out k1 ((nm, cs), b) (.slice va nc vcap) HCQ.out [.string NB, .slice va nc vcap, .bool b] (by rw [← HNV.out]) (by rw [HLK.out, HN9.out]; exact HV9.out)
          have hb9 : Below w.heap.size w w9 := Below.grown (HBW.out.trans (HAL.out.mono HBW.out.size)) HG9.out (by have h1 := HBW.out.size; have h2 := HAL.out.size; omega) (fun q hq => (World.ownsRow.lt HOWN.out q hq).1)
          rw [← HTK.out] at hS9
          have HS9 := Lib.hid hS9
          have HB9 := Lib.hid hb9
          have HN10 := Lib.hid (HNQ.out.keepT k1 (by decide) (by decide))
          clear k1 hS9 hb9
          go_roundw
          case rel => exact ⟨k + 1, by omega, by go_num, HS9, HN10, HB9⟩
          case measure => simp [intOf]; omega
    · have hke : k = l.length := by omega
      subst hke
      rw [List.take_length] at HS
      obtain ⟨lva, lvc, hlv⟩ := HS.out.form
      obtain ⟨nl, hnl⟩ : ∃ nl, (l.map pl.sB).length = nl := ⟨_, rfl⟩
      rw [hnl] at hlv
      clear hnl
      subst hlv
      go_wp2_with fail
      go_ret2
      exact ⟨_, rfl, HS, HB⟩

end Go.Proofs.Ytabeklpllphiaaa
