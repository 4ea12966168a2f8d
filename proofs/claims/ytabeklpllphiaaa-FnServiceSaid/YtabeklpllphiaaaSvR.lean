/-
  WALK: readServices.
-/
import Derived.Test.YtabeklpllphiaaaSvTab
import Derived.Deep.LoopGhost
import Derived.Deep.RegionLaw
namespace Go.Proofs.Ytabeklpllphiaaa
open Go.RowKit

theorem zero_mi (w : World) : (zeroValue 90).run Try.prog w = .ok (.map none) w := by kernel_rfl
theorem zero_i (w : World) : (zeroValue 3).run Try.prog w = .ok (.int .i64 0) w := by kernel_rfl

def RsRes (w0 : World) (l : SvcL) (e : Ending) (w' : World) : Prop :=
  ∃ bo n, e = .returned (.map (some bo)) ∧ Hid (TblE w' bo n (pl.svTab l)) ∧ Hid (Below w0.heap.size w0 w')

set_option maxRecDepth 100000 in
set_option maxHeartbeats 8000000 in
theorem rs_sp (l : SvcL) (w0 w : World) (hl : ∀ s ∈ l, SvLine s) (hn : l.length ≤ 100) (hw : Below w0.heap.size w0 w)
    (hfile : Blk w w0.heap.size #[.string ⟨(pl.ltext (pl.svLs l)).toArray⟩] 95) :
    Calls Try.prog 37 #[.pointer (some ⟨w0.heap.size, 0, none⟩)] w (RsRes w0 l) := by
  have hmm := @run_makeMap Try.prog
  obtain ⟨gf, hgf⟩ : ∃ gf, w0.heap.size = gf := ⟨_, rfl⟩
  obtain ⟨W1, hW1⟩ : ∃ W1, (w.alloc (.map #[] 0)) = W1 := ⟨_, rfl⟩
  have hgl : gf < w.heap.size := by rw [← hgf]; exact hfile.lt
  have htb : TblE W1 w.heap.size 0 (pl.svTab []) := ⟨_, by rw [← hW1]; exact Tbl.made w _ (fun _ _ => rfl)⟩
  have hfl1 : Blk W1 gf #[.string ⟨(pl.ltext (pl.svLs l)).toArray⟩] 95 := by
    rw [← hW1, ← hgf]; exact hfile.alloc _
  have hb1 : Below gf w0 W1 := by
    rw [← hW1, ← hgf]; exact hw.alloc hw.size _
  rw [hgf] at hw ⊢
  have htl := pl.svText_len l hl hn
  rw [← pl.svText_ls] at htl
  have hnl : ∀ x ∈ pl.svLs l, (10 : UInt8) ∉ x := fun x hx => by
    unfold pl.svLs at hx
    rcases List.mem_cons.1 hx with rfl | hx
    · decide
    · obtain ⟨s, hs, rfl⟩ := List.mem_map.1 hx
      exact (hl s hs).nl
  have hrl : ∀ (j : Nat) W, Blk W gf #[.string ⟨(pl.ltext ((pl.svLs l).drop j)).toArray⟩] 95 → Calls Try.prog 47 #[.pointer (some ⟨gf, 0, none⟩)] W fun e w' =>
      e = .returned (.tuple #[.string ⟨(pl.lnx ((pl.svLs l).drop j)).1.toArray⟩, .bool (pl.lnx ((pl.svLs l).drop j)).2.1]) ∧ Hid (Blk w' gf #[.string ⟨(pl.ltext (pl.lnx ((pl.svLs l).drop j)).2.2).toArray⟩] 95) ∧
      Hid (KeepG gf W w') ∧ Hid (∀ B w1, Below B w1 W → B ≤ gf → Below B w1 w') := fun j W h =>
    ln_next gf ((pl.svLs l).drop j) 95 W h (fun x hx => hnl x (List.mem_of_mem_drop hx)) (by
      have := pl.ltext_drop (pl.svLs l) j
      omega)
  have hrl0 := hrl 0 W1 hfl1
  have HRL := Lib.hid hrl
  have HRL0 := Lib.hid hrl0
  have HL := Lib.hid hl
  have HTB := Lib.hid htb
  have HB1 := Lib.hid hb1
  have HF1 := Lib.hid hfl1
  have HGF := Lib.hid hgf
  have HGL := Lib.hid hgl
  have hlen : (pl.svLs l).length = l.length + 1 := by simp [pl.svLs]
  clear hrl hrl0 hl htb hb1 hfl1 hnl hfile hw hgf hgl htl
  go_enter Try.func37, Try.ntmps37
  go_wp2_with (go_at_call 47; refine HRL0.out.mono ?_; rintro e w2 ⟨rfl, HK2, HKG2, HBL2⟩)
  go_loopg [4, 5] (l.length + 1) (fun g lv okv wr => ∃ j : Nat, j ≤ l.length + 1 ∧ g = l.length + 1 - j ∧ lv = .string ⟨(pl.lnx ((pl.svLs l).drop j)).1.toArray⟩ ∧ okv = .bool (pl.lnx ((pl.svLs l).drop j)).2.1 ∧ Hid (Blk wr gf #[.string ⟨(pl.ltext (pl.lnx ((pl.svLs l).drop j)).2.2).toArray⟩] 95) ∧
    Hid (TblE wr w.heap.size (25 * j) (pl.svTab (l.take (j - 1)))) ∧ Hid (Below gf w0 wr))
  case atStart => exact ⟨0, Nat.zero_le _, rfl, rfl, rfl, HK2, Lib.hid (HTB.out.only HF1.out HKG2.out), Lib.hid (HBL2.out _ _ HB1.out (Nat.le_refl _))⟩
  case round =>
    obtain ⟨j, hj, hgk, rfl, rfl, HK, HT, HB⟩ := hrel
    by_cases hlt : j < l.length + 1
    · obtain ⟨ln, hit⟩ : ∃ ln, (pl.svLs l)[j]? = some ln := ⟨_, List.getElem?_eq_getElem (by omega)⟩
      have hnx := pl.lnx_drop (pl.svLs l) j ln hit
      rw [hnx] at HK ⊢
      have hrl1 := HRL.out (j + 1)
      have HRL1 := Lib.hid hrl1
      clear hnx hrl1
      rcases j with _ | m
      · have hln : ln = [35, 32, 115, 101, 114, 118, 105, 99, 101, 115] := by
          unfold pl.svLs at hit; simp at hit; exact hit.symm
        obtain ⟨k, hI⟩ : ∃ k : Nat, pl.idx ln 35 = k := ⟨0, by rw [hln]; decide⟩
        have hk00 : k = 0 := by have : pl.idx ln 35 = 0 := by rw [hln]; decide
                                omega
        have hk0 : (0 : Int) ≤ (k : Int) := by omega
        have hkL : (k : Int) ≤ ((⟨ln.toArray⟩ : ByteArray).size : Int) := by omega
        obtain ⟨S, hS⟩ : ∃ S, (⟨ln.toArray⟩ : ByteArray).extract 0 k = S := ⟨_, rfl⟩
        have hSd : S.data.toList = [] := by rw [← hS, hk00, Lib.extract_data]; simp
        have hSs : S.size ≤ 4398046511104 := by
          have h1 : S.data.toList.length = S.size := by simp
          rw [hSd] at h1; simp at h1; omega
        have hfS := fun W => fields_any S W hSs
        rw [hSd] at hfS
        have hLs : (⟨ln.toArray⟩ : ByteArray).size ≤ 17592186044416 := by rw [hln]; decide
        have HFF := Lib.hid hfS
        have HII := Lib.hid hI
        have HLS := Lib.hid hLs
        clear hln hI hk00 hSd hSs hfS hLs hit
        go_wp2_with (first
          | (go_at_call 46; refine (idx_val' ⟨ln.toArray⟩ 35 k _ HII.out HLS.out).mono ?_; rintro e w3 ⟨rfl, rfl⟩)
          | (go_at_call 48; refine (HFF.out _).mono ?_; rintro e w3 ⟨v3, rfl, hS3, hb3⟩; obtain ⟨a3, c3, rfl, _⟩ := hS3.form; rw [show pl.words pl.ws [] = [] from rfl]; have HK3 := Lib.hid (HK.out.below hb3 HK.out.lt); have HT3 := Lib.hid (HT.out.below hb3); have HB3 := Lib.hid (HB.out.trans (hb3.mono (Nat.le_of_lt HK.out.lt))); clear hb3 hS3)
          | (go_at_call 47; have hx0 := HK3; refine (HRL1.out _ HK3.out).mono ?_; rintro e w4 ⟨rfl, HK4, HKG4, HBL4⟩))
        go_roundg (l.length + 1 - (0 + 1))
        case measure => omega
        case rel => exact ⟨0 + 1, by omega, rfl, rfl, rfl, HK4, Lib.hid ((HT3.out.only HK3.out HKG4.out).mono (by omega)), Lib.hid (HBL4.out _ _ HB3.out (Nat.le_refl _))⟩
      · obtain ⟨s, hs⟩ : ∃ s, l[m]? = some s := ⟨_, List.getElem?_eq_getElem (by omega)⟩
        have hln : ln = pl.svLn s := by
          unfold pl.svLs at hit
          rw [List.getElem?_cons_succ, List.getElem?_map, hs] at hit
          simp at hit; exact hit.symm
        have hsl := HL.out s (List.mem_of_getElem? hs)
        have htab : pl.svTab (l.take (m + 1)) = pl.svStep (pl.svTab (l.take m)) s := by
          unfold pl.svTab
          rw [pl.take_at l m s hs, List.foldl_append]
          rfl
        have hat := pl.svPP_at s
        have hstep := pl.svPut_step (pl.svTab (l.take m)) s
        rw [← htab] at hstep
        clear htab
        obtain ⟨k, hkk⟩ : ∃ k : Nat, (pl.svPre s).length = k := ⟨_, rfl⟩
        have hI : pl.idx ln 35 = k := by rw [hln, hsl.sep, hkk]
        have hst : ln.take k = pl.svPre s := by rw [hln, ← hkk]; exact List.take_left
        have hk0 : (0 : Int) ≤ (k : Int) := by omega
        have hkl := pl.idx_lt ln 35
        rw [hI] at hkl
        have hkL : (k : Int) ≤ ((⟨ln.toArray⟩ : ByteArray).size : Int) := by
          show (k : Int) ≤ (ln.length : Int)
          omega
        have hlen2 : ln.length ≤ 60000000000 := by rw [hln]; exact hsl.len
        have hLs : (⟨ln.toArray⟩ : ByteArray).size ≤ 17592186044416 := by show ln.length ≤ _; omega
        obtain ⟨S, hS⟩ : ∃ S, (⟨ln.toArray⟩ : ByteArray).extract 0 k = S := ⟨_, rfl⟩
        have hSd : S.data.toList = pl.svPre s := by rw [← hS, Lib.extract_data, ← hst]; simp
        have hSs : S.size ≤ 4398046511104 := by
          have h1 : S.data.toList.length = S.size := by simp
          rw [hSd, ← hst] at h1
          have h2 : (ln.take k).length ≤ ln.length := List.length_take_le' _ _
          omega
        have hfS := fun W => fields_any S W hSs
        rw [hSd, hsl.wd] at hfS
        obtain ⟨nm, pt, pr, al⟩ := s
        obtain ⟨P, rfl⟩ : ∃ P : Nat, pt = (P : Int) := ⟨pt.toNat, by have h1 : 1 ≤ pt := hsl.p1; omega⟩
        have hdt := hsl.dt
        have hP1 : ¬ ((P : Int) ≤ 0) := by have h1 : (1 : Int) ≤ (P : Int) := hsl.p1; omega
        have hn20 : al.length ≤ 20 := hsl.n20
        have hl1 : nm.length ≤ 2147483647 := hsl.l1
        have hl2 : pr.length ≤ 2147483647 := hsl.l2
        have hl3 : ∀ q ∈ al, q.length ≤ 2147483647 := hsl.l3
        have hsv := pl.svAt_step (nm, (P : Int), pr, al)
        have hse : pl.svAt (nm, (P : Int), pr, al) (al.length + 2) = pl.svNames (nm, (P : Int), pr, al) := pl.svAt_end (nm, (P : Int), pr, al)
        have hs1 := pl.svAt_one (nm, (P : Int), pr, al)
        obtain ⟨PL, hPL⟩ : ∃ PL, pl.svPP (nm, (P : Int), pr, al) = PL := ⟨_, rfl⟩
        have HPLL := hPL
        obtain ⟨kd, hkd⟩ : ∃ kd : Nat, (pl.num 10 (nm, (P : Int), pr, al).2.1.toNat).length = kd := ⟨_, rfl⟩
        have hpt : (nm, (P : Int), pr, al).2.1.toNat = P := Int.toNat_natCast P
        rw [hPL, hkd, hpt] at hdt
        rw [hPL, hkd] at hat
        obtain ⟨hat1, hat2, hat3⟩ := hat
        have hat3' : PL.length = kd + 1 + pr.length := hat3
        have hat2' : PL.drop (kd + 1) = pr := hat2
        have hkd64 : kd ≤ 64 := by rw [← hkd]; exact pl.num_len 10 _
        have hfS' : ∀ W, Calls Try.prog 48 #[.string S] W fun e w' => ∃ v, e = .returned v ∧ Strs w' W.heap.size v (nm :: PL :: al) ∧ Below W.heap.size W w' := fun W => by rw [← hPL]; exact hfS W
        obtain ⟨PB, hPB⟩ : ∃ PB : ByteArray, (⟨PL.toArray⟩ : ByteArray) = PB := ⟨_, rfl⟩
        have hPBd : PB.data.toList = PL := by rw [← hPB]
        have hPBs : PB.size = PL.length := by rw [← hPB]; rfl
        have hdi := fun W => dtoi_any PB W (by omega)
        rw [hPBd, hdt] at hdi
        have hkP : ¬ ((PB.size : Int) ≤ (kd : Int)) := by omega
        have hkP2 : (kd : Int) < (PB.size : Int) := by omega
        have hkP3 : (kd : Int) + 1 ≤ (PB.size : Int) := by omega
        have hkb : kd < PB.size := by omega
        have hby : PB[kd] = 47 := by
          have h1 := pl.getElem_data PB kd hkb
          rw [hPBd, hat1] at h1
          injection h1 with h1
          exact h1.symm
        obtain ⟨NW, hNW⟩ : ∃ NW, PB.extract (kd + 1) PB.size = NW := ⟨_, rfl⟩
        have hNWd : NW.data.toList = pr := by rw [← hNW, Lib.extract_data, hPBd, hPBs, hat2']; exact List.take_of_length_le (by omega)
        have hNWs : NW.size ≤ maxLen := by
          have h1 : NW.data.toList.length = NW.size := by simp
          rw [hNWd] at h1
          unfold maxLen; omega
        obtain ⟨gm, hTm0⟩ := HT.out
        have hTm : Tbl wr w.heap.size (25 * (m + 1)) (pl.svTab (l.take m)) gm := hTm0
        clear hTm0
        have hstep' : pl.svPut (pl.svTab (l.take m)) pr P (pl.svNames (nm, (P : Int), pr, al)) = pl.svTab (l.take (m + 1)) := hstep
        obtain ⟨r, hr⟩ : ∃ r, gm pr = r := ⟨_, rfl⟩
        have HFF := Lib.hid hfS'
        have HDI := Lib.hid hdi
        have HII := Lib.hid hI
        have HLS := Lib.hid hLs
        have HTM := Lib.hid hTm
        have HR := Lib.hid hr
        have HNWD := Lib.hid hNWd
        have HNWS := Lib.hid hNWs
        have hsv' : ∀ (i : Nat) (n : Key), (nm :: PL :: al)[i]? = some n → i ≠ 1 → pl.svAt (nm, (P : Int), pr, al) (i + 1) = pl.svAt (nm, (P : Int), pr, al) i ++ [n] := by rw [← HPLL]; exact hsv
        have HSV := Lib.hid hsv'
        clear hsv' HPLL
        have HSE := Lib.hid hse
        have HS1 := Lib.hid hs1
        have HSTEP := Lib.hid hstep'
        have HL1 := Lib.hid hl1
        have HL3 := Lib.hid hl3
        have HPB := Lib.hid hPB
        have hwI : ¬ ((al.length : Int) + 1 + 1 < 2) := by omega
        clear hkk hI hst hkl hlen2 hLs hSd hSs hfS hsl hdt hl1 hl2 hl3 hsv hse hs1 hPL hkd hpt hat1 hat2 hat3 hat3' hat2' hfS' hPBd hPBs hdi hTm hr hNWd hNWs hstep hstep' hs hit hln hPB
        have hrv : (fun p => (gm p).map (fun b => Value.map (some b))) NW.data.toList = r.map (fun b => Value.map (some b)) := by
          show (gm NW.data.toList).map _ = _
          rw [HNWD.out, HR.out]
        rcases r with _ | b
        focus
          obtain ⟨RV, hRV⟩ : ∃ RV : Option Value, none = RV := ⟨_, rfl⟩
          rw [Option.map_none, hRV] at hrv
          have HRV := Lib.hid hrv
          subst hRV
          clear hrv
          go_wp2_with (first
            | (go_at_call 46; refine (idx_val' ⟨ln.toArray⟩ 35 k _ HII.out HLS.out).mono ?_; rintro e w3 ⟨rfl, rfl⟩)
            | (go_at_call 48; refine (HFF.out _).mono ?_; rintro e w3 ⟨v3, rfl, hS3, hb3⟩; have HS3 := Lib.hid (hS3.mono (Nat.le_of_lt HK.out.lt)); obtain ⟨a3, c3, rfl, hc3⟩ := hS3.form; obtain ⟨gF, rfl, hgF, hgF2, hcF⟩ := hc3 0 nm rfl; obtain ⟨gF', hga, _, _, hcP⟩ := hc3 1 PL rfl; have hgg : gF' = gF := (by injection hga with hga; injection hga with hga; exact hga.symm); subst hgg; unfold pl.strV at hcP; rw [HPB.out] at hcP; have HK3 := Lib.hid (HK.out.below hb3 HK.out.lt); have HT3 := Lib.hid (HTM.out.below hb3); have HB3 := Lib.hid (HB.out.trans (hb3.mono (Nat.le_of_lt HK.out.lt))); clear hb3 hS3 hc3 hgF hgF2 hcF hga)
            | (go_at_call 49; refine (HDI.out _).mono ?_; rintro e w3' ⟨rfl, rfl⟩)
            | (at_lookup; refine wpList_look _ rfl _ _ 91 true rfl 9 90 Try.underlying9 Try.underlying91 w.heap.size (25 * (m + 1)) (fun p => (gm p).map (fun b => Value.map (some b))) (.map none) (zero_mi _) rfl HT3.out.out NW HNWS.out rfl none HRV.out ?_)
            | (at_mapUpdate; have hal := (Below.refl w3.heap.size w3).alloc (Nat.le_refl _) (Obj.map #[] 0); have HAL := Lib.hid hal; clear hal; refine wpList_put _ rfl _ _ _ 91 rfl 9 90 Try.underlying9 Try.underlying91 w.heap.size (25 * (m + 1)) (fun p => (gm p).map (fun b => Value.map (some b))) rfl (HT3.out.out.below HAL.out HT3.out.out.lt) (by unfold maxLen; omega) NW HNWS.out (.map (some w3.heap.size)) rfl rfl ?_))
          intro w7 hM7 hg7
          rw [HNWD.out] at hM7
          have hT7 := HT3.out.new pr HR.out hM7 hg7
          have hK7 := (HK3.out.alloc (Obj.map #[] 0)).map_put (HT3.out.out.below HAL.out HT3.out.out.lt) hg7
          have hS7 := (HS3.out.below HAL.out).map_put (HT3.out.out.below HAL.out HT3.out.out.lt) hg7
          have hB7 := (HB3.out.trans (HAL.out.mono (Nat.le_of_lt HK3.out.lt))).grown hg7 (Nat.le_trans (Nat.le_of_lt HK3.out.lt) HAL.out.size) (fun k hk => by injection hk with hk; have := HGL.out; omega)
          obtain ⟨b, hb⟩ : ∃ b, w3.heap.size = b := ⟨_, rfl⟩
          obtain ⟨g', hg', hGi⟩ : ∃ g' : Key → Option Nat, Tbl w7 w.heap.size (25 * (m + 1) + 1) (pl.svTab (l.take m)) g' ∧ g' pr = some b := ⟨_, hT7, by simp [hb]⟩
          rw [hb]
          have HTi := Lib.hid hg'
          have HGi := Lib.hid hGi
          have HKi := Lib.hid hK7
          have HSi := Lib.hid hS7
          have HBi := Lib.hid hB7
          clear hM7 hg7 hT7 hK7 hS7 hB7 hb hg' hGi
          obtain ⟨wi, rfl⟩ : ∃ wi : World, wi = w7 := ⟨_, rfl⟩
          go_wp2_with fail
        rotate_left
        focus
          have hrv' : (fun p => (gm p).map (fun b => Value.map (some b))) NW.data.toList = some (.map (some b)) := hrv
          have HRV := Lib.hid hrv'
          clear hrv hrv'
          go_wp2_with (first
            | (go_at_call 46; refine (idx_val' ⟨ln.toArray⟩ 35 k _ HII.out HLS.out).mono ?_; rintro e w3 ⟨rfl, rfl⟩)
            | (go_at_call 48; refine (HFF.out _).mono ?_; rintro e w3 ⟨v3, rfl, hS3, hb3⟩; have HS3 := Lib.hid (hS3.mono (Nat.le_of_lt HK.out.lt)); obtain ⟨a3, c3, rfl, hc3⟩ := hS3.form; obtain ⟨gF, rfl, hgF, hgF2, hcF⟩ := hc3 0 nm rfl; obtain ⟨gF', hga, _, _, hcP⟩ := hc3 1 PL rfl; have hgg : gF' = gF := (by injection hga with hga; injection hga with hga; exact hga.symm); subst hgg; unfold pl.strV at hcP; rw [HPB.out] at hcP; have HK3 := Lib.hid (HK.out.below hb3 HK.out.lt); have HT3 := Lib.hid (HTM.out.below hb3); have HB3 := Lib.hid (HB.out.trans (hb3.mono (Nat.le_of_lt HK.out.lt))); clear hb3 hS3 hc3 hgF hgF2 hcF hga)
            | (go_at_call 49; refine (HDI.out _).mono ?_; rintro e w3' ⟨rfl, rfl⟩)
            | (at_lookup; refine wpList_look _ rfl _ _ 91 true rfl 9 90 Try.underlying9 Try.underlying91 w.heap.size (25 * (m + 1)) (fun p => (gm p).map (fun b => Value.map (some b))) (.map none) (zero_mi _) rfl HT3.out.out NW HNWS.out rfl (some (.map (some b))) HRV.out ?_))
          have HTi := Lib.hid (HT3.out.mono (Nat.le_succ (25 * (m + 1))))
          have HGi := HR
          have HKi := HK3
          have HSi := HS3
          have HBi := HB3
          have HAL : Hid True := Lib.hid trivial
          obtain ⟨g', rfl⟩ : ∃ g' : Key → Option Nat, g' = gm := ⟨_, rfl⟩
          obtain ⟨wi, rfl⟩ : ∃ wi : World, wi = w3 := ⟨_, rfl⟩
        rotate_left
        all_goals
          clear HRV
          obtain ⟨wo, rfl⟩ : ∃ wo : World, wo = wr := ⟨_, rfl⟩
          go_loopg [15] (al.length + 2) (fun g iv wq => ∃ i : Nat, i ≤ al.length + 2 ∧ g = al.length + 2 - i ∧ iv = .int .i64 i ∧ Hid (Blk wq gf #[.string ⟨(pl.ltext ((pl.svLs l).drop (m + 1 + 1))).toArray⟩] 95) ∧
            Hid (Tbl wq w.heap.size (25 * (m + 1) + 1 + i) (pl.svPut (pl.svTab (l.take m)) pr P (pl.svAt (nm, (P : Int), pr, al) i)) g') ∧ Hid (Strs wq gf (.slice (some ⟨gF', 0, none⟩) (al.length + 1 + 1) c3) (nm :: PL :: al)) ∧ Hid (Below gf w0 wq))
          case atStart => exact ⟨0, Nat.zero_le _, rfl, rfl, HKi, Lib.hid (by rw [show pl.svAt (nm, (P : Int), pr, al) 0 = [] from rfl, pl.svPut_nil]; exact HTi.out), HSi, HBi⟩
          case round =>
            obtain ⟨i, hi, hgi, rfl, HKq, HTq, HSq, HBq⟩ := hrel
            by_cases hli : i < al.length + 2
            · by_cases h1 : i = 1
              · have t1 : ((i : Int) != 1) = false := by simp [h1]
                go_wp2_with fail
                go_roundg (al.length + 2 - (i + 1))
                case measure => omega
                case rel => exact ⟨i + 1, by omega, rfl, by go_num, HKq, Lib.hid (by rw [h1, HS1.out, ← h1]; exact HTq.out.mono (by omega)), HSq, HBq⟩
              · have t1 : ((i : Int) != 1) = true := by simp; omega
                obtain ⟨q, hq⟩ : ∃ q, (nm :: PL :: al)[i]? = some q := ⟨_, List.getElem?_eq_getElem (by simp; omega)⟩
                obtain ⟨aq, cq, heq, hcq⟩ := HSq.out.form
                obtain ⟨gq, haq, hgq, _, hcell⟩ := hcq i q hq
                injection heq with e1 e2 e3
                rw [haq] at e1
                injection e1 with e1
                injection e1 with e1
                subst e1
                have hql : q.length ≤ 2147483647 := by
                  match i, h1, hq with
                  | 0, _, hq => simp at hq; subst hq; exact HL1.out
                  | i + 2, _, hq => exact HL3.out q (List.mem_of_getElem? (by simpa using hq))
                obtain ⟨Q, hQ⟩ : ∃ Q : ByteArray, (⟨q.toArray⟩ : ByteArray) = Q := ⟨_, rfl⟩
                have hQd : Q.data.toList = q := by rw [← hQ]
                have hQs : Q.size ≤ maxLen := by rw [← hQ]; show q.length ≤ maxLen; unfold maxLen; omega
                have hcell' : wr.cell? ⟨gF', i, none⟩ = some (.string Q) := by rw [hcell, ← hQ]; rfl
                have HQD := Lib.hid hQd
                have HQS := Lib.hid hQs
                have HQ := Lib.hid hq
                have H1 := Lib.hid h1
                have hnn : 25 * (m + 1) + 1 + i < maxLen := by unfold maxLen; omega
                clear hcq hcell hql hQd hQs hQ e2 e3 haq hq h1 hgq
                go_wp2_with (at_mapUpdate; refine wpList_put _ rfl _ _ _ 90 rfl 9 3 Try.underlying9 Try.underlying90 b (25 * (m + 1) + 1 + i) (fun k => (pl.svPut (pl.svTab (l.take m)) pr P (pl.svAt (nm, (P : Int), pr, al) i) pr k).map (fun v => Value.int .i64 v)) rfl (HTq.out.inn pr b HGi.out) hnn Q HQS.out (.int .i64 (P : Int)) rfl rfl ?_)
                intro w8 hM8 hg8
                rw [HQD.out] at hM8
                have hT8 := HTq.out.put pr b HGi.out q P hM8 hg8
                rw [← pl.svPut_snoc, ← HSV.out i q HQ.out H1.out] at hT8
                have hmb := HTq.out.inn pr b HGi.out
                have hfar := HTq.out.far pr b HGi.out
                have HT8 := Lib.hid hT8
                have HK8 := Lib.hid (HKq.out.map_put hmb hg8)
                have HS8 := Lib.hid (HSq.out.map_put hmb hg8)
                have HB8 := Lib.hid (HBq.out.grown hg8 (Nat.le_of_lt HKq.out.lt) (fun k hk => by injection hk with hk; have := HGL.out; omega))
                clear hM8 hg8 hT8 hmb hfar hnn
                go_wp2_with fail
                go_roundg (al.length + 2 - (i + 1))
                case measure => omega
                case rel => exact ⟨i + 1, by omega, rfl, by go_num, HK8, HT8, HS8, HB8⟩
            · have hie : i = al.length + 2 := by omega
              have hTe := HTq.out
              rw [hie, HSE.out, HSTEP.out, ← hie] at hTe
              have HTE := Lib.hid hTe
              have HKE := HKq
              clear hTe hie
              go_wp2_with (go_at_call 47; have hx0 := HKE; refine (HRL1.out _ HKE.out).mono ?_; rintro e w4 ⟨rfl, HK4, HKG4, HBL4⟩)
              go_roundg (l.length + 1 - (m + 1 + 1))
              case measure => omega
              case rel => exact ⟨m + 1 + 1, by omega, rfl, rfl, rfl, HK4, Lib.hid (TblE.mono ⟨g', HTE.out.only HKE.out HKG4.out⟩ (by omega)), Lib.hid (HBL4.out _ _ HBq.out (Nat.le_refl _))⟩
    · have hje : j = l.length + 1 := by omega
      have hnx := pl.lnx_end (pl.svLs l) j (by omega)
      rw [hnx] at HK ⊢
      have hTe := HT.out
      rw [hje, show l.length + 1 - 1 = l.length from rfl, List.take_length] at hTe
      have HTE := Lib.hid hTe
      clear hTe hnx
      go_wp2_with fail
      go_ret
      exact ⟨_, _, rfl, HTE, by rw [HGF.out]; exact HB⟩

end Go.Proofs.Ytabeklpllphiaaa
