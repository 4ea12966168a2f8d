/-
  WALK: readHosts.
-/
import Derived.Test.YtfkohahlpfejbaaDoorRh1
namespace Go.Proofs.YtfkohahlpfejbaaDoor
open Go.RowKit

theorem pl.lit_len (p : List UInt8) : (pl.lit p).length ≤ 100 := by
  unfold pl.lit
  cases h : pl.addr p with
  | none => simp
  | some b => exact pl.text_len b (pl.addr_len _ _ h)

def RhRes (w0 : World) (its : List Item) (e : Ending) (w' : World) : Prop :=
  ∃ gt bh bi n, e = .returned (.pointer (some ⟨gt, 0, none⟩)) ∧ Hid (Blk w' gt #[.map (some bh), .map (some bi)] 140) ∧ Hid (TbE w' w0.heap.size bh bi n (pl.addrsOf (pl.ihosts its)) (pl.byAddr (pl.ihosts its)) (fun _ => False)) ∧ Hid (Below w0.heap.size w0 w')

set_option maxRecDepth 100000 in
set_option maxHeartbeats 8000000 in
theorem rh_sp (g4 o4 g6 o6 : Nat) (its : List Item) (w0 w : World) (hok : ∀ it ∈ its, ItemOk it) (hlen : its.length ≤ 1000) (htl : (pl.itext its).length ≤ 17592186044416) (hI : IpVars w0 g4 o4 g6 o6) (hw : Below w0.heap.size w0 w)
    (hfile : Blk w w0.heap.size #[.string ⟨(pl.itext its).toArray⟩] 105) :
    Calls Tryd.prog 64 #[.pointer (some ⟨w0.heap.size, 0, none⟩)] w (RhRes w0 its) := by
  have hmm := @run_makeMap Tryd.prog
  obtain ⟨gf, hgf⟩ : ∃ gf, w0.heap.size = gf := ⟨_, rfl⟩
  obtain ⟨W1, hW1⟩ : ∃ W1, (w.alloc (.map #[] 0)).alloc (.map #[] 0) = W1 := ⟨_, rfl⟩
  have hsz1 : W1.heap.size = w.heap.size + 2 := by rw [← hW1]; simp
  have hgl : gf < w.heap.size := by rw [← hgf]; exact hfile.lt
  have hmh : MapF Tryd.prog 9 W1 w.heap.size 0 (fun _ => none) := by
    rw [← hW1]; exact (MapF.made _ _ w).below ((Below.refl (w.heap.size + 1) _).alloc (by simp) _) (Nat.lt_succ_self _)
  have hmi : MapF Tryd.prog 9 W1 (w.heap.size + 1) 0 (fun _ => none) := by
    have h := MapF.made Tryd.prog 9 (w.alloc (.map #[] 0))
    rw [hW1] at h
    simpa using h
  have htb : TbE W1 gf w.heap.size (w.heap.size + 1) 0 (pl.addrsOf []) (pl.byAddr []) (fun _ => False) :=
    ⟨_, _, fun _ => 0, fun _ => 0, hmh, hmi, by omega, Grp.empty _ _ _, Grp.empty _ _ _, fun _ _ h => absurd rfl h, fun _ h => absurd rfl h, fun _ h => absurd rfl h⟩
  have hfl1 : Blk W1 gf #[.string ⟨(pl.itext its).toArray⟩] 105 := by
    rw [← hW1, ← hgf]; exact (hfile.alloc _).alloc _
  have hb1 : Below gf w0 W1 := by
    rw [← hW1, ← hgf]; exact (hw.alloc hw.size _).alloc (by simp; have := hw.size; omega) _
  rw [hgf] at hw ⊢
  have hnl : ∀ it ∈ its, (10 : UInt8) ∉ it.1 := fun it hit => (hok it hit).nl
  have hrl : ∀ (j : Nat) W, Blk W gf #[.string ⟨(pl.itext (its.drop j)).toArray⟩] 105 → Calls Tryd.prog 83 #[.pointer (some ⟨gf, 0, none⟩)] W fun e w' =>
      e = .returned (.tuple #[.string ⟨(pl.nx (its.drop j)).1.toArray⟩, .bool (pl.nx (its.drop j)).2.1]) ∧ Hid (Blk w' gf #[.string ⟨(pl.itext (pl.nx (its.drop j)).2.2).toArray⟩] 105) ∧
      Hid (∀ B bh bi n H I X, TbE W B bh bi n H I X → TbE w' B bh bi n H I X) ∧ Hid (∀ B w1, Below B w1 W → B ≤ gf → Below B w1 w') := fun j W h =>
    rl_next gf (its.drop j) 105 W h (fun it hit => hnl it (List.mem_of_mem_drop hit)) (by
      have e : its = its.take j ++ its.drop j := (List.take_append_drop j its).symm
      have : (pl.itext its).length = (pl.itext (its.take j)).length + (pl.itext (its.drop j)).length := by
        conv => lhs; rw [e]
        unfold pl.itext
        rw [List.flatMap_append, List.length_append]
      omega) (by decide)
  have hrl0 := hrl 0 W1 hfl1
  have HRL := Lib.hid hrl
  have HRL0 := Lib.hid hrl0
  have hlens : ∀ (j m : Nat) (h : List UInt8 × List (List UInt8)), h.2.length ≤ 20 → (∀ t, (pl.iAt (pl.ihosts (its.take j)) h m t).length < 8796093022207) ∧ (∀ k, (pl.hAt (pl.ihosts (its.take j)) h m k).1.length < 8796093022207) := fun j m h hh => by
    have h20 := pl.ihosts_20 (its.take j) (fun it hit => hok it (List.mem_of_mem_take hit))
    have hn : (pl.ihosts (its.take j)).length ≤ 1000 := by
      have h1 := pl.ihosts_len (its.take j)
      have h2 := List.length_take_le' j its
      omega
    exact ⟨fun t => by have := pl.iAt_len _ h m t h20 hn hh; omega, fun k => by have := pl.hAt_len _ h m k h20 hn hh; omega⟩
  have HLENS := Lib.hid hlens
  clear hlens
  have HOK := Lib.hid hok
  have HI := Lib.hid hI
  have HTB := Lib.hid htb
  have HB1 := Lib.hid hb1
  have HGF := Lib.hid hgf
  have HGL := Lib.hid hgl
  have HS1 := Lib.hid hsz1
  clear hrl hrl0 hok hI htb hb1 hfl1 hmh hmi hnl hfile hw hgf hgl hsz1 htl
  go_enter Tryd.func64, Tryd.ntmps64
  go_wp2_with (go_at_call 83; refine HRL0.out.mono ?_; rintro e w2 ⟨rfl, HK2, HT2, HBL2⟩)
  go_loopg [5, 6] its.length (fun g lv okv wr => ∃ j : Nat, j ≤ its.length ∧ g = its.length - j ∧ lv = .string ⟨(pl.nx (its.drop j)).1.toArray⟩ ∧ okv = .bool (pl.nx (its.drop j)).2.1 ∧ Hid (Blk wr gf #[.string ⟨(pl.itext (pl.nx (its.drop j)).2.2).toArray⟩] 105) ∧
    Hid (TbE wr gf w.heap.size (w.heap.size + 1) (40 * j) (pl.addrsOf (pl.ihosts (its.take j))) (pl.byAddr (pl.ihosts (its.take j))) (fun _ => False)) ∧ Hid (Below gf w0 wr))
  case atStart => exact ⟨0, Nat.zero_le _, rfl, rfl, rfl, HK2, Lib.hid (HT2.out _ _ _ _ _ _ _ HTB.out), Lib.hid (HBL2.out _ _ HB1.out (Nat.le_refl _))⟩
  case round =>
    obtain ⟨j, hj, hgk, rfl, rfl, HK, HT, HB⟩ := hrel
    by_cases hlt : j < its.length
    · obtain ⟨it, hit⟩ : ∃ it, its[j]? = some it := ⟨_, List.getElem?_eq_getElem hlt⟩
      obtain ⟨ln, ho⟩ := it
      have hdr : its.drop j = (ln, ho) :: its.drop (j + 1) := by
        obtain ⟨h1, h2⟩ := List.getElem?_eq_some_iff.1 hit
        rw [List.drop_eq_getElem_cons h1, h2]
      have hnx : pl.nx (its.drop j) = (ln, true, its.drop (j + 1)) := by rw [hdr]; rfl
      rw [hnx] at HK ⊢
      have hok := HOK.out _ (List.mem_of_getElem? hit)
      have hih : pl.ihosts (its.take (j + 1)) = pl.ihosts (its.take j) ++ ho.toList := by
        unfold pl.ihosts
        rw [pl.take_at its j _ hit, List.filterMap_append]
        cases ho <;> rfl
      have hll : (⟨ln.toArray⟩ : ByteArray).size ≤ 4398046511104 := hok.len
      have HIT := Lib.hid hit
      have hfs := fun (S : ByteArray) (hS : S.size ≤ 4398046511104) W => fields_any S W hS
      have HFS := Lib.hid hfs
      have hrl1 := HRL.out (j + 1)
      have HRL1 := Lib.hid hrl1
      clear hdr hnx hit hfs hrl1
      rcases ho with _ | ⟨pa, pn⟩
      · have hwn := hok.no rfl
        rw [show (none : Option (List UInt8 × List (List UInt8))).toList = [] from rfl, List.append_nil] at hih
        rw [← hih] at HT
        have HIH := Lib.hid hih
        clear hih
        obtain ⟨I, hI⟩ : ∃ I, pl.idx ln 35 = I := ⟨_, rfl⟩
        by_cases hI0 : I < 0
        · have hst : pl.strip ln = ln := by unfold pl.strip; rw [hI, if_pos hI0]
          rw [hst] at hwn
          have hI0' : ¬ (0 ≤ I) := by omega
          have HII := Lib.hid hI
          have HWN := Lib.hid hwn
          have HLL := Lib.hid hll
          have hwI : ((pl.words pl.ws ln).length : Int) < 2 := by omega
          clear hst hI hwn hI0 hok
          go_wp2_with (first
            | (go_at_call 82; refine (idx_val' ⟨ln.toArray⟩ 35 I _ HII.out (by have := HLL.out; omega)).mono ?_; rintro e w3 ⟨rfl, rfl⟩)
            | (go_at_call 84; refine (HFS.out ⟨ln.toArray⟩ HLL.out _).mono ?_; rintro e w3 ⟨v3, rfl, hS3, hb3⟩; obtain ⟨a3, c3, rfl, _⟩ := hS3.form; have HK3 := Lib.hid (HK.out.below hb3 HK.out.lt); have HT3 := Lib.hid (HT.out.below hb3); have HB3 := Lib.hid (HB.out.trans (hb3.mono (Nat.le_of_lt HK.out.lt))); clear hb3 hS3)
            | (go_at_call 83; have hx0 := HK3; refine (HRL1.out _ HK3.out).mono ?_; rintro e w4 ⟨rfl, HK4, HT4, HBL4⟩))
          go_roundg (its.length - (j + 1))
          case measure => omega
          case rel => exact ⟨j + 1, by omega, rfl, rfl, rfl, HK4, Lib.hid ((HT4.out _ _ _ _ _ _ _ HT3.out).mono (by omega)), Lib.hid (HBL4.out _ _ HB3.out (Nat.le_refl _))⟩
        · obtain ⟨k, rfl⟩ : ∃ k : Nat, I = k := ⟨I.toNat, by omega⟩
          have hst : pl.strip ln = ln.take k := by unfold pl.strip; rw [hI, if_neg hI0]; rfl
          have hkl := pl.idx_lt ln 35
          rw [hI] at hkl
          have hk0 : (0 : Int) ≤ (k : Int) := by omega
          have hkL : (k : Int) ≤ ((⟨ln.toArray⟩ : ByteArray).size : Int) := by
            show (k : Int) ≤ (ln.length : Int)
            omega
          obtain ⟨S, hS⟩ : ∃ S, (⟨ln.toArray⟩ : ByteArray).extract 0 k = S := ⟨_, rfl⟩
          have hSd : S.data.toList = pl.strip ln := by rw [← hS, Lib.extract_data, hst]; simp
          have hSs : S.size ≤ 4398046511104 := by
            have h1 : S.data.toList.length = S.size := by simp
            rw [hSd, hst] at h1
            have h2 : (ln.take k).length ≤ ln.length := List.length_take_le' _ _
            have h3 : ln.length ≤ 4398046511104 := hll
            omega
          have hwS : pl.words pl.ws S.data.toList = pl.words pl.ws (pl.strip ln) := by rw [hSd]
          obtain ⟨WL, hWL⟩ : ∃ WL, pl.words pl.ws (pl.strip ln) = WL := ⟨_, rfl⟩
          have hfS := HFS.out S hSs
          rw [hwS, hWL] at hfS
          rw [hWL] at hwn
          have HFF := Lib.hid hfS
          have HII := Lib.hid hI
          have HLL := Lib.hid hll
          have hwI : (WL.length : Int) < 2 := by omega
          clear hst hI hwn hI0 hok hkl hSd hSs hwS hWL hfS hll
          go_wp2_with (first
            | (go_at_call 82; refine (idx_val' ⟨ln.toArray⟩ 35 k _ HII.out (by have := HLL.out; omega)).mono ?_; rintro e w3 ⟨rfl, rfl⟩)
            | (go_at_call 84; refine (HFF.out _).mono ?_; rintro e w3 ⟨v3, rfl, hS3, hb3⟩; obtain ⟨a3, c3, rfl, _⟩ := hS3.form; have HK3 := Lib.hid (HK.out.below hb3 HK.out.lt); have HT3 := Lib.hid (HT.out.below hb3); have HB3 := Lib.hid (HB.out.trans (hb3.mono (Nat.le_of_lt HK.out.lt))); clear hb3 hS3)
            | (go_at_call 83; have hx0 := HK3; refine (HRL1.out _ HK3.out).mono ?_; rintro e w4 ⟨rfl, HK4, HT4, HBL4⟩))
          go_roundg (its.length - (j + 1))
          case measure => omega
          case rel => exact ⟨j + 1, by omega, rfl, rfl, rfl, HK4, Lib.hid ((HT4.out _ _ _ _ _ _ _ HT3.out).mono (by omega)), Lib.hid (HBL4.out _ _ HB3.out (Nat.le_refl _))⟩
      · have hhl := hok.yes _ rfl
        obtain ⟨k, hI⟩ : ∃ k : Nat, pl.idx ln 35 = k := ⟨(pl.idx ln 35).toNat, by have hsep : 0 ≤ pl.idx ln 35 := hhl.sep; omega⟩
        have hst : pl.strip ln = ln.take k := by unfold pl.strip; rw [hI, if_neg (by omega)]; rfl
        have hkl := pl.idx_lt ln 35
        rw [hI] at hkl
        have hk0 : (0 : Int) ≤ (k : Int) := by omega
        have hkL : (k : Int) ≤ ((⟨ln.toArray⟩ : ByteArray).size : Int) := by
          show (k : Int) ≤ (ln.length : Int)
          omega
        obtain ⟨S, hS⟩ : ∃ S, (⟨ln.toArray⟩ : ByteArray).extract 0 k = S := ⟨_, rfl⟩
        have hSd : S.data.toList = pl.strip ln := by rw [← hS, Lib.extract_data, hst]; simp
        have hSs : S.size ≤ 4398046511104 := by
          have h1 : S.data.toList.length = S.size := by simp
          rw [hSd, hst] at h1
          have h2 : (ln.take k).length ≤ ln.length := List.length_take_le' _ _
          have h3 : ln.length ≤ 4398046511104 := hll
          omega
        have hwS : pl.words pl.ws S.data.toList = pa :: pn := by rw [hSd]; exact hhl.wd
        have hfS := HFS.out S hSs
        rw [hwS] at hfS
        obtain ⟨⟨b, hb0⟩, hn0, hn20, hpln⟩ := pl.hostOk_parts pa pn hhl.ok
        have hlit : pl.lit pa = pl.text b := by unfold pl.lit; rw [hb0]
        have hpal : pa.length ≤ 2147483647 := hhl.la
        have hpl := fun W (hW : Below gf w0 W) => plip_sp g4 o4 g6 o6 ⟨pa.toArray⟩ W (by show pa.length ≤ _; omega) (HI.out.below hW (by rw [← HGF.out]; exact Nat.le_refl _)) hhl.a37
        have hwI : ¬ ((pn.length : Int) + 1 < 2) := by omega
        have hle : (pl.lit pa).isEmpty = false := by
          have h1 : pl.lit pa ≠ [] := hhl.lit
          cases h2 : pl.lit pa with
          | nil => exact absurd h2 h1
          | cons a r => rfl
        have HFF := Lib.hid hfS
        have HII := Lib.hid hI
        have HLL := Lib.hid hll
        have HPL := Lib.hid hpl
        have HHL := Lib.hid hhl
        have HIH := Lib.hid hih
        have HPLN := Lib.hid hpln
        clear hst hI hok hkl hSd hSs hwS hfS hll hpl hhl hb0 hlit hih hpln hpal
        go_wp2_with (first
          | (go_at_call 82; refine (idx_val' ⟨ln.toArray⟩ 35 k _ HII.out (by have := HLL.out; omega)).mono ?_; rintro e w3 ⟨rfl, rfl⟩)
          | (go_at_call 84; refine (HFF.out _).mono ?_; rintro e w3 ⟨v3, rfl, hS3, hb3⟩; have HS3 := Lib.hid hS3; obtain ⟨a3, c3, rfl, hc3⟩ := hS3.form; obtain ⟨gF, rfl, hgF, hgF2, hcF⟩ := hc3 0 pa rfl; have HC3 := Lib.hid hc3; have HK3 := Lib.hid (HK.out.below hb3 HK.out.lt); have HT3 := Lib.hid (HT.out.avoid hb3); have HB3 := Lib.hid (HB.out.trans (hb3.mono (Nat.le_of_lt HK.out.lt))); have HSZ3 := Lib.hid hb3.size; have HGF2 := Lib.hid hgF2; have HGF3 := Lib.hid hgF; unfold pl.strV at hcF; clear hb3 hc3 hgF hgF2)
          | (go_at_call 79; refine (HPL.out _ HB3.out).mono ?_; rintro e w4 ⟨rfl, hb4⟩; have HK4 := Lib.hid (HK3.out.below hb4 HK3.out.lt); have HT4 := Lib.hid (HT3.out.below hb4); have HS4 := Lib.hid (HS3.out.below hb4); have HB4 := Lib.hid (HB3.out.trans (hb4.mono (Nat.le_of_lt HK3.out.lt))); have HSZ4 := Lib.hid hb4.size; clear hb4))
        obtain ⟨wo, rfl⟩ : ∃ wo : World, wo = wr := ⟨_, rfl⟩
        have hT4 := HT4.out.less (Y := fun x => wo.heap.size ≤ x ∧ x < w4.heap.size) (fun x hx => hx.1)
        rw [← pl.hAt_zero _ (pa, pn), ← pl.iAt_zero _ (pa, pn)] at hT4
        have HT5 := Lib.hid (hT4.mono (n' := 40 * j + 2 * 0) (by omega))
        clear hT4
        go_loopg [10, 11] pn.length (fun g cv iv wr => ∃ (m : Nat) (C : List UInt8), m ≤ pn.length ∧ g = pn.length - m ∧ iv = .int .i64 ((m : Int) + 1) ∧ cv = .string ⟨C.toArray⟩ ∧ Hid (0 < m → C = pl.absN (pl.low (pn.headD []))) ∧ Hid (Blk wr gf #[.string ⟨(pl.itext (its.drop (j + 1))).toArray⟩] 105) ∧
          Hid (TbE wr gf w.heap.size (w.heap.size + 1) (40 * j + 2 * m) (pl.hAt (pl.ihosts (its.take j)) (pa, pn) m) (pl.iAt (pl.ihosts (its.take j)) (pa, pn) m) (fun x => wo.heap.size ≤ x ∧ x < w4.heap.size)) ∧
          Hid (Strs wr gf (.slice (some ⟨gF, 0, none⟩) (pn.length + 1) c3) (pa :: pn)) ∧ Hid (Below gf w0 wr) ∧ Hid (w4.heap.size ≤ wr.heap.size))
        case atStart => exact ⟨0, [], Nat.zero_le _, rfl, rfl, rfl, Lib.hid (by omega), HK4, HT5, Lib.hid (HS4.out.mono (Nat.le_of_lt HK.out.lt)), HB4, Lib.hid (Nat.le_refl _)⟩
        case round =>
          obtain ⟨m, C, hm, hgm, rfl, rfl, HCC, HKm, HTm, HSm, HBm, HZm⟩ := hrel
          by_cases hlm : m < pn.length
          · obtain ⟨q, hq⟩ : ∃ q, pn[m]? = some q := ⟨_, List.getElem?_eq_getElem hlm⟩
            obtain ⟨aq, cq, heq, hcq⟩ := HSm.out.form
            obtain ⟨gq, haq, hgq, _, hcell⟩ := hcq (m + 1) q (by simpa using hq)
            injection heq with e1 e2 e3
            rw [haq] at e1
            injection e1 with e1
            injection e1 with e1
            subst e1
            have hql : q.length ≤ 2147483647 := HHL.out.ln q (List.mem_of_getElem? hq)
            obtain ⟨Q, hQ⟩ : ∃ Q : ByteArray, (⟨q.toArray⟩ : ByteArray) = Q := ⟨_, rfl⟩
            have hQd : Q.data.toList = q := by rw [← hQ]
            have hQs : Q.size ≤ 2147483647 := by rw [← hQ]; exact hql
            have hcell' : wr.cell? ⟨gF, m + 1, none⟩ = some (.string Q) := by rw [hcell, ← hQ]; rfl
            obtain ⟨Wc, cap, hconv, hrow, hbc, hszc⟩ := conv_to Q wr
            have habq := fun W => abs_any Q W (by omega)
            rw [hQd] at habq
            have hlab := lab_sp wr.heap.size cap Q Wc (by omega) hrow
            rw [hQd] at hlab
            have habl := fun W => abs_any ⟨(pl.low q).toArray⟩ W (by show (pl.low q).length ≤ _; rw [pl.low_len]; omega)
            have habl' : ∀ W, Calls Tryd.prog 85 #[.string ⟨(pl.low q).toArray⟩] W fun e w' => e = .returned (.string ⟨(pl.absN (pl.low q)).toArray⟩) ∧ W = w' := habl
            have hst1 := pl.iAt_succ (pl.ihosts (its.take j)) (pa, pn) m q hq
            have hst2 := pl.hAt_succ (pl.ihosts (its.take j)) (pa, pn) m q hq
            have hhd : m = 0 → pl.absN (pl.low q) = pl.absN (pl.low (pn.headD [])) := fun h0 => by
              subst h0
              cases pn with
              | nil => simp at hq
              | cons x r => simp at hq; subst hq; rfl
            obtain ⟨X, hX⟩ : ∃ X, pl.absN (pl.low q) = X := ⟨_, rfl⟩
            rw [hX] at habl' hhd hst2
            obtain ⟨N, hN⟩ : ∃ N, pl.absN q = N := ⟨_, rfl⟩
            rw [hN] at habq hst1
            obtain ⟨CC, hCC⟩ : ∃ CC, pl.absN (pl.low (pn.headD [])) = CC := ⟨_, rfl⟩
            rw [show (pa, pn).2.headD [] = pn.headD [] from rfl, hCC] at hst2
            rw [hCC] at hhd
            have HQS := Lib.hid hQs
            have HABQ := Lib.hid habq
            have HLAB := Lib.hid hlab
            have HABL := Lib.hid habl'
            have HST1 := Lib.hid hst1
            have HST2 := Lib.hid hst2
            have HBC := Lib.hid hbc
            have HSZC := Lib.hid hszc
            have HQL := Lib.hid hql
            have HQD := Lib.hid hQd
            have htsz : (⟨(pl.lit pa).toArray⟩ : ByteArray).size ≤ maxLen := by
              have h1 := pl.lit_len pa
              show (pl.lit pa).length ≤ maxLen
              unfold maxLen; omega
            have HTSZ := Lib.hid htsz
            have hxs : (⟨X.toArray⟩ : ByteArray).size ≤ maxLen := by
              have h1 := pl.absN_len (pl.low q)
              rw [pl.low_len, hX] at h1
              show X.length ≤ maxLen
              unfold maxLen; omega
            have HXS := Lib.hid hxs
            clear hxs
            have hl20 := HLENS.out j m (pa, pn) hn20
            have HLI := Lib.hid hl20.1
            have HLH := Lib.hid hl20.2
            clear hl20
            clear hcq hcell habq hlab habl habl' hst1 hst2 hbc hszc hql hQd hX hN hrow e2 e3 haq htsz hQ hQs
            have hm01 : (((m : Int) + 1 == 1) = true ∧ Hid (X = CC)) ∨ (((m : Int) + 1 == 1) = false ∧ C = CC) := by
              by_cases h0 : m = 0
              · left; exact ⟨by rw [beq_iff_eq]; omega, Lib.hid (hhd h0)⟩
              · right; exact ⟨by rw [beq_eq_false_iff_ne]; omega, by rw [HCC.out (by omega), hCC]⟩
            have HCE := Lib.hid hCC
            clear hhd hCC
            rcases hm01 with ⟨t1, hC1⟩ | ⟨t1, rfl⟩
            · have hce := hC1.out
              subst hce
              clear hC1
              go_wp2_with (first
                | (go_at_call 86; refine HLAB.out.mono ?_; rintro e w5 ⟨rfl, hR5, hb5⟩; have hbk := conv_from w5 wr.heap.size cap Q.size (pl.low q) (by rw [pl.low_len, ← HQD.out]; simp) hR5; have HB5 := Lib.hid (HBC.out.trans hb5); have HBW := Lib.hid (HBm.out.trans (HB5.out.mono (Nat.le_of_lt HKm.out.lt))); obtain ⟨fh, fi, gh, gi, hTb⟩ := HTm.out.below HB5.out; obtain ⟨cI, hSI, hvI⟩ := hTb.getI (pl.lit pa); obtain ⟨rI, hrI⟩ : ∃ rI, fi (pl.lit pa) = rI := ⟨_, rfl⟩; rw [hrI] at hSI hvI; have HSI := Lib.hid hSI; have HVI := Lib.hid hvI; have HRI := Lib.hid hrI; have HTB5 := Lib.hid hTb; have HK5 := Lib.hid (HKm.out.below HB5.out HKm.out.lt); have HS5 := Lib.hid (HSm.out.below HB5.out); clear hSI hvI hrI hTb hb5 hR5)
                | (go_at_call 85; have hx0 := HTB5; refine (HABL.out _).mono ?_; rintro e w6 ⟨rfl, rfl⟩)
                | (go_at_call 85; refine (HABQ.out _).mono ?_; rintro e w6 ⟨rfl, rfl⟩)
                | (at_lookup; refine wpList_look _ rfl _ _ 134 false rfl 9 31 Tryd.underlying9 Tryd.underlying134 (w.heap.size + 1) (40 * j + 2 * m) fi (.slice none 0 0) (zero_ss _) rfl HTB5.out.mi ⟨(pl.lit pa).toArray⟩ HTSZ.out rfl rI HRI.out ?_)
                | (at_builtin; refine app_str_at N rfl _ _ rfl rfl gf HSI.out rfl rfl (HLI.out _) (Nat.le_trans (Nat.le_of_lt HKm.out.lt) HB5.out.size) ?_))
              intro v6 w6 hv6 hg6 hp6
              rw [HVI.out] at hg6 hp6
              have hal : Below w5.heap.size w5 (w5.alloc (Obj.cells #[.string ⟨N.toArray⟩] 9)) := (Below.refl _ _).alloc (Nat.le_refl _) _
              have hp6' : v6.ownBlock = (Grp.val (pl.iAt (pl.ihosts (its.take j)) (pa, pn) m) gi (pl.lit pa) cI).ownBlock ∨ v6.ownBlock = some (w5.alloc (Obj.cells #[.string ⟨N.toArray⟩] 9)).heap.size := by simpa using hp6
              have HM6 := Lib.hid (HTB5.out.mi_grown hal (pl.lit pa) cI hg6)
              have HV6 := Lib.hid hv6
              have HG6 := Lib.hid hg6
              have HP6 := Lib.hid hp6'
              have HAL := Lib.hid hal
              have hnn : 40 * j + 2 * m < maxLen := by unfold maxLen; omega
              clear hv6 hg6 hp6 hp6' hal
              go_wp2_with (at_mapUpdate; refine wpList_put _ rfl _ _ _ 134 rfl 9 31 Tryd.underlying9 Tryd.underlying134 (w.heap.size + 1) (40 * j + 2 * m) fi rfl HM6.out hnn ⟨(pl.lit pa).toArray⟩ HTSZ.out v6 rfl rfl ?_)
              intro w7 hM7 hg7
              have hX5 : ∀ x, (wo.heap.size ≤ x ∧ x < w4.heap.size) → x < (w5.alloc (Obj.cells #[.string ⟨N.toArray⟩] 9)).heap.size := fun x hx => by
                have h1 := HZm.out
                have h2 := HB5.out.size
                have h3 := HAL.out.size
                omega
              have hT7 := HTB5.out.stepI (pl.lit pa) N cI v6 HAL.out hX5 HV6.out HG6.out HP6.out hM7 hg7
              rw [← HST1.out] at hT7
              have hFX : ∀ g, (Value.slice (some ⟨gF, 0, none⟩) (pn.length + 1) c3).ownBlock = some g → wo.heap.size ≤ g ∧ g < w4.heap.size := fun g hg => by
                simp only [Value.ownBlock, Option.some.injEq] at hg
                subst hg
                exact ⟨HGF2.out, Nat.lt_of_lt_of_le HGF3.out HSZ4.out⟩
              have hgfl : gf ≤ w5.heap.size := Nat.le_of_lt HK5.out.lt
              have hcar := carry (B := gf) (X := fun x => wo.heap.size ≤ x ∧ x < w4.heap.size) (HK5.out.alloc (Obj.cells #[.string ⟨N.toArray⟩] 9)) (by decide) (HS5.out.below HAL.out) (HBW.out.trans (HAL.out.mono hgfl)) hFX (HTB5.out.rowI HAL.out (pl.lit pa) cI) HG6.out (HTB5.out.mi.below HAL.out HTB5.out.mi.lt) (by have := HGL.out; omega) (Nat.le_trans hgfl HAL.out.size) hg7
              have hz7 : w4.heap.size ≤ w7.heap.size := by
                have h1 := HZm.out
                have h2 := HB5.out.size
                have h3 := HAL.out.size
                have h4 := HG6.out.size
                have h5 := hg7.size
                omega
              have HK7 := Lib.hid hcar.1
              have HS7 := Lib.hid hcar.2.1
              have HB7 := Lib.hid hcar.2.2
              have HZ7 := Lib.hid hz7
              have HFX := Lib.hid hFX
              obtain ⟨fh7, fi7, gh7, gi7, hTb7⟩ := hT7
              have HTB7 := Lib.hid hTb7
              clear hFX hcar hz7 hTb7 hM7 hg7 hX5 hnn
              by_cases hnew : (pl.hAt (pl.ihosts (its.take j)) (pa, pn) m X).1 = []
              · have hfh := HTB7.out.ph.no X hnew
                have HFH := Lib.hid hfh
                have HNEW := Lib.hid hnew
                clear hfh hnew
                obtain ⟨Wn, hWn⟩ : ∃ Wn, (w7.alloc (Obj.cells #[.slice none 0 0, .string ⟨#[]⟩] 137)).alloc (Obj.cells #[.string ⟨(pl.lit pa).toArray⟩] 9) = Wn := ⟨_, rfl⟩
                have hb7x : Below w7.heap.size w7 (w7.alloc (Obj.cells #[.slice none 0 0, .string ⟨#[]⟩] 137)) := (Below.refl _ _).alloc (Nat.le_refl _) _
                have hb7n : Below w7.heap.size w7 Wn := by rw [← hWn]; exact hb7x.alloc hb7x.size _
                have hszx : (w7.alloc (Obj.cells #[.slice none 0 0, .string ⟨#[]⟩] 137)).heap.size = w7.heap.size + 1 := by simp
                have hvn : Strs Wn gf (.slice (some ⟨w7.heap.size + 1, 0, none⟩) 1 1) [pl.lit pa] := by
                  have h := World.ownsRow_lit (base := gf) (e := 9) (size := 1) (w7.alloc (Obj.cells #[.slice none 0 0, .string ⟨#[]⟩] 137)) #[.string ⟨(pl.lit pa).toArray⟩] 1 (by rw [hszx]; have := HK7.out.lt; omega) (by unfold maxLen; omega) rfl
                  rw [hWn, hszx] at h
                  exact h
                have hgn : (w7.alloc (Obj.cells #[.slice none 0 0, .string ⟨#[]⟩] 137)).grownBy Wn none := by rw [← hWn]; exact World.grownBy_alloc _ _ _
                have HMN := Lib.hid (HTB7.out.mh.below hb7n HTB7.out.mh.lt)
                have HB7X := Lib.hid hb7x
                have HB7N := Lib.hid hb7n
                have HSZX := Lib.hid hszx
                have HVN := Lib.hid hvn
                have HGN := Lib.hid hgn
                have hnn : 40 * j + 2 * m + 1 < maxLen := by unfold maxLen; omega
                clear hb7x hb7n hszx hvn hgn
                go_wp2_with (first
                  | (at_lookup; refine wpList_look _ rfl _ _ 133 true rfl 9 137 Tryd.underlying9 Tryd.underlying133 w.heap.size (40 * j + 2 * m + 1) fh7 (.agg #[.slice none 0 0, .string ⟨#[]⟩]) (zero_bn _) rfl HTB7.out.mh ⟨X.toArray⟩ HXS.out rfl none HFH.out ?_)
                  | (at_mapUpdate; refine wpList_put _ rfl _ _ _ 133 rfl 9 137 Tryd.underlying9 Tryd.underlying133 w.heap.size (40 * j + 2 * m + 1) fh7 rfl HMN.out hnn ⟨X.toArray⟩ HXS.out (.agg #[.slice (some ⟨w7.heap.size + 1, 0, none⟩) 1 1, .string ⟨X.toArray⟩]) rfl rfl ?_))
                intro w8 hM8 hg8
                have hval : (Grp.val (fun k => (pl.hAt (pl.ihosts (its.take j)) (pa, pn) m k).1) gh7 X 0).ownBlock = none := by unfold Grp.val; rw [if_pos HNEW.out]; rfl
                have hX7 : ∀ x, (wo.heap.size ≤ x ∧ x < w4.heap.size) → x < (w7.alloc (Obj.cells #[.slice none 0 0, .string ⟨#[]⟩] 137)).heap.size := fun x hx => by
                  have h1 := HZ7.out
                  rw [HSZX.out]
                  omega
                have hT8 := HTB7.out.stepH X (pl.lit pa) X 0 (.slice (some ⟨w7.heap.size + 1, 0, none⟩) 1 1) HB7X.out hX7 (by rw [HNEW.out]; exact HVN.out) (by rw [hval]; exact HGN.out) (.inr (by rw [HSZX.out]; rfl)) hM8 hg8
                have hst := HST2.out
                rw [if_pos HNEW.out] at hst
                rw [← hst] at hT8
                have hgfl : gf ≤ w7.heap.size := Nat.le_of_lt HK7.out.lt
                have hcar := carry (B := gf) (X := fun x => wo.heap.size ≤ x ∧ x < w4.heap.size) (HK7.out.alloc (Obj.cells #[.slice none 0 0, .string ⟨#[]⟩] 137)) (by decide) (HS7.out.below HB7X.out) (HB7.out.trans (HB7X.out.mono hgfl)) HFX.out (.inl rfl) HGN.out (HTB7.out.mh.below HB7X.out HTB7.out.mh.lt) (by have := HGL.out; omega) (Nat.le_trans hgfl HB7X.out.size) hg8
                have hz8 : w4.heap.size ≤ w8.heap.size := by
                  have h1 := HZ7.out
                  have h2 := HB7N.out.size
                  have h3 := hg8.size
                  omega
                have HT8 := Lib.hid hT8
                have HK8 := Lib.hid hcar.1
                have HS8 := Lib.hid hcar.2.1
                have HB8 := Lib.hid hcar.2.2
                have HZ8 := Lib.hid hz8
                clear hT8 hst hcar hz8 hM8 hg8 hval hX7 hnn hWn
                go_wp2_with fail
                go_roundg (pn.length - (m + 1))
                case measure => omega
                case rel => exact ⟨m + 1, X, by omega, rfl, by go_num, rfl, Lib.hid (fun _ => HCE.out.symm), HK8, Lib.hid (HT8.out.mono (by omega)), HS8, HB8, HZ8⟩
              · obtain ⟨ch, hfh, hsh⟩ := HTB7.out.ph.yes X hnew
                unfold wrapH at hfh
                have HFH := Lib.hid hfh
                have HSH := Lib.hid hsh
                have HNEW := Lib.hid hnew
                clear hfh hnew hsh
                go_wp2_with (first
                  | (at_lookup; refine wpList_look _ rfl _ _ 133 true rfl 9 137 Tryd.underlying9 Tryd.underlying133 w.heap.size (40 * j + 2 * m + 1) fh7 (.agg #[.slice none 0 0, .string ⟨#[]⟩]) (zero_bn _) rfl HTB7.out.mh ⟨X.toArray⟩ HXS.out rfl _ HFH.out ?_))
                have hlh := HLH.out X
                obtain ⟨LX, hLX⟩ : ∃ LX, (pl.hAt (pl.ihosts (its.take j)) (pa, pn) m X).1 = LX := ⟨_, rfl⟩
                obtain ⟨CX, hCX⟩ : ∃ CX, (pl.hAt (pl.ihosts (its.take j)) (pa, pn) m X).2 = CX := ⟨_, rfl⟩
                have hnn : 40 * j + 2 * m + 1 < maxLen := by unfold maxLen; omega
                obtain ⟨Wb, hWb⟩ : ∃ Wb, w7.alloc (Obj.cells #[.slice (some ⟨gh7 X, 0, none⟩) LX.length ch, .string ⟨CX.toArray⟩] 137) = Wb := ⟨_, rfl⟩
                have hsh := HSH.out
                simp only [hLX] at hsh hlh ⊢
                simp only [hCX]
                rw [hWb]
                have hbk : Blk Wb w7.heap.size #[.slice (some ⟨gh7 X, 0, none⟩) LX.length ch, .string ⟨CX.toArray⟩] 137 := by rw [← hWb]; exact Blk.new w7 _ _
                have hszb : Wb.heap.size = w7.heap.size + 1 := by rw [← hWb]; simp
                have hbb : Below w7.heap.size w7 Wb := by rw [← hWb]; exact (Below.refl _ _).alloc (Nat.le_refl _) _
                have hal : Below w7.heap.size w7 (Wb.alloc (Obj.cells #[.string ⟨(pl.lit pa).toArray⟩] 9)).drew := (hbb.alloc hbb.size _).drew
                have hszr : (Wb.alloc (Obj.cells #[.string ⟨(pl.lit pa).toArray⟩] 9)).drew.heap.size = w7.heap.size + 2 := by simp [hszb]
                have hrow : (Wb.alloc (Obj.cells #[.string ⟨(pl.lit pa).toArray⟩] 9)).drew.cell? ⟨w7.heap.size + 1, 0, none⟩ = some (pl.strV (pl.lit pa)) := by
                  have h := (Blk.new Wb #[.string ⟨(pl.lit pa).toArray⟩] 9).cell 0
                  rw [hszb] at h
                  exact h
                have hbk2 : Blk (Wb.alloc (Obj.cells #[.string ⟨(pl.lit pa).toArray⟩] 9)).drew w7.heap.size #[.slice (some ⟨gh7 X, 0, none⟩) LX.length ch, .string ⟨CX.toArray⟩] 137 := (hbk.alloc _).drewN 1
                have hs2 : Strs (Wb.alloc (Obj.cells #[.string ⟨(pl.lit pa).toArray⟩] 9)).drew gf (.slice (some ⟨gh7 X, 0, none⟩) LX.length ch) LX := hsh.below hal
                have hval : (.slice (some ⟨gh7 X, 0, none⟩) LX.length ch : Value) = Grp.val (fun k => (pl.hAt (pl.ihosts (its.take j)) (pa, pn) m k).1) gh7 X ch := by unfold Grp.val; rw [if_neg HNEW.out]; show _ = Value.slice _ (pl.hAt (pl.ihosts (its.take j)) (pa, pn) m X).1.length ch; rw [hLX]
                have b0 : Wb.cell? ⟨w7.heap.size, 0, none⟩ = some (.slice (some ⟨gh7 X, 0, none⟩) LX.length ch) := hbk.cell 0
                have b1 : Wb.cell? ⟨w7.heap.size, 1, none⟩ = some (.string ⟨CX.toArray⟩) := hbk.cell 1
                have HAL := Lib.hid hal
                have HSZR := Lib.hid hszr
                have HROW := Lib.hid hrow
                have HBK2 := Lib.hid hbk2
                have HS2 := Lib.hid hs2
                have HVAL := Lib.hid hval
                have HLX := Lib.hid hLX
                have HCX := Lib.hid hCX
                have HLH2 := Lib.hid hlh
                have HGS : Hid (gf ≤ (Wb.alloc (Obj.cells #[.string ⟨(pl.lit pa).toArray⟩] 9)).drew.heap.size) := Lib.hid (by rw [hszr]; have := HK7.out.lt; omega)
                clear hsh hlh hbk hbb hal hszr hrow hbk2 hs2 hval hWb
                go_region_law (first
                  | (refine step_app1 (pl.lit pa) rfl _ _ rfl rfl gf HS2.out (w7.heap.size + 1) rfl HROW.out HLH2.out HGS.out ?_; intro v9 w9 hv9 hg9 hp9; have hbk9 := HBK2.out.grown HS2.out (by decide) hg9; have c90 : w9.cell? ⟨w7.heap.size, 0, none⟩ = some (.slice (some ⟨gh7 X, 0, none⟩) LX.length ch) := hbk9.cell 0; have c91 : w9.cell? ⟨w7.heap.size, 1, none⟩ = some (.string ⟨CX.toArray⟩) := hbk9.cell 1; rw [HVAL.out] at hg9 hp9; have hm9 := HTB7.out.mh_grown HAL.out X ch hg9; have hv9f := hv9; obtain ⟨a9, c9, rfl, _⟩ := hv9f.form; obtain ⟨n9, hn9⟩ : ∃ n9, (LX ++ [pl.lit pa]).length = n9 := ⟨_, rfl⟩; rw [hn9] at hv9 hp9 ⊢; obtain ⟨w10, hrun10, hM10, hg10⟩ := hm9.put (t := 133) (e := 137) Tryd.underlying9 Tryd.underlying133 hnn ⟨X.toArray⟩ HXS.out (.agg #[.slice a9 n9 c9, .string ⟨CX.toArray⟩]); have HV9 := Lib.hid hv9; have HG9 := Lib.hid hg9; have HP9 := Lib.hid hp9; have HM10 := Lib.hid hM10; have HG10 := Lib.hid hg10; clear hv9 hg9 hp9 hM10 hg10 hn9 hm9 hv9f hbk9))
                all_goals
                  have hX7 : ∀ x, (wo.heap.size ≤ x ∧ x < w4.heap.size) → x < (Wb.alloc (Obj.cells #[.string ⟨(pl.lit pa).toArray⟩] 9)).drew.heap.size := fun x hx => by
                    have h1 := HZ7.out
                    rw [HSZR.out]
                    omega
                  have hT8 := HTB7.out.stepH X (pl.lit pa) CX ch _ HAL.out hX7 (by rw [HLX.out]; exact HV9.out) HG9.out HP9.out HM10.out HG10.out
                  have hst := HST2.out
                  rw [if_neg HNEW.out, HCX.out] at hst
                  rw [← hst] at hT8
                  have hgfl : gf ≤ w7.heap.size := Nat.le_of_lt HK7.out.lt
                  have hcar := carry (B := gf) (X := fun x => wo.heap.size ≤ x ∧ x < w4.heap.size) (HK7.out.below HAL.out HK7.out.lt) (by decide) (HS7.out.below HAL.out) (HB7.out.trans (HAL.out.mono hgfl)) HFX.out (HTB7.out.rowH HAL.out X ch) HG9.out (HTB7.out.mh.below HAL.out HTB7.out.mh.lt) (by have := HGL.out; omega) HGS.out HG10.out
                  have hz8 : w4.heap.size ≤ w10.heap.size := by
                    have h1 := HZ7.out
                    have h2 := HAL.out.size
                    have h3 := HG9.out.size
                    have h4 := HG10.out.size
                    omega
                  have HT8 := Lib.hid hT8
                  have HK8 := Lib.hid hcar.1
                  have HS8 := Lib.hid hcar.2.1
                  have HB8 := Lib.hid hcar.2.2
                  have HZ8 := Lib.hid hz8
                  clear hT8 hst hcar hz8 hX7 hnn hrun10
                  go_wp2_with fail
                  go_roundg (pn.length - (m + 1))
                  case measure => omega
                  case rel => exact ⟨m + 1, X, by omega, rfl, by go_num, rfl, Lib.hid (fun _ => HCE.out.symm), HK8, Lib.hid (HT8.out.mono (by omega)), HS8, HB8, HZ8⟩
            · go_wp2_with (first
                | (go_at_call 86; refine HLAB.out.mono ?_; rintro e w5 ⟨rfl, hR5, hb5⟩; have hbk := conv_from w5 wr.heap.size cap Q.size (pl.low q) (by rw [pl.low_len, ← HQD.out]; simp) hR5; have HB5 := Lib.hid (HBC.out.trans hb5); have HBW := Lib.hid (HBm.out.trans (HB5.out.mono (Nat.le_of_lt HKm.out.lt))); obtain ⟨fh, fi, gh, gi, hTb⟩ := HTm.out.below HB5.out; obtain ⟨cI, hSI, hvI⟩ := hTb.getI (pl.lit pa); obtain ⟨rI, hrI⟩ : ∃ rI, fi (pl.lit pa) = rI := ⟨_, rfl⟩; rw [hrI] at hSI hvI; have HSI := Lib.hid hSI; have HVI := Lib.hid hvI; have HRI := Lib.hid hrI; have HTB5 := Lib.hid hTb; have HK5 := Lib.hid (HKm.out.below HB5.out HKm.out.lt); have HS5 := Lib.hid (HSm.out.below HB5.out); clear hSI hvI hrI hTb hb5 hR5)
                | (go_at_call 85; have hx0 := HTB5; refine (HABL.out _).mono ?_; rintro e w6 ⟨rfl, rfl⟩)
                | (go_at_call 85; refine (HABQ.out _).mono ?_; rintro e w6 ⟨rfl, rfl⟩)
                | (at_lookup; refine wpList_look _ rfl _ _ 134 false rfl 9 31 Tryd.underlying9 Tryd.underlying134 (w.heap.size + 1) (40 * j + 2 * m) fi (.slice none 0 0) (zero_ss _) rfl HTB5.out.mi ⟨(pl.lit pa).toArray⟩ HTSZ.out rfl rI HRI.out ?_)
                | (at_builtin; refine app_str_at N rfl _ _ rfl rfl gf HSI.out rfl rfl (HLI.out _) (Nat.le_trans (Nat.le_of_lt HKm.out.lt) HB5.out.size) ?_))
              intro v6 w6 hv6 hg6 hp6
              rw [HVI.out] at hg6 hp6
              have hal : Below w5.heap.size w5 (w5.alloc (Obj.cells #[.string ⟨N.toArray⟩] 9)) := (Below.refl _ _).alloc (Nat.le_refl _) _
              have hp6' : v6.ownBlock = (Grp.val (pl.iAt (pl.ihosts (its.take j)) (pa, pn) m) gi (pl.lit pa) cI).ownBlock ∨ v6.ownBlock = some (w5.alloc (Obj.cells #[.string ⟨N.toArray⟩] 9)).heap.size := by simpa using hp6
              have HM6 := Lib.hid (HTB5.out.mi_grown hal (pl.lit pa) cI hg6)
              have HV6 := Lib.hid hv6
              have HG6 := Lib.hid hg6
              have HP6 := Lib.hid hp6'
              have HAL := Lib.hid hal
              have hnn : 40 * j + 2 * m < maxLen := by unfold maxLen; omega
              clear hv6 hg6 hp6 hp6' hal
              go_wp2_with (at_mapUpdate; refine wpList_put _ rfl _ _ _ 134 rfl 9 31 Tryd.underlying9 Tryd.underlying134 (w.heap.size + 1) (40 * j + 2 * m) fi rfl HM6.out hnn ⟨(pl.lit pa).toArray⟩ HTSZ.out v6 rfl rfl ?_)
              intro w7 hM7 hg7
              have hX5 : ∀ x, (wo.heap.size ≤ x ∧ x < w4.heap.size) → x < (w5.alloc (Obj.cells #[.string ⟨N.toArray⟩] 9)).heap.size := fun x hx => by
                have h1 := HZm.out
                have h2 := HB5.out.size
                have h3 := HAL.out.size
                omega
              have hT7 := HTB5.out.stepI (pl.lit pa) N cI v6 HAL.out hX5 HV6.out HG6.out HP6.out hM7 hg7
              rw [← HST1.out] at hT7
              have hFX : ∀ g, (Value.slice (some ⟨gF, 0, none⟩) (pn.length + 1) c3).ownBlock = some g → wo.heap.size ≤ g ∧ g < w4.heap.size := fun g hg => by
                simp only [Value.ownBlock, Option.some.injEq] at hg
                subst hg
                exact ⟨HGF2.out, Nat.lt_of_lt_of_le HGF3.out HSZ4.out⟩
              have hgfl : gf ≤ w5.heap.size := Nat.le_of_lt HK5.out.lt
              have hcar := carry (B := gf) (X := fun x => wo.heap.size ≤ x ∧ x < w4.heap.size) (HK5.out.alloc (Obj.cells #[.string ⟨N.toArray⟩] 9)) (by decide) (HS5.out.below HAL.out) (HBW.out.trans (HAL.out.mono hgfl)) hFX (HTB5.out.rowI HAL.out (pl.lit pa) cI) HG6.out (HTB5.out.mi.below HAL.out HTB5.out.mi.lt) (by have := HGL.out; omega) (Nat.le_trans hgfl HAL.out.size) hg7
              have hz7 : w4.heap.size ≤ w7.heap.size := by
                have h1 := HZm.out
                have h2 := HB5.out.size
                have h3 := HAL.out.size
                have h4 := HG6.out.size
                have h5 := hg7.size
                omega
              have HK7 := Lib.hid hcar.1
              have HS7 := Lib.hid hcar.2.1
              have HB7 := Lib.hid hcar.2.2
              have HZ7 := Lib.hid hz7
              have HFX := Lib.hid hFX
              obtain ⟨fh7, fi7, gh7, gi7, hTb7⟩ := hT7
              have HTB7 := Lib.hid hTb7
              clear hFX hcar hz7 hTb7 hM7 hg7 hX5 hnn
              by_cases hnew : (pl.hAt (pl.ihosts (its.take j)) (pa, pn) m X).1 = []
              · have hfh := HTB7.out.ph.no X hnew
                have HFH := Lib.hid hfh
                have HNEW := Lib.hid hnew
                clear hfh hnew
                obtain ⟨Wn, hWn⟩ : ∃ Wn, (w7.alloc (Obj.cells #[.slice none 0 0, .string ⟨#[]⟩] 137)).alloc (Obj.cells #[.string ⟨(pl.lit pa).toArray⟩] 9) = Wn := ⟨_, rfl⟩
                have hb7x : Below w7.heap.size w7 (w7.alloc (Obj.cells #[.slice none 0 0, .string ⟨#[]⟩] 137)) := (Below.refl _ _).alloc (Nat.le_refl _) _
                have hb7n : Below w7.heap.size w7 Wn := by rw [← hWn]; exact hb7x.alloc hb7x.size _
                have hszx : (w7.alloc (Obj.cells #[.slice none 0 0, .string ⟨#[]⟩] 137)).heap.size = w7.heap.size + 1 := by simp
                have hvn : Strs Wn gf (.slice (some ⟨w7.heap.size + 1, 0, none⟩) 1 1) [pl.lit pa] := by
                  have h := World.ownsRow_lit (base := gf) (e := 9) (size := 1) (w7.alloc (Obj.cells #[.slice none 0 0, .string ⟨#[]⟩] 137)) #[.string ⟨(pl.lit pa).toArray⟩] 1 (by rw [hszx]; have := HK7.out.lt; omega) (by unfold maxLen; omega) rfl
                  rw [hWn, hszx] at h
                  exact h
                have hgn : (w7.alloc (Obj.cells #[.slice none 0 0, .string ⟨#[]⟩] 137)).grownBy Wn none := by rw [← hWn]; exact World.grownBy_alloc _ _ _
                have HMN := Lib.hid (HTB7.out.mh.below hb7n HTB7.out.mh.lt)
                have HB7X := Lib.hid hb7x
                have HB7N := Lib.hid hb7n
                have HSZX := Lib.hid hszx
                have HVN := Lib.hid hvn
                have HGN := Lib.hid hgn
                have hnn : 40 * j + 2 * m + 1 < maxLen := by unfold maxLen; omega
                clear hb7x hb7n hszx hvn hgn
                go_wp2_with (first
                  | (at_lookup; refine wpList_look _ rfl _ _ 133 true rfl 9 137 Tryd.underlying9 Tryd.underlying133 w.heap.size (40 * j + 2 * m + 1) fh7 (.agg #[.slice none 0 0, .string ⟨#[]⟩]) (zero_bn _) rfl HTB7.out.mh ⟨X.toArray⟩ HXS.out rfl none HFH.out ?_)
                  | (at_mapUpdate; refine wpList_put _ rfl _ _ _ 133 rfl 9 137 Tryd.underlying9 Tryd.underlying133 w.heap.size (40 * j + 2 * m + 1) fh7 rfl HMN.out hnn ⟨X.toArray⟩ HXS.out (.agg #[.slice (some ⟨w7.heap.size + 1, 0, none⟩) 1 1, .string ⟨C.toArray⟩]) rfl rfl ?_))
                intro w8 hM8 hg8
                have hval : (Grp.val (fun k => (pl.hAt (pl.ihosts (its.take j)) (pa, pn) m k).1) gh7 X 0).ownBlock = none := by unfold Grp.val; rw [if_pos HNEW.out]; rfl
                have hX7 : ∀ x, (wo.heap.size ≤ x ∧ x < w4.heap.size) → x < (w7.alloc (Obj.cells #[.slice none 0 0, .string ⟨#[]⟩] 137)).heap.size := fun x hx => by
                  have h1 := HZ7.out
                  rw [HSZX.out]
                  omega
                have hT8 := HTB7.out.stepH X (pl.lit pa) C 0 (.slice (some ⟨w7.heap.size + 1, 0, none⟩) 1 1) HB7X.out hX7 (by rw [HNEW.out]; exact HVN.out) (by rw [hval]; exact HGN.out) (.inr (by rw [HSZX.out]; rfl)) hM8 hg8
                have hst := HST2.out
                rw [if_pos HNEW.out] at hst
                rw [← hst] at hT8
                have hgfl : gf ≤ w7.heap.size := Nat.le_of_lt HK7.out.lt
                have hcar := carry (B := gf) (X := fun x => wo.heap.size ≤ x ∧ x < w4.heap.size) (HK7.out.alloc (Obj.cells #[.slice none 0 0, .string ⟨#[]⟩] 137)) (by decide) (HS7.out.below HB7X.out) (HB7.out.trans (HB7X.out.mono hgfl)) HFX.out (.inl rfl) HGN.out (HTB7.out.mh.below HB7X.out HTB7.out.mh.lt) (by have := HGL.out; omega) (Nat.le_trans hgfl HB7X.out.size) hg8
                have hz8 : w4.heap.size ≤ w8.heap.size := by
                  have h1 := HZ7.out
                  have h2 := HB7N.out.size
                  have h3 := hg8.size
                  omega
                have HT8 := Lib.hid hT8
                have HK8 := Lib.hid hcar.1
                have HS8 := Lib.hid hcar.2.1
                have HB8 := Lib.hid hcar.2.2
                have HZ8 := Lib.hid hz8
                clear hT8 hst hcar hz8 hM8 hg8 hval hX7 hnn hWn
                go_wp2_with fail
                go_roundg (pn.length - (m + 1))
                case measure => omega
                case rel => exact ⟨m + 1, C, by omega, rfl, by go_num, rfl, Lib.hid (fun _ => HCE.out.symm), HK8, Lib.hid (HT8.out.mono (by omega)), HS8, HB8, HZ8⟩
              · obtain ⟨ch, hfh, hsh⟩ := HTB7.out.ph.yes X hnew
                unfold wrapH at hfh
                have HFH := Lib.hid hfh
                have HSH := Lib.hid hsh
                have HNEW := Lib.hid hnew
                clear hfh hnew hsh
                go_wp2_with (first
                  | (at_lookup; refine wpList_look _ rfl _ _ 133 true rfl 9 137 Tryd.underlying9 Tryd.underlying133 w.heap.size (40 * j + 2 * m + 1) fh7 (.agg #[.slice none 0 0, .string ⟨#[]⟩]) (zero_bn _) rfl HTB7.out.mh ⟨X.toArray⟩ HXS.out rfl _ HFH.out ?_))
                have hlh := HLH.out X
                obtain ⟨LX, hLX⟩ : ∃ LX, (pl.hAt (pl.ihosts (its.take j)) (pa, pn) m X).1 = LX := ⟨_, rfl⟩
                obtain ⟨CX, hCX⟩ : ∃ CX, (pl.hAt (pl.ihosts (its.take j)) (pa, pn) m X).2 = CX := ⟨_, rfl⟩
                have hnn : 40 * j + 2 * m + 1 < maxLen := by unfold maxLen; omega
                obtain ⟨Wb, hWb⟩ : ∃ Wb, w7.alloc (Obj.cells #[.slice (some ⟨gh7 X, 0, none⟩) LX.length ch, .string ⟨CX.toArray⟩] 137) = Wb := ⟨_, rfl⟩
                have hsh := HSH.out
                simp only [hLX] at hsh hlh ⊢
                simp only [hCX]
                rw [hWb]
                have hbk : Blk Wb w7.heap.size #[.slice (some ⟨gh7 X, 0, none⟩) LX.length ch, .string ⟨CX.toArray⟩] 137 := by rw [← hWb]; exact Blk.new w7 _ _
                have hszb : Wb.heap.size = w7.heap.size + 1 := by rw [← hWb]; simp
                have hbb : Below w7.heap.size w7 Wb := by rw [← hWb]; exact (Below.refl _ _).alloc (Nat.le_refl _) _
                have hal : Below w7.heap.size w7 (Wb.alloc (Obj.cells #[.string ⟨(pl.lit pa).toArray⟩] 9)).drew := (hbb.alloc hbb.size _).drew
                have hszr : (Wb.alloc (Obj.cells #[.string ⟨(pl.lit pa).toArray⟩] 9)).drew.heap.size = w7.heap.size + 2 := by simp [hszb]
                have hrow : (Wb.alloc (Obj.cells #[.string ⟨(pl.lit pa).toArray⟩] 9)).drew.cell? ⟨w7.heap.size + 1, 0, none⟩ = some (pl.strV (pl.lit pa)) := by
                  have h := (Blk.new Wb #[.string ⟨(pl.lit pa).toArray⟩] 9).cell 0
                  rw [hszb] at h
                  exact h
                have hbk2 : Blk (Wb.alloc (Obj.cells #[.string ⟨(pl.lit pa).toArray⟩] 9)).drew w7.heap.size #[.slice (some ⟨gh7 X, 0, none⟩) LX.length ch, .string ⟨CX.toArray⟩] 137 := (hbk.alloc _).drewN 1
                have hs2 : Strs (Wb.alloc (Obj.cells #[.string ⟨(pl.lit pa).toArray⟩] 9)).drew gf (.slice (some ⟨gh7 X, 0, none⟩) LX.length ch) LX := hsh.below hal
                have hval : (.slice (some ⟨gh7 X, 0, none⟩) LX.length ch : Value) = Grp.val (fun k => (pl.hAt (pl.ihosts (its.take j)) (pa, pn) m k).1) gh7 X ch := by unfold Grp.val; rw [if_neg HNEW.out]; show _ = Value.slice _ (pl.hAt (pl.ihosts (its.take j)) (pa, pn) m X).1.length ch; rw [hLX]
                have b0 : Wb.cell? ⟨w7.heap.size, 0, none⟩ = some (.slice (some ⟨gh7 X, 0, none⟩) LX.length ch) := hbk.cell 0
                have b1 : Wb.cell? ⟨w7.heap.size, 1, none⟩ = some (.string ⟨CX.toArray⟩) := hbk.cell 1
                have HAL := Lib.hid hal
                have HSZR := Lib.hid hszr
                have HROW := Lib.hid hrow
                have HBK2 := Lib.hid hbk2
                have HS2 := Lib.hid hs2
                have HVAL := Lib.hid hval
                have HLX := Lib.hid hLX
                have HCX := Lib.hid hCX
                have HLH2 := Lib.hid hlh
                have HGS : Hid (gf ≤ (Wb.alloc (Obj.cells #[.string ⟨(pl.lit pa).toArray⟩] 9)).drew.heap.size) := Lib.hid (by rw [hszr]; have := HK7.out.lt; omega)
                clear hsh hlh hbk hbb hal hszr hrow hbk2 hs2 hval hWb
                go_region_law (first
                  | (refine step_app1 (pl.lit pa) rfl _ _ rfl rfl gf HS2.out (w7.heap.size + 1) rfl HROW.out HLH2.out HGS.out ?_; intro v9 w9 hv9 hg9 hp9; have hbk9 := HBK2.out.grown HS2.out (by decide) hg9; have c90 : w9.cell? ⟨w7.heap.size, 0, none⟩ = some (.slice (some ⟨gh7 X, 0, none⟩) LX.length ch) := hbk9.cell 0; have c91 : w9.cell? ⟨w7.heap.size, 1, none⟩ = some (.string ⟨CX.toArray⟩) := hbk9.cell 1; rw [HVAL.out] at hg9 hp9; have hm9 := HTB7.out.mh_grown HAL.out X ch hg9; have hv9f := hv9; obtain ⟨a9, c9, rfl, _⟩ := hv9f.form; obtain ⟨n9, hn9⟩ : ∃ n9, (LX ++ [pl.lit pa]).length = n9 := ⟨_, rfl⟩; rw [hn9] at hv9 hp9 ⊢; obtain ⟨w10, hrun10, hM10, hg10⟩ := hm9.put (t := 133) (e := 137) Tryd.underlying9 Tryd.underlying133 hnn ⟨X.toArray⟩ HXS.out (.agg #[.slice a9 n9 c9, .string ⟨CX.toArray⟩]); have HV9 := Lib.hid hv9; have HG9 := Lib.hid hg9; have HP9 := Lib.hid hp9; have HM10 := Lib.hid hM10; have HG10 := Lib.hid hg10; clear hv9 hg9 hp9 hM10 hg10 hn9 hm9 hv9f hbk9))
                all_goals
                  have hX7 : ∀ x, (wo.heap.size ≤ x ∧ x < w4.heap.size) → x < (Wb.alloc (Obj.cells #[.string ⟨(pl.lit pa).toArray⟩] 9)).drew.heap.size := fun x hx => by
                    have h1 := HZ7.out
                    rw [HSZR.out]
                    omega
                  have hT8 := HTB7.out.stepH X (pl.lit pa) CX ch _ HAL.out hX7 (by rw [HLX.out]; exact HV9.out) HG9.out HP9.out HM10.out HG10.out
                  have hst := HST2.out
                  rw [if_neg HNEW.out, HCX.out] at hst
                  rw [← hst] at hT8
                  have hgfl : gf ≤ w7.heap.size := Nat.le_of_lt HK7.out.lt
                  have hcar := carry (B := gf) (X := fun x => wo.heap.size ≤ x ∧ x < w4.heap.size) (HK7.out.below HAL.out HK7.out.lt) (by decide) (HS7.out.below HAL.out) (HB7.out.trans (HAL.out.mono hgfl)) HFX.out (HTB7.out.rowH HAL.out X ch) HG9.out (HTB7.out.mh.below HAL.out HTB7.out.mh.lt) (by have := HGL.out; omega) HGS.out HG10.out
                  have hz8 : w4.heap.size ≤ w10.heap.size := by
                    have h1 := HZ7.out
                    have h2 := HAL.out.size
                    have h3 := HG9.out.size
                    have h4 := HG10.out.size
                    omega
                  have HT8 := Lib.hid hT8
                  have HK8 := Lib.hid hcar.1
                  have HS8 := Lib.hid hcar.2.1
                  have HB8 := Lib.hid hcar.2.2
                  have HZ8 := Lib.hid hz8
                  clear hT8 hst hcar hz8 hX7 hnn hrun10
                  go_wp2_with fail
                  go_roundg (pn.length - (m + 1))
                  case measure => omega
                  case rel => exact ⟨m + 1, C, by omega, rfl, by go_num, rfl, Lib.hid (fun _ => HCE.out.symm), HK8, Lib.hid (HT8.out.mono (by omega)), HS8, HB8, HZ8⟩
          · have hme : m = pn.length := by omega
            have hT9 := HTm.out.free
            rw [pl.hAt_end _ (pa, pn) m (by show pn.length ≤ m; omega), pl.iAt_end _ (pa, pn) m (by show pn.length ≤ m; omega)] at hT9
            have hih := HIH.out
            rw [show (some (pa, pn) : Option (List UInt8 × List (List UInt8))).toList = [(pa, pn)] from rfl] at hih
            rw [← hih] at hT9
            have HT9 := Lib.hid hT9
            have hm40 : 40 * j + 2 * m ≤ 40 * (j + 1) := by omega
            clear hT9 hih
            go_wp2_with (go_at_call 83; refine (HRL1.out _ HKm.out).mono ?_; rintro e w9 ⟨rfl, HK9, HT10, HBL9⟩)
            go_roundg (its.length - (j + 1))
            case measure => omega
            case rel => exact ⟨j + 1, by omega, rfl, rfl, rfl, HK9, Lib.hid ((HT10.out _ _ _ _ _ _ _ HT9.out).mono hm40), Lib.hid (HBL9.out _ _ HBm.out (Nat.le_refl _))⟩
    · have hje : j = its.length := by omega
      have hdr : its.drop j = [] := List.drop_eq_nil_of_le (by omega)
      have htk : its.take j = its := List.take_of_length_le (by omega)
      have hnx : pl.nx (its.drop j) = ([], false, []) := by rw [hdr]; rfl
      rw [hnx] at HK ⊢
      rw [htk] at HT
      clear hdr htk hnx
      go_wp2_with fail
      go_ret
      have hbl : Below wr.heap.size wr (wr.alloc (Obj.cells #[.map (some w.heap.size), .map (some (w.heap.size + 1))] 140)) := (Below.refl _ _).alloc (Nat.le_refl _) _
      exact ⟨_, _, _, _, rfl, Lib.hid (Blk.new wr _ _), Lib.hid (by rw [HGF.out]; exact HT.out.below hbl), Lib.hid (by rw [HGF.out]; exact HB.out.trans (hbl.mono (Nat.le_of_lt HK.out.lt)))⟩

end Go.Proofs.YtfkohahlpfejbaaDoor
