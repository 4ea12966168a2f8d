/-
  WALK: spec.AddrsOf.
-/
import Derived.Test.YtfkohahlpfejbaaDoorNamesOf
namespace Go.Proofs.YtfkohahlpfejbaaDoor
open Go.RowKit

/-- one name of a line: the addresses so far, and the first name of the first line that has it -/
def pl.stepA (key : List UInt8) (h : List UInt8 × List (List UInt8)) (st : List (List UInt8) × List UInt8) (n : List UInt8) : List (List UInt8) × List UInt8 :=
  if pl.absN (pl.low n) = key then (st.1 ++ [pl.lit h.1], if st.1 = [] then pl.absN (pl.low (h.2.headD [])) else st.2) else st
def pl.lineA (key : List UInt8) (st : List (List UInt8) × List UInt8) (h : List UInt8 × List (List UInt8)) : List (List UInt8) × List UInt8 := h.2.foldl (pl.stepA key h) st
def pl.addrsOf (l : HostL) (key : List UInt8) : List (List UInt8) × List UInt8 := l.foldl (pl.lineA key) ([], [])

theorem low_is (p : List UInt8) (hs : p.length ≤ 2147483647) (w : World) :
    Calls Tryd.prog 48 #[.string ⟨p.toArray⟩] w fun e w' => e = .returned (.string ⟨(pl.low p).toArray⟩) ∧ Hid (Below w.heap.size w w') :=
  (low_sp ⟨p.toArray⟩ w (by show p.length ≤ _; omega)).mono fun e w' ⟨h1, h2⟩ => ⟨h1, Lib.hid h2⟩
theorem pl.low_len (p : List UInt8) : (pl.low p).length = p.length := by simp [pl.low]

/-- A block that is no row of strings stays behind an append to such a row. -/
theorem Blk.grown {w w' : World} {gb B : Nat} {arr : Array Value} {ty : TypeId} {v : Value} {l : List (List UInt8)} (h : Blk w gb arr ty) (hS : Strs w B v l) (hty : ty ≠ 9) (hg : w.grownBy w' v.ownBlock) : Blk w' gb arr ty := by
  refine h.keep (hg.block gb h.lt ?_)
  rcases hS.2 with ⟨rfl, _⟩ | ⟨g, cap, cur, rfl, _, hh, _⟩
  · simp [Value.ownBlock]
  · intro e
    simp only [Value.ownBlock, Option.some.injEq] at e
    subst e
    unfold Blk at h
    rw [h] at hh
    simp only [Option.some.injEq, Obj.cells.injEq] at hh
    exact hty hh.2.1

theorem pl.stepA_len (key : List UInt8) (h : List UInt8 × List (List UInt8)) (st : List (List UInt8) × List UInt8) (n : List UInt8) : (pl.stepA key h st n).1.length ≤ st.1.length + 1 := by
  unfold pl.stepA
  split
  · simp
  · omega

set_option maxRecDepth 100000 in
set_option maxHeartbeats 8000000 in
theorem addrs_sp (v : Value) (l : HostL) (nm : List UInt8) (w : World) (hv : RdH w v l) (hf : FitL l) (hok : l.all pl.hostOk = true) (hl : l.length ≤ 100) (hnm : nm.length ≤ 2147483647) :
    Calls Tryd.prog 22 #[v, .string ⟨nm.toArray⟩] w fun e w' => ∃ v', e = .returned (.tuple #[v', .string ⟨(pl.addrsOf l (pl.absN (pl.low nm))).2.toArray⟩]) ∧ Hid (Strs w' w.heap.size v' (pl.addrsOf l (pl.absN (pl.low nm))).1) ∧ Hid (Below w.heap.size w w') := by
  obtain ⟨a, cap, rfl, hc⟩ := hv
  rw [List.all_eq_true] at hok
  have hok' : ∀ (k : Nat) (p : List UInt8 × List (List UInt8)), l[k]? = some p → pl.hostOk p = true := fun k p hp => hok p (List.mem_of_getElem? hp)
  have hlow := fun W => low_is nm hnm W
  have habs := fun W => abs_is (pl.low nm) (by rw [pl.low_len]; exact hnm) W
  obtain ⟨K, hK⟩ : ∃ K, pl.absN (pl.low nm) = K := ⟨_, rfl⟩
  rw [hK] at habs ⊢
  obtain ⟨LN, hLN⟩ : ∃ LN, pl.low nm = LN := ⟨_, rfl⟩
  rw [hLN] at hlow habs
  have HC := Lib.hid hc
  have HLOW := Lib.hid hlow
  have HABS := Lib.hid habs
  have HOK := Lib.hid hok'
  have HFI := Lib.hid hf
  clear hc hlow habs hok hok' hf hnm hK hLN
  go_enter Tryd.func22, Tryd.ntmps22
  go_wp2_with fail
  go_loopw [4, 5, 14] (fun out cn i wr => ∃ (k : Nat) (L : List (List UInt8)) (C : List UInt8), k ≤ l.length ∧ i = .int .i64 k ∧ cn = .string ⟨C.toArray⟩ ∧ Strs wr w.heap.size out L ∧ Hid (pl.addrsOf (l.take k) K = (L, C)) ∧ L.length ≤ k * 20 ∧ Below w.heap.size w wr) (fun _ _ i _ => l.length - (intOf i).toNat)
  case atStart => exact ⟨0, [], [], Nat.zero_le _, rfl, rfl, Strs.nil _ _, Lib.hid rfl, by simp, Below.refl _ _⟩
  case round =>
    obtain ⟨k, L, C, hk, rfl, rfl, hown, HST, hlen, hb⟩ := hrel
    by_cases hlt : k < l.length
    · obtain ⟨p, hp⟩ : ∃ p, l[k]? = some p := ⟨_, List.getElem?_eq_getElem hlt⟩
      obtain ⟨pa, pn⟩ := p
      obtain ⟨ga, oa, vn, rfl, hga, hcell, hcell2, hrd⟩ := HC.out k (pa, pn) hp
      have hc1 : wr.cell? ⟨ga, oa + k * 2, none⟩ = some (pl.strV pa) := by rw [below_cell hb _ _ hga]; exact hcell
      have hc2 : wr.cell? ⟨ga, oa + k * 2 + 1, none⟩ = some vn := by rw [below_cell hb _ _ hga]; exact hcell2
      obtain ⟨hpa, hpn⟩ := HFI.out k (pa, pn) hp
      obtain ⟨⟨b, hb0⟩, hn0, hn20, _⟩ := pl.hostOk_parts pa pn (HOK.out k _ hp)
      obtain ⟨an, cn, rfl, _, _, hnc⟩ := hrd
      have hpa' : pa.length ≤ 2147483647 := hpa
      have had2 := fun W => addr_some pa b (by omega) hb0 W
      have hbl := pl.addr_len _ _ hb0
      have htx := fun v W (hr : Reads W v b) => text_reads v b W hbl hr W (Below.refl _ _)
      have hlit : pl.lit pa = pl.text b := by unfold pl.lit; rw [hb0]
      have HAD := Lib.hid had2
      have HTX := Lib.hid htx
      have HLIT := Lib.hid hlit
      have HNC := Lib.hid hnc
      have HPN := Lib.hid hpn
      have HP := Lib.hid hp
      have HB := Lib.hid hb
      have HN0 := Lib.hid hn0
      have hown' := hown
      obtain ⟨ao, co, rfl, _⟩ := hown'.form
      have hbox : Blk (wr.alloc (Obj.cells #[.string ⟨pa.toArray⟩, .slice an pn.length cn] 68)) wr.heap.size #[.string ⟨pa.toArray⟩, .slice an pn.length cn] 68 := Blk.new wr _ _
      have HBOX := Lib.hid hbox
      have hob : Strs (wr.alloc (Obj.cells #[.string ⟨pa.toArray⟩, .slice an pn.length cn] 68)) w.heap.size (.slice ao L.length co) L := hown.below ((Below.refl _ _).alloc (Nat.le_refl _) _)
      have hbb : Below w.heap.size w (wr.alloc (Obj.cells #[.string ⟨pa.toArray⟩, .slice an pn.length cn] 68)) := hb.alloc hb.size _
      have HOB := Lib.hid hob
      have HBB := Lib.hid hbb
      unfold pl.strV at hc1
      dsimp only at hc2
      clear had2 htx hlit hnc hpn hp hcell hcell2 hpa hb0 hown hown' hn0 hbox hob hbb hb
      go_wp2_with fail
      obtain ⟨wo, rfl⟩ : ∃ wo : World, wo = wr := ⟨_, rfl⟩
      have h1 := HBB.out
      have h2 := HOB.out
      have h3 := HBOX.out
      go_loopw [4, 5, 21] (fun out ca j wq => ∃ (m : Nat) (L2 : List (List UInt8)) (C2 : List UInt8), m ≤ pn.length ∧ j = .int .i64 m ∧ ca = .string ⟨C2.toArray⟩ ∧ Strs wq w.heap.size out L2 ∧ Hid ((pn.take m).foldl (pl.stepA K (pa, pn)) (L, C) = (L2, C2)) ∧ L2.length ≤ L.length + m ∧ Below w.heap.size w wq ∧ Blk wq wo.heap.size #[.string ⟨pa.toArray⟩, .slice an pn.length cn] 68) (fun _ _ j _ => pn.length - (intOf j).toNat)
      case atStart => exact ⟨0, L, C, Nat.zero_le _, rfl, rfl, h2, Lib.hid rfl, by omega, h1, h3⟩
      case round =>
        obtain ⟨m, L2, C2, hm, rfl, rfl, hown, HST2, hlen2, hbq, hblk⟩ := hrel
        have hown' := hown
        obtain ⟨ai, ci, rfl, _⟩ := hown'.form
        by_cases hlm : m < pn.length
        · obtain ⟨q, hq⟩ : ∃ q, pn[m]? = some q := ⟨_, List.getElem?_eq_getElem hlm⟩
          obtain ⟨gn, on, rfl, hgn, hqc⟩ := HNC.out m q hq
          have hq1 : wr.cell? ⟨gn, on + m, none⟩ = some (pl.strV q) := by rw [below_cell hbq _ _ hgn]; exact hqc
          unfold pl.strV at hq1
          have hql := HPN.out q (List.mem_of_getElem? hq)
          have hlq := fun W => low_is q hql W
          have habq := fun W => abs_is (pl.low q) (by rw [pl.low_len]; exact hql) W
          have hstep : (pn.take (m + 1)).foldl (pl.stepA K (pa, pn)) (L, C) = pl.stepA K (pa, pn) (L2, C2) q := by
            rw [pl.take_at pn m q hq, List.foldl_append, HST2.out]; rfl
          unfold pl.stepA at hstep
          obtain ⟨X, hX⟩ : ∃ X, pl.absN (pl.low q) = X := ⟨_, rfl⟩
          rw [hX] at habq hstep
          obtain ⟨LQ, hLQ⟩ : ∃ LQ, pl.low q = LQ := ⟨_, rfl⟩
          rw [hLQ] at hlq habq
          have HLQ := Lib.hid hlq
          have HABQ := Lib.hid habq
          have HQ := Lib.hid hq
          have HBQ := Lib.hid hbq
          have HBK := Lib.hid hblk
          have HOWN := Lib.hid hown
          have hll : L2.length < 8796093022207 := by omega
          have HLL := Lib.hid hll
          have mk0 : Hid True := Lib.hid trivial
          clear hlq habq hq hqc hbq hblk hown hown' hLQ hX hll
          by_cases hx : X = K
          · subst hx
            by_cases hL0 : L2.length = 0
            · have hLn : L2 = [] := List.eq_nil_of_length_eq_zero hL0
              obtain ⟨h0, hh0⟩ : ∃ h0, pn[0]? = some h0 := ⟨_, List.getElem?_eq_getElem (by omega)⟩
              obtain ⟨gz, oz, haz, hgz, hzc⟩ := HNC.out 0 h0 hh0
              injection haz with haz
              injection haz with e1 e2
              subst e1 e2
              have hz1 : ∀ W, Below w.heap.size w W → W.cell? ⟨gn, on, none⟩ = some (.string ⟨h0.toArray⟩) := fun W hW => by rw [below_cell hW _ _ hgz]; exact hzc
              have HZ := Lib.hid hz1
              have hhd : pn.headD [] = h0 := by
                cases pn with
                | nil => simp at hh0
                | cons x r => simpa using hh0
              have h0l := HPN.out h0 (List.mem_of_getElem? hh0)
              have hl0 := fun W => low_is h0 h0l W
              have ha0 := fun W => abs_is (pl.low h0) (by rw [pl.low_len]; exact h0l) W
              rw [if_pos rfl, if_pos hLn] at hstep
              have hstep' : (pn.take (m + 1)).foldl (pl.stepA X (pa, pn)) (L, C) = (L2 ++ [pl.lit pa], pl.absN (pl.low h0)) := hstep.trans (by show (L2 ++ [pl.lit pa], pl.absN (pl.low (pn.headD []))) = _; rw [hhd])
              have NEW := Lib.hid hstep'
              obtain ⟨LZ, hLZ⟩ : ∃ LZ, pl.low h0 = LZ := ⟨_, rfl⟩
              rw [hLZ] at hl0 ha0 NEW
              have HL0 := Lib.hid hl0
              have HA0 := Lib.hid ha0
              have t0 : ((L2.length : Int) == 0) = true := by rw [beq_iff_eq]; omega
              have hpos : 0 < pn.length := by omega
              have HLZ := Lib.hid hL0
              clear hz1 hhd hl0 ha0 hstep hstep' hLZ hLn hzc hh0 hL0
              go_wp2_with (first
              | (at_builtin; refine app_str (w := w) (pl.lit pa) rfl _ _ rfl rfl w.heap.size HO6.out rfl (by rw [HLIT.out]; rfl) HLL.out HB6.out (Nat.le_refl _) ?_)
              | (go_at_call 33; have hx0 := HB5; refine (HTX.out _ _ HR5.out).mono ?_; rintro e w6 ⟨rfl, hb6⟩; have HB6 := Lib.hid (HB5.out.trans (hb6.mono HB5.out.size)); have HK6 := Lib.hid (HK5.out.below hb6 HK5.out.lt); have HO6 := Lib.hid (HO5.out.below hb6); clear hb6)
              | (go_at_call 15; refine (HAD.out _).mono ?_; rintro e w5 ⟨a5, c5, rfl, HR5, hb5⟩; have HB5 := Lib.hid (HD4.out.trans (hb5.out.mono HD4.out.size)); have HK5 := Lib.hid (HDK4.out.below hb5.out HDK4.out.lt); have HO5 := Lib.hid (HDO4.out.below hb5.out); clear hb5)
              | (go_at_call 47; have hx0 := mk5; clear mk5 hx0; refine (HA0.out _).mono ?_; rintro e w4' ⟨rfl, n4, rfl⟩; have HD4 : Hid (Below w.heap.size w (w4.drewN n4)) := Lib.hid (below_drewN HB4.out n4); have HDK4 := Lib.hid (HK4.out.drewN n4); have HDO4 : Hid (Strs (w4.drewN n4) w.heap.size (.slice ai L2.length ci) L2) := Lib.hid (HO4.out.below (below_drewN (Below.refl _ _) n4)); have c40 : w4.cell? ⟨wo.heap.size, 0, none⟩ = some (.string ⟨pa.toArray⟩) := HK4.out.cell 0)
              | (go_at_call 48; have hx0 := mk4; clear mk4 hx0; refine (HL0.out _).mono ?_; rintro e w4 ⟨rfl, hb4⟩; have HB4 := Lib.hid (HD3.out.trans (hb4.out.mono HD3.out.size)); have HK4 := Lib.hid (HDK3.out.below hb4.out HDK3.out.lt); have HO4 := Lib.hid (HDO3.out.below hb4.out); clear hb4; have mk5 := Lib.hid trivial)
              | (go_at_call 47; have hx0 := mk3; clear mk3 hx0; refine (HABS.out _).mono ?_; rintro e w3' ⟨rfl, n3, rfl⟩; have HD3 : Hid (Below w.heap.size w (w3.drewN n3)) := Lib.hid (below_drewN HB3.out n3); have HDK3 := Lib.hid (HK3.out.drewN n3); have HDO3 : Hid (Strs (w3.drewN n3) w.heap.size (.slice ai L2.length ci) L2) := Lib.hid (HO3.out.below (below_drewN (Below.refl _ _) n3)); have c30 : w3.cell? ⟨wo.heap.size, 0, none⟩ = some (.string ⟨pa.toArray⟩) := HK3.out.cell 0; have cz3 := HZ.out w3 HB3.out; have c31 : w3.cell? ⟨wo.heap.size, 1, none⟩ = some (.slice (some ⟨gn, on, none⟩) pn.length cn) := HK3.out.cell 1; have mk4 := Lib.hid trivial)
              | (go_at_call 48; have hx0 := mk2; clear mk2 hx0; refine (HLOW.out _).mono ?_; rintro e w3 ⟨rfl, hb3⟩; have HB3 := Lib.hid (HD2.out.trans (hb3.out.mono HD2.out.size)); have HK3 := Lib.hid (HDK2.out.below hb3.out HDK2.out.lt); have HO3 := Lib.hid (HDO2.out.below hb3.out); clear hb3; have mk3 := Lib.hid trivial)
              | (go_at_call 47; have hx0 := mk1; clear mk1 hx0; refine (HABQ.out _).mono ?_; rintro e w2' ⟨rfl, n2, rfl⟩; have HD2 : Hid (Below w.heap.size w (w2.drewN n2)) := Lib.hid (below_drewN HB2.out n2); have HDK2 := Lib.hid (HK2.out.drewN n2); have HDO2 : Hid (Strs (w2.drewN n2) w.heap.size (.slice ai L2.length ci) L2) := Lib.hid (HO2.out.below (below_drewN (Below.refl _ _) n2)); have mk2 := Lib.hid trivial)
              | (go_at_call 48; have hx0 := mk0; clear mk0 hx0; refine (HLQ.out _).mono ?_; rintro e w2 ⟨rfl, hb2⟩; have HB2 := Lib.hid (HBQ.out.trans (hb2.out.mono HBQ.out.size)); have HK2 := Lib.hid (HBK.out.below hb2.out HBK.out.lt); have HO2 := Lib.hid (HOWN.out.below hb2.out); clear hb2; have mk1 := Lib.hid trivial))
              intro v' w' hown' hb' hg'
              have hkf := (HK6.out.alloc (Obj.cells #[.string ⟨(pl.text b).toArray⟩] 9)).grown (HO6.out.below ((Below.refl _ _).alloc (Nat.le_refl _) _)) (by decide) hg'
              have HKF := Lib.hid hkf
              clear hkf hg'
              go_wp2_with fail
              go_roundw
              case rel => exact ⟨m + 1, _, _, by omega, by go_num, rfl, hown', NEW.out, by simp; omega, hb', HKF.out⟩
              case measure => simp [intOf]; omega

            · have hLn : ¬ (L2 = []) := fun h => hL0 (by rw [h]; rfl)
              rw [if_pos rfl, if_neg hLn] at hstep
              have NEW := Lib.hid hstep
              have t0 : ((L2.length : Int) == 0) = false := by rw [beq_eq_false_iff_ne]; omega
              have HLZ := Lib.hid hL0
              clear hstep hLn hL0
              go_wp2_with (first
              | (at_builtin; refine app_str (w := w) (pl.lit pa) rfl _ _ rfl rfl w.heap.size HO6.out rfl (by rw [HLIT.out]; rfl) HLL.out HB6.out (Nat.le_refl _) ?_)
              | (go_at_call 33; have hx0 := HB5; refine (HTX.out _ _ HR5.out).mono ?_; rintro e w6 ⟨rfl, hb6⟩; have HB6 := Lib.hid (HB5.out.trans (hb6.mono HB5.out.size)); have HK6 := Lib.hid (HK5.out.below hb6 HK5.out.lt); have HO6 := Lib.hid (HO5.out.below hb6); clear hb6)
              | (go_at_call 15; refine (HAD.out _).mono ?_; rintro e w5 ⟨a5, c5, rfl, HR5, hb5⟩; have HB5 := Lib.hid (HD3.out.trans (hb5.out.mono HD3.out.size)); have HK5 := Lib.hid (HDK3.out.below hb5.out HDK3.out.lt); have HO5 := Lib.hid (HDO3.out.below hb5.out); clear hb5)
              | (go_at_call 47; have hx0 := mk3; clear mk3 hx0; refine (HABS.out _).mono ?_; rintro e w3' ⟨rfl, n3, rfl⟩; have HD3 : Hid (Below w.heap.size w (w3.drewN n3)) := Lib.hid (below_drewN HB3.out n3); have HDK3 := Lib.hid (HK3.out.drewN n3); have HDO3 : Hid (Strs (w3.drewN n3) w.heap.size (.slice ai L2.length ci) L2) := Lib.hid (HO3.out.below (below_drewN (Below.refl _ _) n3)); have c30 : w3.cell? ⟨wo.heap.size, 0, none⟩ = some (.string ⟨pa.toArray⟩) := HK3.out.cell 0; have c31 : w3.cell? ⟨wo.heap.size, 1, none⟩ = some (.slice (some ⟨gn, on, none⟩) pn.length cn) := HK3.out.cell 1; have mk4 := Lib.hid trivial)
              | (go_at_call 48; have hx0 := mk2; clear mk2 hx0; refine (HLOW.out _).mono ?_; rintro e w3 ⟨rfl, hb3⟩; have HB3 := Lib.hid (HD2.out.trans (hb3.out.mono HD2.out.size)); have HK3 := Lib.hid (HDK2.out.below hb3.out HDK2.out.lt); have HO3 := Lib.hid (HDO2.out.below hb3.out); clear hb3; have mk3 := Lib.hid trivial)
              | (go_at_call 47; have hx0 := mk1; clear mk1 hx0; refine (HABQ.out _).mono ?_; rintro e w2' ⟨rfl, n2, rfl⟩; have HD2 : Hid (Below w.heap.size w (w2.drewN n2)) := Lib.hid (below_drewN HB2.out n2); have HDK2 := Lib.hid (HK2.out.drewN n2); have HDO2 : Hid (Strs (w2.drewN n2) w.heap.size (.slice ai L2.length ci) L2) := Lib.hid (HO2.out.below (below_drewN (Below.refl _ _) n2)); have mk2 := Lib.hid trivial)
              | (go_at_call 48; have hx0 := mk0; clear mk0 hx0; refine (HLQ.out _).mono ?_; rintro e w2 ⟨rfl, hb2⟩; have HB2 := Lib.hid (HBQ.out.trans (hb2.out.mono HBQ.out.size)); have HK2 := Lib.hid (HBK.out.below hb2.out HBK.out.lt); have HO2 := Lib.hid (HOWN.out.below hb2.out); clear hb2; have mk1 := Lib.hid trivial))
              intro v' w' hown' hb' hg'
              have hkf := (HK6.out.alloc (Obj.cells #[.string ⟨(pl.text b).toArray⟩] 9)).grown (HO6.out.below ((Below.refl _ _).alloc (Nat.le_refl _) _)) (by decide) hg'
              have HKF := Lib.hid hkf
              clear hkf hg'
              go_wp2_with fail
              go_roundw
              case rel => exact ⟨m + 1, _, _, by omega, by go_num, rfl, hown', NEW.out, by simp; omega, hb', HKF.out⟩
              case measure => simp [intOf]; omega

          · rw [if_neg hx] at hstep
            have NEW := Lib.hid hstep
            have hne : (X == K) = false := by rw [beq_eq_false_iff_ne]; exact hx
            have HXN := Lib.hid hx
            clear hstep hx
            go_wp2_with (first
              | (go_at_call 47; have hx0 := mk3; clear mk3 hx0; refine (HABS.out _).mono ?_; rintro e w3' ⟨rfl, n3, rfl⟩; have HD3 : Hid (Below w.heap.size w (w3.drewN n3)) := Lib.hid (below_drewN HB3.out n3); have HDK3 := Lib.hid (HK3.out.drewN n3); have HDO3 : Hid (Strs (w3.drewN n3) w.heap.size (.slice ai L2.length ci) L2) := Lib.hid (HO3.out.below (below_drewN (Below.refl _ _) n3)); have c30 : w3.cell? ⟨wo.heap.size, 0, none⟩ = some (.string ⟨pa.toArray⟩) := HK3.out.cell 0; have c31 : w3.cell? ⟨wo.heap.size, 1, none⟩ = some (.slice (some ⟨gn, on, none⟩) pn.length cn) := HK3.out.cell 1; have mk4 := Lib.hid trivial)
              | (go_at_call 48; have hx0 := mk2; clear mk2 hx0; refine (HLOW.out _).mono ?_; rintro e w3 ⟨rfl, hb3⟩; have HB3 := Lib.hid (HD2.out.trans (hb3.out.mono HD2.out.size)); have HK3 := Lib.hid (HDK2.out.below hb3.out HDK2.out.lt); have HO3 := Lib.hid (HDO2.out.below hb3.out); clear hb3; have mk3 := Lib.hid trivial)
              | (go_at_call 47; have hx0 := mk1; clear mk1 hx0; refine (HABQ.out _).mono ?_; rintro e w2' ⟨rfl, n2, rfl⟩; have HD2 : Hid (Below w.heap.size w (w2.drewN n2)) := Lib.hid (below_drewN HB2.out n2); have HDK2 := Lib.hid (HK2.out.drewN n2); have HDO2 : Hid (Strs (w2.drewN n2) w.heap.size (.slice ai L2.length ci) L2) := Lib.hid (HO2.out.below (below_drewN (Below.refl _ _) n2)); have mk2 := Lib.hid trivial)
              | (go_at_call 48; have hx0 := mk0; clear mk0 hx0; refine (HLQ.out _).mono ?_; rintro e w2 ⟨rfl, hb2⟩; have HB2 := Lib.hid (HBQ.out.trans (hb2.out.mono HBQ.out.size)); have HK2 := Lib.hid (HBK.out.below hb2.out HBK.out.lt); have HO2 := Lib.hid (HOWN.out.below hb2.out); clear hb2; have mk1 := Lib.hid trivial))
            go_roundw
            case rel => exact ⟨m + 1, _, _, by omega, by go_num, rfl, HDO3.out, NEW.out, by omega, HD3.out, HDK3.out⟩
            case measure => simp [intOf]; omega
        · have hme : pn.take m = pn := List.take_of_length_le (by omega)
          have hnew : pl.addrsOf (l.take (k + 1)) K = (L2, C2) := by
            have h1 := HST.out
            have h2 := HST2.out
            rw [hme] at h2
            unfold pl.addrsOf at h1 ⊢
            rw [pl.take_at l k _ HP.out, List.foldl_append, h1]
            exact h2
          have NEW := Lib.hid hnew
          clear hme hnew
          go_wp2_with fail
          go_roundw
          case rel => exact ⟨k + 1, _, _, by omega, by go_num, rfl, hown, NEW, by omega, hbq⟩
          case measure => simp [intOf]; omega
    · have hke : l.take k = l := List.take_of_length_le (by omega)
      rw [hke] at HST
      have hown' := hown
      obtain ⟨ao, co, rfl, _⟩ := hown'.form
      clear hown'
      go_wp2_with fail
      go_ret2
      refine ⟨.slice ao L.length co, ?_, Lib.hid (by rw [HST.out]; exact hown), Lib.hid hb⟩
      rw [HST.out]
      rfl

end Go.Proofs.YtfkohahlpfejbaaDoor
