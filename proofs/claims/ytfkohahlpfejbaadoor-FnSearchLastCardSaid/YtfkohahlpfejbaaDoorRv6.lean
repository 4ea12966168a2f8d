/-
  WALK: dnsReadConfig.
-/
import Derived.Test.YtfkohahlpfejbaaDoorRvW
import Derived.Deep.LoopGhost
import Derived.Deep.RegionLaw
namespace Go.Proofs.YtfkohahlpfejbaaDoor
open Go.RowKit

theorem strs_cap {w : World} {B n c : Nat} {a : Option Addr} {l : List (List UInt8)} (h : Strs w B (.slice a n c) l) : n = l.length ∧ n ≤ c := by
  obtain ⟨a', c', he, hle, _⟩ := RdS.of_strs h
  injection he with _ h1 h2
  exact ⟨h1, by omega⟩

theorem strs_row {w : World} {B k : Nat} {v : Value} {l : List (List UInt8)} (h : Strs w B v l) (e : some k = v.ownBlock) : B ≤ k := by
  rcases h.row with e2 | ⟨r, e2, hr, _⟩
  · rw [e2] at e; cases e
  · rw [e2] at e; injection e with e; omega

theorem pl.opt_lo0 (n : Nat) (_ : pl.optOk (0, (n : Int)) = true) : 0 ≤ n := Nat.zero_le n
theorem pl.opt_hi0 (n : Nat) (h : pl.optOk (0, (n : Int)) = true) : n ≤ 15 := by
  rw [pl.optOk_num 0 n (by decide) (by decide), Bool.and_eq_true, decide_eq_true_eq, decide_eq_true_eq] at h
  have : (n : Int) ≤ 15 := h.2
  omega
theorem pl.opt_lo1 (n : Nat) (h : pl.optOk (1, (n : Int)) = true) : 1 ≤ n := by
  rw [pl.optOk_num 1 n (by decide) (by decide), Bool.and_eq_true, decide_eq_true_eq, decide_eq_true_eq] at h
  have : (1 : Int) ≤ n := h.1
  omega
theorem pl.opt_lo2 (n : Nat) (h : pl.optOk (2, (n : Int)) = true) : 1 ≤ n := by
  rw [pl.optOk_num 2 n (by decide) (by decide), Bool.and_eq_true, decide_eq_true_eq, decide_eq_true_eq] at h
  have : (1 : Int) ≤ n := h.1
  omega

/-- what the whole reader leaves -/
def RdRes (w0 : World) (s : RSt) (hn : List UInt8) (e : Ending) (w' : World) : Prop :=
  ∃ gc vs vq, e = .returned (.pointer (some ⟨gc, 0, none⟩)) ∧ w0.heap.size ≤ gc ∧ Hid (Blk w' gc (confA s vs vq) 110) ∧ Hid (Strs w' w0.heap.size vs (if s.sv = [] then [pl.ns1, pl.ns2] else s.sv)) ∧ Hid (Strs w' w0.heap.size vq (if s.se = [] then pl.defS hn else s.se)) ∧ Hid (Below w0.heap.size w0 w')

set_option maxRecDepth 100000 in
set_option maxHeartbeats 8000000 in
theorem drc_sp (g4 o4 g6 o6 : Nat) (its : List RItem) (hn : ByteArray) (w0 w : World) (hok : ∀ it ∈ its, RIOk it) (hlen : its.length ≤ 200) (hI : IpVars w0 g4 o4 g6 o6) (hw : Below w0.heap.size w0 w)
    (hfile : Blk w w0.heap.size #[.string ⟨(pl.itx its).toArray⟩] 105) (hh : hn.size ≤ 17592186044416) :
    Calls Tryd.prog 67 #[.pointer (some ⟨w0.heap.size, 0, none⟩), .string hn] w (RdRes w0 (pl.rRun its pl.rZero) hn.data.toList) := by
  obtain ⟨gf, hgf⟩ : ∃ gf, w0.heap.size = gf := ⟨_, rfl⟩
  obtain ⟨gc, hgc⟩ : ∃ gc, w.heap.size = gc := ⟨_, rfl⟩
  obtain ⟨W1, hW1⟩ : ∃ W1, w.alloc (.cells (confA pl.rZero (.slice none 0 0) (.slice none 0 0)) 110) = W1 := ⟨_, rfl⟩
  have hgl : gf < gc := by rw [← hgf, ← hgc]; exact hfile.lt
  have hc1 : RvC W1 (gc + 1) gc pl.rZero (.slice none 0 0) (.slice none 0 0) := by
    rw [← hW1, ← hgc]
    exact ⟨Blk.new w _ _, Strs.nil _ _, Strs.nil _ _, .inl rfl⟩
  have hfl1 : Blk W1 gf #[.string ⟨(pl.itx its).toArray⟩] 105 := by
    rw [← hW1, ← hgf]; exact hfile.alloc _
  have hb1 : Below gf w0 W1 := by
    rw [← hW1, ← hgf]; exact hw.alloc hw.size _
  rw [hgf] at hw ⊢
  have htl : ∀ (l : List RItem), (∀ it ∈ l, RIOk it) → (pl.itx l).length ≤ l.length * 60000000001 := by
    intro l
    induction l with
    | nil => intro _; show ([] : List UInt8).length ≤ _; exact Nat.zero_le _
    | cons a l ih =>
      intro h
      have h1 := ih (fun x hx => h x (by simp [hx]))
      have h2 := (h a (by simp)).len
      have e : pl.itx (a :: l) = a.1 ++ 10 :: pl.itx l := by unfold pl.itx; rw [List.map_cons, pl.ltext_cons]
      rw [e, List.length_append, List.length_cons, List.length_cons]
      omega
  have ht := htl its hok
  have hrl : ∀ (j : Nat) W, Blk W gf #[.string ⟨(pl.ltext ((its.map (·.1)).drop j)).toArray⟩] 105 → Calls Tryd.prog 83 #[.pointer (some ⟨gf, 0, none⟩)] W fun e w' =>
      e = .returned (.tuple #[.string ⟨(pl.lnx ((its.map (·.1)).drop j)).1.toArray⟩, .bool (pl.lnx ((its.map (·.1)).drop j)).2.1]) ∧ Hid (Blk w' gf #[.string ⟨(pl.ltext (pl.lnx ((its.map (·.1)).drop j)).2.2).toArray⟩] 105) ∧
      Hid (KeepG gf W w') ∧ Hid (∀ B w1, Below B w1 W → B ≤ gf → Below B w1 w') := fun j W h =>
    ln_next gf ((its.map (·.1)).drop j) 105 W h (fun x hx => by
      obtain ⟨it, hit, rfl⟩ := List.mem_map.1 (List.mem_of_mem_drop hx)
      exact (hok it hit).nl) (by
      have h1 := pl.ltext_drop (its.map (·.1)) j
      have h2 : (pl.ltext (its.map (·.1))).length ≤ its.length * 60000000001 := ht
      omega)
  have hrl0 := hrl 0 W1 hfl1
  have HRL := Lib.hid hrl
  have HRL0 := Lib.hid hrl0
  have HOK := Lib.hid hok
  have HI := Lib.hid hI
  have HC1 := Lib.hid hc1
  have HB1 := Lib.hid hb1
  have HF1 := Lib.hid hfl1
  have HGF := Lib.hid hgf
  have HGC := Lib.hid hgc
  have HGL := Lib.hid hgl
  simp only [confA, pl.rZero] at hW1
  have HHH := Lib.hid hh
  have hlm : (its.map (·.1)).length = its.length := List.length_map _
  clear hrl hrl0 hok hI hc1 hb1 hfl1 hfile hw hgf hgl ht htl hh
  go_enter Tryd.func67, Tryd.ntmps67
  go_wp2_with (go_at_call 83; refine HRL0.out.mono ?_; rintro e w2 ⟨rfl, HK2, HKG2, HBL2⟩)
  go_loopg [6, 7] its.length (fun g lv okv wr => ∃ j : Nat, j ≤ its.length ∧ g = its.length - j ∧ lv = .string ⟨(pl.lnx ((its.map (·.1)).drop j)).1.toArray⟩ ∧ okv = .bool (pl.lnx ((its.map (·.1)).drop j)).2.1 ∧ Hid (Blk wr gf #[.string ⟨(pl.ltext (pl.lnx ((its.map (·.1)).drop j)).2.2).toArray⟩] 105) ∧
    Hid (∃ vs vq, RvC wr (gc + 1) gc (pl.rRun (its.take j) pl.rZero) vs vq) ∧ Hid (Below gf w0 wr))
  case atStart => exact ⟨0, Nat.zero_le _, rfl, rfl, rfl, HK2, Lib.hid ⟨_, _, HC1.out.only HKG2.out (by have := HGL.out; omega) (by have := HGL.out; omega)⟩, Lib.hid (HBL2.out _ _ HB1.out (Nat.le_refl _))⟩
  case round =>
    obtain ⟨j, hj, hgk, rfl, rfl, HK, HCx, HB⟩ := hrel
    by_cases hlt : j < its.length
    · obtain ⟨it, hit⟩ : ∃ it, its[j]? = some it := ⟨_, List.getElem?_eq_getElem hlt⟩
      have hok := HOK.out it (List.mem_of_getElem? hit)
      obtain ⟨ln, tag, as1, os⟩ := it
      have hit2 : (its.map (·.1))[j]? = some ln := by rw [List.getElem?_map, hit]; rfl
      have hnx := pl.lnx_drop (its.map (·.1)) j ln hit2
      rw [hnx] at HK ⊢
      have hstep : pl.rRun (its.take (j + 1)) pl.rZero = pl.rStep (pl.rRun (its.take j) pl.rZero) (tag, as1, os) := by
        rw [pl.take_at its j _ hit, pl.rRun_app]; rfl
      have hrl1 := HRL.out (j + 1)
      have HRL1 := Lib.hid hrl1
      obtain ⟨L, hL⟩ : ∃ L : ByteArray, (⟨ln.toArray⟩ : ByteArray) = L := ⟨_, rfl⟩
      have hLd : L.data.toList = ln := by rw [← hL]
      have hLs : L.size = ln.length := by rw [← hL]; rfl
      have hLs2 : L.size ≤ 60000000000 := by rw [hLs]; exact hok.len
      have hfS := fun W => fields_any L W (by omega)
      rw [hLd] at hfS
      dsimp only
      rw [hL]
      obtain ⟨vs, vq, hC⟩ := HCx.out
      have HC := Lib.hid hC
      have HSTEP := Lib.hid hstep
      have htag : tag ≤ 3 := hok.few
      clear hnx hrl1 hit hit2 hC hstep hL
      rcases Nat.lt_or_ge tag 1 with ht0 | ht0
      · as_aux_lemma =>
        have hte : tag = 0 := by omega
        subst hte
        have hst0 : pl.rRun (its.take (j + 1)) pl.rZero = pl.rRun (its.take j) pl.rZero := HSTEP.out
        have HST0 := Lib.hid hst0
        have hno : ln = [] ∨ ∃ b r, ln = b :: r ∧ (b = 59 ∨ b = 35) := hok.no rfl
        clear hst0 hok
        rcases hno with rfl | ⟨b, r, rfl, hb⟩
        · have hL0 : ¬ ((0 : Int) < (L.size : Int)) := by rw [hLs]; simp
          have hfS' : ∀ W, Calls Tryd.prog 84 #[.string L] W fun e w' => ∃ v, e = .returned v ∧ Strs w' W.heap.size v [] ∧ Below W.heap.size W w' := hfS
          have HFF := Lib.hid hfS'
          clear hfS hfS' hLd hLs
          go_wp2_with (first
            | (go_at_call 84; refine (HFF.out _).mono ?_; rintro e w3 ⟨v3, rfl, hS3, hb3⟩; obtain ⟨a3, c3, rfl, _⟩ := hS3.form; have HK3 := Lib.hid (HK.out.below hb3 HK.out.lt); have HC3 := Lib.hid (HC.out.below hb3); have HB3 := Lib.hid (HB.out.trans (hb3.mono (Nat.le_of_lt HK.out.lt))); clear hb3 hS3)
            | (go_at_call 83; have hx0 := HK3; refine (HRL1.out _ HK3.out).mono ?_; rintro e w4 ⟨rfl, HK4, HKG4, HBL4⟩))
          go_roundg (its.length - (j + 1))
          case measure => omega
          case rel => exact ⟨j + 1, by omega, rfl, rfl, rfl, HK4, Lib.hid ⟨_, _, by rw [HST0.out]; exact HC3.out.only HKG4.out (by have := HGL.out; omega) (by have := HGL.out; omega)⟩, Lib.hid (HBL4.out _ _ HB3.out (Nat.le_refl _))⟩
        · have hL0 : 0 < L.size := by rw [hLs]; simp
          have hLi : (0 : Int) < (L.size : Int) := by omega
          have hby : L[0] = b := by
            have h1 := pl.getElem_data L 0 hL0
            rw [hLd] at h1
            injection h1 with h1
            exact h1.symm
          clear hfS hLd hLs
          rcases hb with rfl | rfl
          all_goals
            go_wp2_with (first
              | (go_at_call 83; refine (HRL1.out _ HK.out).mono ?_; rintro e w4 ⟨rfl, HK4, HKG4, HBL4⟩))
            go_roundg (its.length - (j + 1))
            case measure => omega
            case rel => exact ⟨j + 1, by omega, rfl, rfl, rfl, HK4, Lib.hid ⟨_, _, by rw [HST0.out]; exact HC.out.only HKG4.out (by have := HGL.out; omega) (by have := HGL.out; omega)⟩, Lib.hid (HBL4.out _ _ HB.out (Nat.le_refl _))⟩
      · obtain ⟨b, r, hbr, hb1, hb2⟩ := hok.hd (by show tag ≠ 0; omega)
        have hbr' : ln = b :: r := hbr
        have hL0 : 0 < L.size := by rw [hLs, hbr']; simp
        have hLi : (0 : Int) < (L.size : Int) := by omega
        have hby : L[0] = b := by
          have h1 := pl.getElem_data L 0 hL0
          rw [hLd, hbr'] at h1
          injection h1 with h1
          exact h1.symm
        have hbn : ((b.toNat : Int) == 59) = false ∧ ((b.toNat : Int) == 35) = false := by
          constructor
          · rw [beq_eq_false_iff_ne]; intro e; exact hb1 (UInt8.toNat_inj.1 (by have : (59 : UInt8).toNat = 59 := rfl; omega))
          · rw [beq_eq_false_iff_ne]; intro e; exact hb2 (UInt8.toNat_inj.1 (by have : (35 : UInt8).toNat = 35 := rfl; omega))
        have hn59 := hbn.1
        have hn35 := hbn.2
        clear hbn hb1 hb2 hbr hbr' hLs hLd
        have ht3 : tag = 1 ∨ tag = 2 ∨ tag = 3 := by omega
        rcases ht3 with rfl | rfl | rfl
        · as_aux_lemma =>
          obtain ⟨a, ha1, hwd, had, h37, hal⟩ := hok.srv rfl
          have ha1' : as1 = [a] := ha1
          have hwd' : pl.words pl.ws ln = [[110, 97, 109, 101, 115, 101, 114, 118, 101, 114], a] := hwd
          rw [hwd'] at hfS
          have hpa := fun W (hW : Below gf w0 W) => pa_yes2 g4 o4 g6 o6 a W hal (HI.out.below hW (by rw [← HGF.out]; exact Nat.le_refl _)) h37 had
          have hj53 := fun W => j53_sp a W hal
          obtain ⟨AB, hAB⟩ : ∃ AB : ByteArray, (⟨a.toArray⟩ : ByteArray) = AB := ⟨_, rfl⟩
          obtain ⟨JB, hJB⟩ : ∃ JB : ByteArray, (⟨(pl.j53 a).toArray⟩ : ByteArray) = JB := ⟨_, rfl⟩
          rw [hAB] at hpa hj53
          rw [hJB] at hj53
          have hJv : (.string JB : Value) = pl.strV (pl.j53 a) := by rw [← hJB]; rfl
          obtain ⟨av, cv, rfl, _⟩ := HC.out.2.1.form
          obtain ⟨st, hst0⟩ : ∃ st, pl.rRun (its.take j) pl.rZero = st := ⟨_, rfl⟩
          rw [hst0] at HC HSTEP
          have hstep1 : pl.rRun (its.take (j + 1)) pl.rZero = if st.sv.length < 3 then { st with sv := st.sv ++ [pl.j53 a] } else st := by
            rw [HSTEP.out, ha1']; rfl
          have HST1 := Lib.hid hstep1
          have HFF := Lib.hid hfS
          have HPA := Lib.hid hpa
          have HJ := Lib.hid hj53
          have HAB := Lib.hid hAB
          have HJV := Lib.hid hJv
          obtain ⟨N, hN⟩ : ∃ N, st.sv.length = N := ⟨_, rfl⟩
          have HN := Lib.hid hN
          rw [hN] at HC
          clear hfS hwd hwd' had h37 hal ha1 ha1' hpa hj53 hAB hJB hJv hstep1 hst0 hok
          by_cases hn3 : N < 3
          · have hn3I : ((N : Int) < 3) := by omega
            have hst : pl.rRun (its.take (j + 1)) pl.rZero = { st with sv := st.sv ++ [pl.j53 a] } := by rw [HST1.out, if_pos (by rw [HN.out]; exact hn3)]
            have HST := Lib.hid hst
            have HN3 := Lib.hid hn3
            clear hst hn3
            go_wp2_with (first
              | (go_at_call 84; refine (HFF.out _).mono ?_; rintro e w3 ⟨v3, rfl, hS3, hb3⟩; obtain ⟨a3, c3, rfl, hc3⟩ := hS3.form; obtain ⟨gF, rfl, hgF, _, hcF⟩ := hc3 0 [110, 97, 109, 101, 115, 101, 114, 118, 101, 114] rfl; have hcF' : w3.cell? ⟨gF, 0, none⟩ = some (.string ⟨#[110, 97, 109, 101, 115, 101, 114, 118, 101, 114]⟩) := hcF; obtain ⟨gF', hga, _, _, hcA⟩ := hc3 1 a rfl; have hgg : gF' = gF := (by injection hga with hga; injection hga with hga; exact hga.symm); subst hgg; have hcA' : w3.cell? ⟨gF', 1, none⟩ = some (.string AB) := (by rw [hcA, ← HAB.out]; rfl); have hC3 := HC.out.below hb3; have y0 : w3.cell? ⟨gc, 0, none⟩ = some (.slice av N cv) := hC3.1.cell 0; have HK3 := Lib.hid (HK.out.below hb3 HK.out.lt); have HC3 := Lib.hid hC3; have HB3 := Lib.hid (HB.out.trans (hb3.mono (Nat.le_of_lt HK.out.lt))); have HGF2 := Lib.hid hgF; have HCA := Lib.hid hcA'; clear hb3 hS3 hc3 hcF hC3 hcA hga hgF)
              | (go_at_call 70; refine (HPA.out _ HB3.out).mono ?_; rintro e w4 ⟨⟨hi, lo, gz, oz, rfl⟩, hb4⟩; have HK4 := Lib.hid (HK3.out.below hb4.out HK3.out.lt); have HC4 := Lib.hid (HC3.out.below hb4.out); have HB4 := Lib.hid (HB3.out.trans (hb4.out.mono (Nat.le_of_lt HK3.out.lt))); have hcA4 : w4.cell? ⟨gF', 1, none⟩ = some (.string AB) := (by rw [below_cell hb4.out _ _ HGF2.out]; exact HCA.out); have HCA4 := Lib.hid hcA4; have HGF4 := Lib.hid (Nat.lt_of_lt_of_le HGF2.out hb4.out.size); clear hb4 hcA4))
            refine wp_name (fun V hV => ?_)
            have hbV : Below w4.heap.size w4 V := by rw [hV]; repeat (first | exact Below.refl _ _ | refine Below.drew ?_ | refine Below.alloc ?_ (by simp) _)
            have hCV := HC4.out.below hbV
            have hV0 : V.cell? ⟨gc, 0, none⟩ = some (.slice av N cv) := hCV.1.cell 0
            have hVf : V.cell? ⟨gF', 1, none⟩ = some (.string AB) := by rw [below_cell hbV _ _ HGF4.out]; exact HCA4.out
            have hV0d : V.drew.cell? ⟨gc, 0, none⟩ = some (.slice av N cv) := hV0
            have hVfd : V.drew.cell? ⟨gF', 1, none⟩ = some (.string AB) := hVf
            have hal : Below V.heap.size V (V.alloc (Obj.cells #[.string JB] 9)).drew := ((Below.refl V.heap.size V).alloc (Nat.le_refl _) _).drew
            have hCU := hCV.below hal
            have hU0 : (V.alloc (Obj.cells #[.string JB] 9)).cell? ⟨gc, 0, none⟩ = some (.slice av N cv) := hCU.1.cell 0
            have hrow : (V.alloc (Obj.cells #[.string JB] 9)).drew.cell? ⟨V.heap.size, 0, none⟩ = some (pl.strV (pl.j53 a)) := by rw [← HJV.out]; exact (Blk.new V #[.string JB] 9).cell 0
            have hzU : gc + 1 ≤ (V.alloc (Obj.cells #[.string JB] 9)).drew.heap.size := by have h1 := hCV.1.lt; have h2 := hal.size; omega
            have HKV := Lib.hid (HK4.out.below hbV HK4.out.lt)
            have HBV := Lib.hid (HB4.out.trans (hbV.mono (Nat.le_of_lt HK4.out.lt)))
            have HCV := Lib.hid hCV
            have HCU := Lib.hid hCU
            have HAL := Lib.hid hal
            have HROW := Lib.hid hrow
            have HZU := Lib.hid hzU
            have hLN : N < 8796093022207 := by have := HN3.out; omega
            have HLN : Hid (st.sv.length < 8796093022207) := Lib.hid (by rw [HN.out]; exact hLN)
            clear hV hbV hCV hal hCU hrow hzU hLN
            go_region_law (first
              | (refine step_app1 (pl.j53 a) rfl _ _ rfl rfl (gc + 1) HCU.out.2.1 V.heap.size rfl HROW.out HLN.out HZU.out ?_; intro v9 w9 hv9 hg9 hp9; obtain ⟨hbk9, hC9⟩ := HCV.out.push HAL.out hv9 hg9 hp9 (Nat.lt_succ_self gc); have c90 : w9.cell? ⟨gc, 0, none⟩ = some (.slice av N cv) := hbk9.cell 0; have f90 := hbk9.frozen 0; have HC9 := Lib.hid hC9; have HG9 := Lib.hid hg9; have HV9 := Lib.hid hv9; clear hg9 hp9 hC9 hbk9; obtain ⟨a9, c9, rfl, _⟩ := hv9.form; obtain ⟨n9, hn9⟩ : ∃ n9, (st.sv ++ [pl.j53 a]).length = n9 := ⟨_, rfl⟩; rw [hn9] at HC9 HV9 ⊢; clear hv9 hn9)
              | (go_simp; go_at_call 88; refine (HJ.out _).mono ?_; rintro e w8 ⟨rfl, rfl⟩))
            all_goals
              go_wp2_with (go_at_call 83; have hkN := HKV.out.below HAL.out HKV.out.lt; have hkO := (hkN.keep (HG9.out.block gf hkN.lt (by intro e; have h1 := strs_row HCV.out.2.1 e; have h2 := HGL.out; omega))).other gc 0 (.slice a9 n9 c9) (by have := HGL.out; omega); have HKO := Lib.hid hkO; clear hkN hkO; refine (HRL1.out _ HKO.out).mono ?_; rintro e w5 ⟨rfl, HK5, HKG5, HBL5⟩)
              have hb9 : Below gf w0 w9 := (HBV.out.trans (HAL.out.mono (Nat.le_of_lt HKV.out.lt))).grown HG9.out (by have := HZU.out; have := HGL.out; omega) (fun k hk => by have h1 := strs_row HCV.out.2.1 hk.symm; have h2 := HGL.out; omega)
              have hb10 := hb9.setCell (p := ⟨gc, 0, none⟩) (by show gf ≤ gc; have := HGL.out; omega) (.slice a9 n9 c9)
              have HB10 := Lib.hid hb10
              clear hb9 hb10
              go_roundg (its.length - (j + 1))
              case measure => omega
              case rel => exact ⟨j + 1, by omega, rfl, rfl, rfl, HK5, Lib.hid ⟨_, _, by rw [HST.out]; exact HC9.out.only HKG5.out (by have := HGL.out; omega) (by have := HGL.out; omega)⟩, Lib.hid (HBL5.out _ _ HB10.out (Nat.le_refl _))⟩
          · have hn3I : ¬ ((N : Int) < 3) := by omega
            have hst : pl.rRun (its.take (j + 1)) pl.rZero = st := by rw [HST1.out, if_neg (by rw [HN.out]; exact hn3)]
            have HST := Lib.hid hst
            have HN3 := Lib.hid hn3
            clear hst hn3
            go_wp2_with (first
              | (go_at_call 84; refine (HFF.out _).mono ?_; rintro e w3 ⟨v3, rfl, hS3, hb3⟩; obtain ⟨a3, c3, rfl, hc3⟩ := hS3.form; obtain ⟨gF, rfl, _, _, hcF⟩ := hc3 0 [110, 97, 109, 101, 115, 101, 114, 118, 101, 114] rfl; have hcF' : w3.cell? ⟨gF, 0, none⟩ = some (.string ⟨#[110, 97, 109, 101, 115, 101, 114, 118, 101, 114]⟩) := hcF; have hC3 := HC.out.below hb3; have y0 : w3.cell? ⟨gc, 0, none⟩ = some (.slice av N cv) := hC3.1.cell 0; have HK3 := Lib.hid (HK.out.below hb3 HK.out.lt); have HC3 := Lib.hid hC3; have HB3 := Lib.hid (HB.out.trans (hb3.mono (Nat.le_of_lt HK.out.lt))); clear hb3 hS3 hc3 hcF hC3)
              | (go_at_call 83; have hx0 := HK3; refine (HRL1.out _ HK3.out).mono ?_; rintro e w4 ⟨rfl, HK4, HKG4, HBL4⟩))
            go_roundg (its.length - (j + 1))
            case measure => omega
            case rel => exact ⟨j + 1, by omega, rfl, rfl, rfl, HK4, Lib.hid ⟨_, _, by rw [HST.out]; exact HC3.out.only HKG4.out (by have := HGL.out; omega) (by have := HGL.out; omega)⟩, Lib.hid (HBL4.out _ _ HB3.out (Nat.le_refl _))⟩
        · as_aux_lemma =>
          obtain ⟨hwd, h6, hpl⟩ := hok.sch rfl
          have hwd' : pl.words pl.ws ln = pl.rvSch :: as1 := hwd
          have h6' : as1.length ≤ 6 := h6
          have hpl' : ∀ n ∈ as1, pl.plain n = true ∧ n.length ≤ 2147483647 := hpl
          rw [hwd'] at hfS
          obtain ⟨i0, hi0, hz0, hz1, hz2⟩ := info_parts infoStr
          obtain ⟨st, hst0⟩ : ∃ st, pl.rRun (its.take j) pl.rZero = st := ⟨_, rfl⟩
          rw [hst0] at HC HSTEP
          have hstep2 : pl.rRun (its.take (j + 1)) pl.rZero = { st with se := as1.map pl.rooted } := by rw [HSTEP.out]; rfl
          have HST := Lib.hid hstep2
          have HFF := Lib.hid hfS
          have HPL := Lib.hid hpl'
          have hnI : ((as1.length : Int) + 1 - 1) = (as1.length : Int) := by omega
          clear hfS hwd hwd' h6 hpl hpl' hok hstep2 hst0
          go_wp2_with (first
            | (go_at_call 84; refine (HFF.out _).mono ?_; rintro e w3 ⟨v3, rfl, hS3, hb3⟩; have HS3 := Lib.hid (hS3.mono HC.out.1.lt); obtain ⟨a3, c3, rfl, hc3⟩ := hS3.form; obtain ⟨gF, rfl, hgF, _, hcF⟩ := hc3 0 pl.rvSch rfl; have hcF' : w3.cell? ⟨gF, 0, none⟩ = some (.string ⟨#[115, 101, 97, 114, 99, 104]⟩) := hcF; have hln : (pl.rvSch :: as1).length = as1.length + 1 := (by simp); rw [hln] at HS3 ⊢; have hC3 := HC.out.below hb3; have hgF3 := hgF; have HK3 := Lib.hid (HK.out.below hb3 HK.out.lt); have HC3 := Lib.hid hC3; have HB3 := Lib.hid (HB.out.trans (hb3.mono (Nat.le_of_lt HK.out.lt))); clear hb3 hS3 hc3 hcF hln hC3 hgF)
            | (at_make; refine wpList_make_own _ rfl _ _ 31 rfl (gc + 1) 9 i0 (.string ⟨#[]⟩) 1 Tryd.underlying31 hi0 hz0 hz1 _ _ _ as1.length rfl rfl (by omega) (by rw [hz2]; omega) (by unfold maxLen; omega) (by have := HC3.out.1.lt; omega) ?_; intro w5 hw5 hg5; obtain ⟨hbk5, hC5⟩ := HC3.out.fresh (v9 := .slice (some ⟨w3.heap.size, 0, none⟩) 0 as1.length) hw5 hg5 rfl (Nat.lt_succ_self gc); have c51 : w5.cell? ⟨gc, 1, none⟩ = some vq := hbk5.cell 1; have f51 := hbk5.frozen 1; have HK5 := Lib.hid (HK3.out.keep (hg5.block gf HK3.out.lt (by simp))); have HS5 := Lib.hid (HS3.out.grown hg5 (by right; intro e; have := HS3.out.row; simp [Value.ownBlock] at e)); have HB5 := Lib.hid (HB3.out.grown hg5 (Nat.le_of_lt HK3.out.lt) (fun k hk => by cases hk)); have HC5 := Lib.hid hC5; clear hw5 hg5 hC5 hbk5))
          obtain ⟨wo, rfl⟩ : ∃ wo : World, wo = wr := ⟨_, rfl⟩
          have HG3 := Lib.hid hgF3
          clear hgF3
          go_loopg [11] as1.length (fun g iv wq => ∃ i : Nat, i ≤ as1.length ∧ g = as1.length - i ∧ iv = .int .i64 ((i : Int) + 1) ∧ Hid (Blk wq gf #[.string ⟨(pl.ltext ((its.map (·.1)).drop (j + 1))).toArray⟩] 105) ∧
            Hid (∃ vq2, RvC wq (gc + 1) gc { st with se := (as1.take i).map pl.rooted } vs vq2 ∧ vq2.ownBlock ≠ some gF) ∧ Hid (Strs wq (gc + 1) (.slice (some ⟨gF, 0, none⟩) (as1.length + 1) c3) (pl.rvSch :: as1)) ∧ Hid (Below gf w0 wq))
          case atStart => exact ⟨0, Nat.zero_le _, rfl, rfl, Lib.hid (HK5.out.other gc 1 _ (by have := HGL.out; omega)), Lib.hid ⟨_, HC5.out, by simp only [Value.ownBlock, ne_eq, Option.some.injEq]; have := HG3.out; omega⟩, Lib.hid (HS5.out.far gc 1 _ (Nat.lt_succ_self gc)), Lib.hid (HB5.out.setCell (p := ⟨gc, 1, none⟩) (by show gf ≤ gc; have := HGL.out; omega) _)⟩
          case round =>
            obtain ⟨i, hi, hgi, rfl, HKq, HCe, HSq, HBq⟩ := hrel
            obtain ⟨vq2, hCq, hnq⟩ := HCe.out
            by_cases hli : i < as1.length
            · obtain ⟨q, hq⟩ : ∃ q, as1[i]? = some q := ⟨_, List.getElem?_eq_getElem hli⟩
              obtain ⟨hpq, hql⟩ := HPL.out q (List.mem_of_getElem? hq)
              obtain ⟨af, cf, heq, hcf⟩ := HSq.out.form
              obtain ⟨gq, haq, _, _, hcell⟩ := hcf (i + 1) q (by simpa using hq)
              injection heq with e1 e2 e3
              rw [haq] at e1
              injection e1 with e1
              injection e1 with e1
              subst e1
              obtain ⟨Q, hQ⟩ : ∃ Q : ByteArray, (⟨q.toArray⟩ : ByteArray) = Q := ⟨_, rfl⟩
              have hcell' : wr.cell? ⟨gF, i + 1, none⟩ = some (.string Q) := by rw [hcell, ← hQ]; rfl
              have hQs : Q.size ≤ 2147483647 := by rw [← hQ]; exact hql
              have hQd : Q.data.toList = q := by rw [← hQ]
              have hro := fun W => root_any Q W (by omega)
              rw [hQd] at hro
              obtain ⟨RB, hRB⟩ : ∃ RB : ByteArray, (⟨(pl.rooted q).toArray⟩ : ByteArray) = RB := ⟨_, rfl⟩
              have hdot : (RB.toList == [46]) = false := by
                rw [beq_eq_false_iff_ne, Lib.toList_data, ← hRB]
                exact pl.rooted_ne q hpq
              have hRv : (.string RB : Value) = pl.strV (pl.rooted q) := by rw [← hRB]; rfl
              rw [hRB] at hro
              have htk : (as1.take (i + 1)).map pl.rooted = (as1.take i).map pl.rooted ++ [pl.rooted q] := by rw [pl.take_at as1 i q hq, List.map_append]; rfl
              obtain ⟨aw, cw, rfl, _⟩ := hCq.2.2.1.form
              obtain ⟨n2, hn2⟩ : ∃ n2, ((as1.take i).map pl.rooted).length = n2 := ⟨_, rfl⟩
              have hn2' : ((as1.take i).map pl.rooted).length < 8796093022207 := by rw [List.length_map]; have := List.length_take_le' i as1; omega
              have hLn : (({ st with se := (as1.take i).map pl.rooted } : RSt).se).length = n2 := hn2
              rw [hLn] at hCq hnq
              have c1 : wr.cell? ⟨gc, 1, none⟩ = some (.slice aw n2 cw) := hCq.1.cell 1
              have hal : Below wr.heap.size wr (wr.alloc (Obj.cells #[.string RB] 9)) := (Below.refl _ _).alloc (Nat.le_refl _) _
              have hgB : gc + 1 ≤ wr.heap.size := hCq.1.lt
              have HTK := Lib.hid htk
              have HRO := Lib.hid hro
              have HCq := Lib.hid hCq
              have HNQ := Lib.hid hnq
              have HRV := Lib.hid hRv
              have HN2 := Lib.hid hn2'
              have HAL := Lib.hid hal
              have HGB := Lib.hid hgB
              have hgi2 : (0 : Int) ≤ (i : Int) + 1 := by omega
              clear htk hro hRv hn2' hal hgB hcell hcf e2 e3 haq hQ hQd hQs hRB hpq hql hq hLn hn2 hCq hnq
              go_wp2_with (first
                | (go_at_call 89; refine (HRO.out _).mono ?_; rintro e w8 ⟨rfl, rfl⟩)
                | (at_builtin; refine app_str_at (v := .slice aw n2 cw) (pl.rooted q) rfl _ _ rfl rfl (gc + 1) HCq.out.2.2.1 rfl HRV.out HN2.out HGB.out ?_; intro v9 w9 hv9 hg9 hp9; obtain ⟨hbk9, hC9⟩ := HCq.out.pushq HAL.out hv9 hg9 (by simpa using hp9) (Nat.lt_succ_self gc); have c91 : w9.cell? ⟨gc, 1, none⟩ = some (.slice aw n2 cw) := hbk9.cell 1; have f91 := hbk9.frozen 1; have HC9 := Lib.hid hC9; have HG9 := Lib.hid hg9; have HV9 := Lib.hid hv9; have HP9 := Lib.hid hp9; clear hg9 hp9 hC9 hbk9; obtain ⟨a9, c9, rfl, _⟩ := hv9.form; obtain ⟨n9, hn9⟩ : ∃ n9, ((({ st with se := (as1.take i).map pl.rooted } : RSt).se) ++ [pl.rooted q]).length = n9 := ⟨_, rfl⟩; rw [hn9] at HC9 HV9 HP9 ⊢; clear hv9 hn9))
              have hk9 : Blk w9 gf #[.string ⟨(pl.ltext ((its.map (·.1)).drop (j + 1))).toArray⟩] 105 := (HKq.out.below HAL.out HKq.out.lt).keep (HG9.out.block gf (HKq.out.below HAL.out HKq.out.lt).lt (by intro e; have h1 := strs_row HCq.out.2.2.1 e; have h2 := HGL.out; omega))
              have hs9 : Strs w9 (gc + 1) (.slice (some ⟨gF, 0, none⟩) (as1.length + 1) c3) (pl.rvSch :: as1) := (HSq.out.below HAL.out).grown HG9.out (.inr (fun e => HNQ.out e.symm))
              have hb9 : Below gf w0 w9 := (HBq.out.trans (HAL.out.mono (Nat.le_of_lt HKq.out.lt))).grown HG9.out (by have h1 := HGB.out; have h2 := HGL.out; have h3 := HAL.out.size; omega) (fun k hk => by have h1 := strs_row HCq.out.2.2.1 hk.symm; have h2 := HGL.out; omega)
              have HK10 := Lib.hid (hk9.other gc 1 (.slice a9 n9 c9) (by have := HGL.out; omega))
              have HS10 := Lib.hid (hs9.far gc 1 (.slice a9 n9 c9) (Nat.lt_succ_self gc))
              have HB10 := Lib.hid (hb9.setCell (p := ⟨gc, 1, none⟩) (by show gf ≤ gc; have := HGL.out; omega) (.slice a9 n9 c9))
              have hnew : (Value.slice a9 n9 c9).ownBlock ≠ some gF := by
                intro e
                rcases HP9.out with h | h
                · exact HNQ.out (h.symm.trans e)
                · rw [e] at h
                  injection h with h
                  rcases HSq.out.row with h2 | ⟨r, h2, _, h3⟩
                  · simp [Value.ownBlock] at h2
                  · simp only [Value.ownBlock, Option.some.injEq] at h2; omega
              have HNEW := Lib.hid hnew
              clear hk9 hs9 hb9 hnew
              go_roundg (as1.length - (i + 1))
              case measure => omega
              case rel => exact ⟨i + 1, by omega, rfl, by go_num, HK10, Lib.hid ⟨_, by rw [HTK.out]; exact HC9.out, HNEW.out⟩, HS10, HB10⟩
            · have hie : as1.take i = as1 := List.take_of_length_le (by omega)
              rw [hie] at hCq
              have HCF := Lib.hid hCq
              have HKE := HKq
              clear hie hCq hnq
              go_wp2_with (go_at_call 83; have hx0 := HKE; refine (HRL1.out _ HKE.out).mono ?_; rintro e w4 ⟨rfl, HK4, HKG4, HBL4⟩)
              go_roundg (its.length - (j + 1))
              case measure => omega
              case rel => exact ⟨j + 1, by omega, rfl, rfl, rfl, HK4, Lib.hid ⟨_, _, by rw [HST.out]; exact HCF.out.only HKG4.out (by have := HGL.out; omega) (by have := HGL.out; omega)⟩, Lib.hid (HBL4.out _ _ HBq.out (Nat.le_refl _))⟩
        · obtain ⟨hwd, h20, hoo, hne⟩ := hok.opt rfl
          have hpos : 0 < os.length := List.length_pos_iff.2 hne
          have hwd' : pl.words pl.ws ln = pl.rvOpt :: os.map pl.optTx := hwd
          have h20' : os.length ≤ 20 := h20
          have hoo' : ∀ o ∈ os, pl.optOk o = true := hoo
          rw [hwd'] at hfS
          have HFF := Lib.hid hfS
          have HOOs := Lib.hid hoo'
          clear hfS hwd hwd' hoo hoo' hok h20 hne
          go_wp2_with (first
            | (go_at_call 84; refine (HFF.out _).mono ?_; go_loud (rintro e w3 ⟨v3, rfl, hS3, hb3⟩; have HS3 := Lib.hid (hS3.mono (Nat.le_trans HC.out.1.lt (Nat.le_refl _))); obtain ⟨a3, c3, rfl, hc3⟩ := hS3.form; obtain ⟨gF, rfl, _, _, hcF⟩ := hc3 0 pl.rvOpt rfl; have hcF' : w3.cell? ⟨gF, 0, none⟩ = some (.string ⟨#[111, 112, 116, 105, 111, 110, 115]⟩) := hcF; have hln : (pl.rvOpt :: os.map pl.optTx).length = os.length + 1 := (by simp); rw [hln] at HS3 ⊢; have hcap := (strs_cap HS3.out).2; have hcap1 : ¬ (c3 = 1) := (by omega); have HK3 := Lib.hid (HK.out.below hb3 HK.out.lt); have HC3 := Lib.hid (HC.out.below hb3); have HB3 := Lib.hid (HB.out.trans (hb3.mono (Nat.le_of_lt HK.out.lt))); clear hb3 hS3 hc3 hcF hln)))
          obtain ⟨wo, rfl⟩ : ∃ wo : World, wo = wr := ⟨_, rfl⟩
          go_loopg [146] os.length (fun g iv wq => ∃ i : Nat, i ≤ os.length ∧ g = os.length - i ∧ iv = .int .i64 i ∧ Hid (Blk wq gf #[.string ⟨(pl.ltext ((its.map (·.1)).drop (j + 1))).toArray⟩] 105) ∧
            Hid (RvC wq (gc + 1) gc ((os.take i).foldl pl.rOpt (pl.rRun (its.take j) pl.rZero)) vs vq) ∧ Hid (Strs wq (gc + 1) (.slice (some ⟨gF, 0, none⟩) (os.length + 1) c3) (pl.rvOpt :: os.map pl.optTx)) ∧ Hid (Below gf w0 wq))
          case atStart => exact ⟨0, Nat.zero_le _, rfl, rfl, HK3, HC3, HS3, HB3⟩
          case round =>
            obtain ⟨i, hi, hgi, rfl, HKq, HCq, HSq, HBq⟩ := hrel
            by_cases hli : i < os.length
            · obtain ⟨o, ho⟩ : ∃ o, os[i]? = some o := ⟨_, List.getElem?_eq_getElem hli⟩
              obtain ⟨k, n⟩ := o
              have hoo := HOOs.out _ (List.mem_of_getElem? ho)
              obtain ⟨aq, cq, heq, hcq⟩ := HSq.out.form
              obtain ⟨gq, haq, hgq, _, hcell⟩ := hcq (i + 1) (pl.optTx (k, n)) (by simp [ho])
              injection heq with e1 e2 e3
              rw [haq] at e1
              injection e1 with e1
              injection e1 with e1
              subst e1
              obtain ⟨T, hT⟩ : ∃ T : ByteArray, (⟨(pl.optTx (k, n)).toArray⟩ : ByteArray) = T := ⟨_, rfl⟩
              have hTD : T.data.toList = pl.optTx (k, n) := by rw [← hT]
              have hTS : T.size ≤ 100 := by rw [← hT]; exact (pl.optTx_ok (k, n) hoo).2.2
              have hcell' : wr.cell? ⟨gF, 1 + i, none⟩ = some (.string T) := by rw [Nat.add_comm 1 i, hcell, ← hT]; rfl
              have htk : (os.take (i + 1)).foldl pl.rOpt (pl.rRun (its.take j) pl.rZero) = pl.rOpt ((os.take i).foldl pl.rOpt (pl.rRun (its.take j) pl.rZero)) (k, n) := by
                rw [pl.take_at os i _ ho, List.foldl_append]; rfl
              obtain ⟨st, hst0⟩ : ∃ st, (os.take i).foldl pl.rOpt (pl.rRun (its.take j) pl.rZero) = st := ⟨_, rfl⟩
              rw [hst0] at HCq htk
              have HTK := Lib.hid htk
              have HTD := Lib.hid hTD
              have HTS := Lib.hid hTS
              have HOO := Lib.hid hoo
              have hr := pl.optOk_range (k, n) hoo
              have hr1 : 0 ≤ k := hr.1
              have hr2 : k < 9 := hr.2.1
              have fz : ∀ c, wr.frozen? ⟨gc, c, none⟩ = false := fun c => HCq.out.1.frozen c
              have x2 : wr.cell? ⟨gc, 2, none⟩ = some (.int .i64 st.nd) := HCq.out.1.cell 2
              have x3 : wr.cell? ⟨gc, 3, none⟩ = some (.int .i64 st.tm) := HCq.out.1.cell 3
              have x4 : wr.cell? ⟨gc, 4, none⟩ = some (.int .i64 st.att) := HCq.out.1.cell 4
              have x5 : wr.cell? ⟨gc, 5, none⟩ = some (.bool st.ro) := HCq.out.1.cell 5
              have x8 : wr.cell? ⟨gc, 8, none⟩ = some (.bool st.si) := HCq.out.1.cell 8
              have x9 : wr.cell? ⟨gc, 9, none⟩ = some (.bool st.tc) := HCq.out.1.cell 9
              have x10 : wr.cell? ⟨gc, 10, none⟩ = some (.bool st.ta) := HCq.out.1.cell 10
              have x11 : wr.cell? ⟨gc, 11, none⟩ = some (.bool st.nr) := HCq.out.1.cell 11
              have hgfc := HGL.out
              have hk9 : k = 0 ∨ k = 1 ∨ k = 2 ∨ k = 3 ∨ k = 4 ∨ k = 5 ∨ k = 6 ∨ k = 7 ∨ k = 8 := by omega
              clear hr hr1 hr2 hcq hcell e2 e3 haq hgq hoo hTD hTS hT ho htk hst0
              have mk0 := Lib.hid trivial
              rcases hk9 with rfl | rfl | rfl | rfl | rfl | rfl | rfl | rfl | rfl
              · as_aux_lemma =>
                have hrg := (pl.optOk_range (0, n) HOO.out).2.2 (by show (0 : Int) ≤ 2; decide)
                obtain ⟨N, rfl⟩ : ∃ N : Nat, n = (N : Int) := ⟨n.toNat, by have : 0 ≤ n := hrg.1; omega⟩
                have hlo := pl.opt_lo0 N HOO.out
                have htx : pl.optTx (0, (N : Int)) = pl.optNm 0 ++ ([58] ++ pl.num 10 N) := by rw [pl.optTx_num 0 N (by decide)]; rfl
                have hTd : T.data.toList = pl.optNm 0 ++ ([58] ++ pl.num 10 N) := by rw [HTD.out, htx]
                have hp0 := fun W => hp_any T ⟨#[110, 100, 111, 116, 115, 58]⟩ true W (by have := HTS.out; omega) (by decide) (by rw [hTd]; simp [pl.pre, pl.optNm])
                obtain ⟨NB, hNB⟩ : ∃ NB : ByteArray, T.extract 6 T.size = NB := ⟨_, rfl⟩
                have hTsz : T.size = 6 + (pl.num 10 N).length := by
                  have h1 : T.data.toList.length = T.size := by simp
                  rw [hTd] at h1
                  simp [pl.optNm] at h1
                  omega
                have hNd : NB.data.toList = pl.num 10 N := by
                  rw [← hNB, Lib.extract_data, hTd, hTsz]
                  simp [pl.optNm]
                have hNs : NB.size ≤ 64 := by
                  have h1 : NB.data.toList.length = NB.size := by simp
                  rw [hNd] at h1
                  have := pl.num_len10 N
                  omega
                obtain ⟨d1, d2, d3⟩ := pl.num_val N (by have := hrg.2; omega)
                have hdt : pl.dt NB.data.toList 0 0 = (N, (pl.num 10 N).length, true) := by
                  have h1 := pl.dt_app (pl.num 10 N) [] 0 0 d1 (by rw [d2]; have := hrg.2; omega)
                  rw [List.append_nil, d2, pl.dt_stop [] _ _ (by have := List.length_pos_iff.2 d3; omega) (fun b hb => by simp at hb)] at h1
                  rw [hNd, h1]
                  simp
                have hdi := fun W => dtoi_any NB W (by omega)
                rw [hdt] at hdi
                have hT6 : ((6 : Int) ≤ (T.size : Int)) := by omega
                have hx1 : ¬ ((N : Int) < 0) := by omega
                have hx2 : ¬ ((15 : Int) < (N : Int)) ∨ True := .inr trivial
                have hx15 : ¬ ((15 : Int) < (N : Int)) := by have := pl.opt_hi0 N HOO.out; omega
                have HDI := Lib.hid hdi
                have HP0 := Lib.hid hp0
                clear hdi hdt d1 d2 d3 hNd hNs hTsz hTd htx hx2 hrg hlo hp0
                have hst := HCq.out.store (s' := pl.rOpt st (0, (N : Int))) (by omega) 2 (.int .i64 (N : Int)) rfl rfl rfl
                go_wp2_with (first
                  | (go_at_call 90; have hx0 := mk0; clear hx0 mk0; refine (HP0.out _).mono ?_; rintro e w9 ⟨rfl, rfl⟩; have mk1 := Lib.hid trivial)
                  | (go_at_call 72; refine (HDI.out _).mono ?_; rintro e w9 ⟨rfl, rfl⟩))
                have hS9 := HSq.out.far gc 2 (.int .i64 (N : Int)) (by omega)
                have hK9 := HKq.out.other gc 2 (.int .i64 (N : Int)) (by omega)
                have hB9 := HBq.out.setCell (p := ⟨gc, 2, none⟩) (by show gf ≤ gc; omega) (.int .i64 (N : Int))
                have HST9 : Hid (RvC _ (gc + 1) gc ((os.take (i + 1)).foldl pl.rOpt (pl.rRun (its.take j) pl.rZero)) vs vq) := Lib.hid (by rw [HTK.out]; exact hst)
                have HS9 := Lib.hid hS9
                have HK9 := Lib.hid hK9
                have HB9 := Lib.hid hB9
                clear hst hS9 hK9 hB9
                go_roundg (os.length - (i + 1))
                case measure => omega
                case rel => exact ⟨i + 1, by omega, rfl, by go_num, HK9, HST9, HS9, HB9⟩
              · as_aux_lemma =>
                have hrg := (pl.optOk_range (1, n) HOO.out).2.2 (by show (1 : Int) ≤ 2; decide)
                obtain ⟨N, rfl⟩ : ∃ N : Nat, n = (N : Int) := ⟨n.toNat, by have : 0 ≤ n := hrg.1; omega⟩
                have hlo := pl.opt_lo1 N HOO.out
                have htx : pl.optTx (1, (N : Int)) = pl.optNm 1 ++ ([58] ++ pl.num 10 N) := by rw [pl.optTx_num 1 N (by decide)]; rfl
                have hTd : T.data.toList = pl.optNm 1 ++ ([58] ++ pl.num 10 N) := by rw [HTD.out, htx]
                have hp0 := fun W => hp_any T ⟨#[110, 100, 111, 116, 115, 58]⟩ false W (by have := HTS.out; omega) (by decide) (by rw [hTd]; simp [pl.pre, pl.optNm])
                have hp1 := fun W => hp_any T ⟨#[116, 105, 109, 101, 111, 117, 116, 58]⟩ true W (by have := HTS.out; omega) (by decide) (by rw [hTd]; simp [pl.pre, pl.optNm])
                obtain ⟨NB, hNB⟩ : ∃ NB : ByteArray, T.extract 8 T.size = NB := ⟨_, rfl⟩
                have hTsz : T.size = 8 + (pl.num 10 N).length := by
                  have h1 : T.data.toList.length = T.size := by simp
                  rw [hTd] at h1
                  simp [pl.optNm] at h1
                  omega
                have hNd : NB.data.toList = pl.num 10 N := by
                  rw [← hNB, Lib.extract_data, hTd, hTsz]
                  simp [pl.optNm]
                have hNs : NB.size ≤ 64 := by
                  have h1 : NB.data.toList.length = NB.size := by simp
                  rw [hNd] at h1
                  have := pl.num_len10 N
                  omega
                obtain ⟨d1, d2, d3⟩ := pl.num_val N (by have := hrg.2; omega)
                have hdt : pl.dt NB.data.toList 0 0 = (N, (pl.num 10 N).length, true) := by
                  have h1 := pl.dt_app (pl.num 10 N) [] 0 0 d1 (by rw [d2]; have := hrg.2; omega)
                  rw [List.append_nil, d2, pl.dt_stop [] _ _ (by have := List.length_pos_iff.2 d3; omega) (fun b hb => by simp at hb)] at h1
                  rw [hNd, h1]
                  simp
                have hdi := fun W => dtoi_any NB W (by omega)
                rw [hdt] at hdi
                have hT8 : ((8 : Int) ≤ (T.size : Int)) := by omega
                have hx1 : ¬ ((N : Int) < 1) := by omega
                have hx2 : ¬ ((15 : Int) < (N : Int)) ∨ True := .inr trivial
                have HDI := Lib.hid hdi
                have HP0 := Lib.hid hp0
                have HP1 := Lib.hid hp1
                clear hdi hdt d1 d2 d3 hNd hNs hTsz hTd htx hx2 hrg hlo hp0 hp1
                have hst := HCq.out.store (s' := pl.rOpt st (1, (N : Int))) (by omega) 3 (.int .i64 (N : Int)) rfl rfl rfl
                go_wp2_with (first
                  | (go_at_call 90; have hx0 := mk1; clear hx0 mk1; refine (HP1.out _).mono ?_; rintro e w9 ⟨rfl, rfl⟩; have mk2 := Lib.hid trivial)
                  | (go_at_call 90; have hx0 := mk0; clear hx0 mk0; refine (HP0.out _).mono ?_; rintro e w9 ⟨rfl, rfl⟩; have mk1 := Lib.hid trivial)
                  | (go_at_call 72; refine (HDI.out _).mono ?_; rintro e w9 ⟨rfl, rfl⟩))
                have hS9 := HSq.out.far gc 3 (.int .i64 (N : Int)) (by omega)
                have hK9 := HKq.out.other gc 3 (.int .i64 (N : Int)) (by omega)
                have hB9 := HBq.out.setCell (p := ⟨gc, 3, none⟩) (by show gf ≤ gc; omega) (.int .i64 (N : Int))
                have HST9 : Hid (RvC _ (gc + 1) gc ((os.take (i + 1)).foldl pl.rOpt (pl.rRun (its.take j) pl.rZero)) vs vq) := Lib.hid (by rw [HTK.out]; exact hst)
                have HS9 := Lib.hid hS9
                have HK9 := Lib.hid hK9
                have HB9 := Lib.hid hB9
                clear hst hS9 hK9 hB9
                go_roundg (os.length - (i + 1))
                case measure => omega
                case rel => exact ⟨i + 1, by omega, rfl, by go_num, HK9, HST9, HS9, HB9⟩
              · as_aux_lemma =>
                have hrg := (pl.optOk_range (2, n) HOO.out).2.2 (by show (2 : Int) ≤ 2; decide)
                obtain ⟨N, rfl⟩ : ∃ N : Nat, n = (N : Int) := ⟨n.toNat, by have : 0 ≤ n := hrg.1; omega⟩
                have hlo := pl.opt_lo2 N HOO.out
                have htx : pl.optTx (2, (N : Int)) = pl.optNm 2 ++ ([58] ++ pl.num 10 N) := by rw [pl.optTx_num 2 N (by decide)]; rfl
                have hTd : T.data.toList = pl.optNm 2 ++ ([58] ++ pl.num 10 N) := by rw [HTD.out, htx]
                have hp0 := fun W => hp_any T ⟨#[110, 100, 111, 116, 115, 58]⟩ false W (by have := HTS.out; omega) (by decide) (by rw [hTd]; simp [pl.pre, pl.optNm])
                have hp1 := fun W => hp_any T ⟨#[116, 105, 109, 101, 111, 117, 116, 58]⟩ false W (by have := HTS.out; omega) (by decide) (by rw [hTd]; simp [pl.pre, pl.optNm])
                have hp2 := fun W => hp_any T ⟨#[97, 116, 116, 101, 109, 112, 116, 115, 58]⟩ true W (by have := HTS.out; omega) (by decide) (by rw [hTd]; simp [pl.pre, pl.optNm])
                obtain ⟨NB, hNB⟩ : ∃ NB : ByteArray, T.extract 9 T.size = NB := ⟨_, rfl⟩
                have hTsz : T.size = 9 + (pl.num 10 N).length := by
                  have h1 : T.data.toList.length = T.size := by simp
                  rw [hTd] at h1
                  simp [pl.optNm] at h1
                  omega
                have hNd : NB.data.toList = pl.num 10 N := by
                  rw [← hNB, Lib.extract_data, hTd, hTsz]
                  simp [pl.optNm]
                have hNs : NB.size ≤ 64 := by
                  have h1 : NB.data.toList.length = NB.size := by simp
                  rw [hNd] at h1
                  have := pl.num_len10 N
                  omega
                obtain ⟨d1, d2, d3⟩ := pl.num_val N (by have := hrg.2; omega)
                have hdt : pl.dt NB.data.toList 0 0 = (N, (pl.num 10 N).length, true) := by
                  have h1 := pl.dt_app (pl.num 10 N) [] 0 0 d1 (by rw [d2]; have := hrg.2; omega)
                  rw [List.append_nil, d2, pl.dt_stop [] _ _ (by have := List.length_pos_iff.2 d3; omega) (fun b hb => by simp at hb)] at h1
                  rw [hNd, h1]
                  simp
                have hdi := fun W => dtoi_any NB W (by omega)
                rw [hdt] at hdi
                have hT9 : ((9 : Int) ≤ (T.size : Int)) := by omega
                have hx1 : ¬ ((N : Int) < 1) := by omega
                have hx2 : ¬ ((15 : Int) < (N : Int)) ∨ True := .inr trivial
                have HDI := Lib.hid hdi
                have HP0 := Lib.hid hp0
                have HP1 := Lib.hid hp1
                have HP2 := Lib.hid hp2
                clear hdi hdt d1 d2 d3 hNd hNs hTsz hTd htx hx2 hrg hlo hp0 hp1 hp2
                have hst := HCq.out.store (s' := pl.rOpt st (2, (N : Int))) (by omega) 4 (.int .i64 (N : Int)) rfl rfl rfl
                go_wp2_with (first
                  | (go_at_call 90; have hx0 := mk2; clear hx0 mk2; refine (HP2.out _).mono ?_; rintro e w9 ⟨rfl, rfl⟩; have mk3 := Lib.hid trivial)
                  | (go_at_call 90; have hx0 := mk1; clear hx0 mk1; refine (HP1.out _).mono ?_; rintro e w9 ⟨rfl, rfl⟩; have mk2 := Lib.hid trivial)
                  | (go_at_call 90; have hx0 := mk0; clear hx0 mk0; refine (HP0.out _).mono ?_; rintro e w9 ⟨rfl, rfl⟩; have mk1 := Lib.hid trivial)
                  | (go_at_call 72; refine (HDI.out _).mono ?_; rintro e w9 ⟨rfl, rfl⟩))
                have hS9 := HSq.out.far gc 4 (.int .i64 (N : Int)) (by omega)
                have hK9 := HKq.out.other gc 4 (.int .i64 (N : Int)) (by omega)
                have hB9 := HBq.out.setCell (p := ⟨gc, 4, none⟩) (by show gf ≤ gc; omega) (.int .i64 (N : Int))
                have HST9 : Hid (RvC _ (gc + 1) gc ((os.take (i + 1)).foldl pl.rOpt (pl.rRun (its.take j) pl.rZero)) vs vq) := Lib.hid (by rw [HTK.out]; exact hst)
                have HS9 := Lib.hid hS9
                have HK9 := Lib.hid hK9
                have HB9 := Lib.hid hB9
                clear hst hS9 hK9 hB9
                go_roundg (os.length - (i + 1))
                case measure => omega
                case rel => exact ⟨i + 1, by omega, rfl, by go_num, HK9, HST9, HS9, HB9⟩
              · as_aux_lemma =>
                have hTe : T = ⟨#[114, 111, 116, 97, 116, 101]⟩ := pl.ba_ext (by rw [HTD.out, pl.optTx_flag 3 n (by decide)]; rfl)
                subst hTe
                have HP0 := Lib.hid (fun W => hp_any ⟨#[114, 111, 116, 97, 116, 101]⟩ ⟨#[110, 100, 111, 116, 115, 58]⟩ false W (by decide) (by decide) (by decide))
                have HP1 := Lib.hid (fun W => hp_any ⟨#[114, 111, 116, 97, 116, 101]⟩ ⟨#[116, 105, 109, 101, 111, 117, 116, 58]⟩ false W (by decide) (by decide) (by decide))
                have HP2 := Lib.hid (fun W => hp_any ⟨#[114, 111, 116, 97, 116, 101]⟩ ⟨#[97, 116, 116, 101, 109, 112, 116, 115, 58]⟩ false W (by decide) (by decide) (by decide))
                have hst := HCq.out.store (s' := pl.rOpt st (3, n)) (by omega) 5 (.bool true) rfl rfl rfl
                go_wp2_with (first
                  | (go_at_call 90; have hx0 := mk0; clear hx0 mk0; refine (HP0.out _).mono ?_; rintro e w9 ⟨rfl, rfl⟩; have mk1 := Lib.hid trivial)
                  | (go_at_call 90; have hx0 := mk1; clear hx0 mk1; refine (HP1.out _).mono ?_; rintro e w9 ⟨rfl, rfl⟩; have mk2 := Lib.hid trivial)
                  | (go_at_call 90; have hx0 := mk2; clear hx0 mk2; refine (HP2.out _).mono ?_; rintro e w9 ⟨rfl, rfl⟩; have mk3 := Lib.hid trivial))
                have hS9 := HSq.out.far gc 5 (.bool true) (by omega)
                have hK9 := HKq.out.other gc 5 (.bool true) (by omega)
                have hB9 := HBq.out.setCell (p := ⟨gc, 5, none⟩) (by show gf ≤ gc; omega) (.bool true)
                have HST9 : Hid (RvC _ (gc + 1) gc ((os.take (i + 1)).foldl pl.rOpt (pl.rRun (its.take j) pl.rZero)) vs vq) := Lib.hid (by rw [HTK.out]; exact hst)
                have HS9 := Lib.hid hS9
                have HK9 := Lib.hid hK9
                have HB9 := Lib.hid hB9
                clear hst hS9 hK9 hB9
                go_roundg (os.length - (i + 1))
                case measure => omega
                case rel => exact ⟨i + 1, by omega, rfl, by go_num, HK9, HST9, HS9, HB9⟩
              · as_aux_lemma =>
                have hTe : T = ⟨#[115, 105, 110, 103, 108, 101, 45, 114, 101, 113, 117, 101, 115, 116]⟩ := pl.ba_ext (by rw [HTD.out, pl.optTx_flag 4 n (by decide)]; rfl)
                subst hTe
                have HP0 := Lib.hid (fun W => hp_any ⟨#[115, 105, 110, 103, 108, 101, 45, 114, 101, 113, 117, 101, 115, 116]⟩ ⟨#[110, 100, 111, 116, 115, 58]⟩ false W (by decide) (by decide) (by decide))
                have HP1 := Lib.hid (fun W => hp_any ⟨#[115, 105, 110, 103, 108, 101, 45, 114, 101, 113, 117, 101, 115, 116]⟩ ⟨#[116, 105, 109, 101, 111, 117, 116, 58]⟩ false W (by decide) (by decide) (by decide))
                have HP2 := Lib.hid (fun W => hp_any ⟨#[115, 105, 110, 103, 108, 101, 45, 114, 101, 113, 117, 101, 115, 116]⟩ ⟨#[97, 116, 116, 101, 109, 112, 116, 115, 58]⟩ false W (by decide) (by decide) (by decide))
                have hst := HCq.out.store (s' := pl.rOpt st (4, n)) (by omega) 8 (.bool true) rfl rfl rfl
                go_wp2_with (first
                  | (go_at_call 90; have hx0 := mk0; clear hx0 mk0; refine (HP0.out _).mono ?_; rintro e w9 ⟨rfl, rfl⟩; have mk1 := Lib.hid trivial)
                  | (go_at_call 90; have hx0 := mk1; clear hx0 mk1; refine (HP1.out _).mono ?_; rintro e w9 ⟨rfl, rfl⟩; have mk2 := Lib.hid trivial)
                  | (go_at_call 90; have hx0 := mk2; clear hx0 mk2; refine (HP2.out _).mono ?_; rintro e w9 ⟨rfl, rfl⟩; have mk3 := Lib.hid trivial))
                have hS9 := HSq.out.far gc 8 (.bool true) (by omega)
                have hK9 := HKq.out.other gc 8 (.bool true) (by omega)
                have hB9 := HBq.out.setCell (p := ⟨gc, 8, none⟩) (by show gf ≤ gc; omega) (.bool true)
                have HST9 : Hid (RvC _ (gc + 1) gc ((os.take (i + 1)).foldl pl.rOpt (pl.rRun (its.take j) pl.rZero)) vs vq) := Lib.hid (by rw [HTK.out]; exact hst)
                have HS9 := Lib.hid hS9
                have HK9 := Lib.hid hK9
                have HB9 := Lib.hid hB9
                clear hst hS9 hK9 hB9
                go_roundg (os.length - (i + 1))
                case measure => omega
                case rel => exact ⟨i + 1, by omega, rfl, by go_num, HK9, HST9, HS9, HB9⟩
              · as_aux_lemma =>
                have hTe : T = ⟨#[117, 115, 101, 45, 118, 99]⟩ := pl.ba_ext (by rw [HTD.out, pl.optTx_flag 5 n (by decide)]; rfl)
                subst hTe
                have HP0 := Lib.hid (fun W => hp_any ⟨#[117, 115, 101, 45, 118, 99]⟩ ⟨#[110, 100, 111, 116, 115, 58]⟩ false W (by decide) (by decide) (by decide))
                have HP1 := Lib.hid (fun W => hp_any ⟨#[117, 115, 101, 45, 118, 99]⟩ ⟨#[116, 105, 109, 101, 111, 117, 116, 58]⟩ false W (by decide) (by decide) (by decide))
                have HP2 := Lib.hid (fun W => hp_any ⟨#[117, 115, 101, 45, 118, 99]⟩ ⟨#[97, 116, 116, 101, 109, 112, 116, 115, 58]⟩ false W (by decide) (by decide) (by decide))
                have hst := HCq.out.store (s' := pl.rOpt st (5, n)) (by omega) 9 (.bool true) rfl rfl rfl
                go_wp2_with (first
                  | (go_at_call 90; have hx0 := mk0; clear hx0 mk0; refine (HP0.out _).mono ?_; rintro e w9 ⟨rfl, rfl⟩; have mk1 := Lib.hid trivial)
                  | (go_at_call 90; have hx0 := mk1; clear hx0 mk1; refine (HP1.out _).mono ?_; rintro e w9 ⟨rfl, rfl⟩; have mk2 := Lib.hid trivial)
                  | (go_at_call 90; have hx0 := mk2; clear hx0 mk2; refine (HP2.out _).mono ?_; rintro e w9 ⟨rfl, rfl⟩; have mk3 := Lib.hid trivial))
                have hS9 := HSq.out.far gc 9 (.bool true) (by omega)
                have hK9 := HKq.out.other gc 9 (.bool true) (by omega)
                have hB9 := HBq.out.setCell (p := ⟨gc, 9, none⟩) (by show gf ≤ gc; omega) (.bool true)
                have HST9 : Hid (RvC _ (gc + 1) gc ((os.take (i + 1)).foldl pl.rOpt (pl.rRun (its.take j) pl.rZero)) vs vq) := Lib.hid (by rw [HTK.out]; exact hst)
                have HS9 := Lib.hid hS9
                have HK9 := Lib.hid hK9
                have HB9 := Lib.hid hB9
                clear hst hS9 hK9 hB9
                go_roundg (os.length - (i + 1))
                case measure => omega
                case rel => exact ⟨i + 1, by omega, rfl, by go_num, HK9, HST9, HS9, HB9⟩
              · as_aux_lemma =>
                have hTe : T = ⟨#[116, 114, 117, 115, 116, 45, 97, 100]⟩ := pl.ba_ext (by rw [HTD.out, pl.optTx_flag 6 n (by decide)]; rfl)
                subst hTe
                have HP0 := Lib.hid (fun W => hp_any ⟨#[116, 114, 117, 115, 116, 45, 97, 100]⟩ ⟨#[110, 100, 111, 116, 115, 58]⟩ false W (by decide) (by decide) (by decide))
                have HP1 := Lib.hid (fun W => hp_any ⟨#[116, 114, 117, 115, 116, 45, 97, 100]⟩ ⟨#[116, 105, 109, 101, 111, 117, 116, 58]⟩ false W (by decide) (by decide) (by decide))
                have HP2 := Lib.hid (fun W => hp_any ⟨#[116, 114, 117, 115, 116, 45, 97, 100]⟩ ⟨#[97, 116, 116, 101, 109, 112, 116, 115, 58]⟩ false W (by decide) (by decide) (by decide))
                have hst := HCq.out.store (s' := pl.rOpt st (6, n)) (by omega) 10 (.bool true) rfl rfl rfl
                go_wp2_with (first
                  | (go_at_call 90; have hx0 := mk0; clear hx0 mk0; refine (HP0.out _).mono ?_; rintro e w9 ⟨rfl, rfl⟩; have mk1 := Lib.hid trivial)
                  | (go_at_call 90; have hx0 := mk1; clear hx0 mk1; refine (HP1.out _).mono ?_; rintro e w9 ⟨rfl, rfl⟩; have mk2 := Lib.hid trivial)
                  | (go_at_call 90; have hx0 := mk2; clear hx0 mk2; refine (HP2.out _).mono ?_; rintro e w9 ⟨rfl, rfl⟩; have mk3 := Lib.hid trivial))
                have hS9 := HSq.out.far gc 10 (.bool true) (by omega)
                have hK9 := HKq.out.other gc 10 (.bool true) (by omega)
                have hB9 := HBq.out.setCell (p := ⟨gc, 10, none⟩) (by show gf ≤ gc; omega) (.bool true)
                have HST9 : Hid (RvC _ (gc + 1) gc ((os.take (i + 1)).foldl pl.rOpt (pl.rRun (its.take j) pl.rZero)) vs vq) := Lib.hid (by rw [HTK.out]; exact hst)
                have HS9 := Lib.hid hS9
                have HK9 := Lib.hid hK9
                have HB9 := Lib.hid hB9
                clear hst hS9 hK9 hB9
                go_roundg (os.length - (i + 1))
                case measure => omega
                case rel => exact ⟨i + 1, by omega, rfl, by go_num, HK9, HST9, HS9, HB9⟩
              · as_aux_lemma =>
                have hTe : T = ⟨#[110, 111, 45, 114, 101, 108, 111, 97, 100]⟩ := pl.ba_ext (by rw [HTD.out, pl.optTx_flag 7 n (by decide)]; rfl)
                subst hTe
                have HP0 := Lib.hid (fun W => hp_any ⟨#[110, 111, 45, 114, 101, 108, 111, 97, 100]⟩ ⟨#[110, 100, 111, 116, 115, 58]⟩ false W (by decide) (by decide) (by decide))
                have HP1 := Lib.hid (fun W => hp_any ⟨#[110, 111, 45, 114, 101, 108, 111, 97, 100]⟩ ⟨#[116, 105, 109, 101, 111, 117, 116, 58]⟩ false W (by decide) (by decide) (by decide))
                have HP2 := Lib.hid (fun W => hp_any ⟨#[110, 111, 45, 114, 101, 108, 111, 97, 100]⟩ ⟨#[97, 116, 116, 101, 109, 112, 116, 115, 58]⟩ false W (by decide) (by decide) (by decide))
                have hst := HCq.out.store (s' := pl.rOpt st (7, n)) (by omega) 11 (.bool true) rfl rfl rfl
                go_wp2_with (first
                  | (go_at_call 90; have hx0 := mk0; clear hx0 mk0; refine (HP0.out _).mono ?_; rintro e w9 ⟨rfl, rfl⟩; have mk1 := Lib.hid trivial)
                  | (go_at_call 90; have hx0 := mk1; clear hx0 mk1; refine (HP1.out _).mono ?_; rintro e w9 ⟨rfl, rfl⟩; have mk2 := Lib.hid trivial)
                  | (go_at_call 90; have hx0 := mk2; clear hx0 mk2; refine (HP2.out _).mono ?_; rintro e w9 ⟨rfl, rfl⟩; have mk3 := Lib.hid trivial))
                have hS9 := HSq.out.far gc 11 (.bool true) (by omega)
                have hK9 := HKq.out.other gc 11 (.bool true) (by omega)
                have hB9 := HBq.out.setCell (p := ⟨gc, 11, none⟩) (by show gf ≤ gc; omega) (.bool true)
                have HST9 : Hid (RvC _ (gc + 1) gc ((os.take (i + 1)).foldl pl.rOpt (pl.rRun (its.take j) pl.rZero)) vs vq) := Lib.hid (by rw [HTK.out]; exact hst)
                have HS9 := Lib.hid hS9
                have HK9 := Lib.hid hK9
                have HB9 := Lib.hid hB9
                clear hst hS9 hK9 hB9
                go_roundg (os.length - (i + 1))
                case measure => omega
                case rel => exact ⟨i + 1, by omega, rfl, by go_num, HK9, HST9, HS9, HB9⟩
              · as_aux_lemma =>
                have hTe : T = ⟨#[101, 100, 110, 115, 48]⟩ := pl.ba_ext (by rw [HTD.out, pl.optTx_flag 8 n (by decide)]; rfl)
                subst hTe
                have HP0 := Lib.hid (fun W => hp_any ⟨#[101, 100, 110, 115, 48]⟩ ⟨#[110, 100, 111, 116, 115, 58]⟩ false W (by decide) (by decide) (by decide))
                have HP1 := Lib.hid (fun W => hp_any ⟨#[101, 100, 110, 115, 48]⟩ ⟨#[116, 105, 109, 101, 111, 117, 116, 58]⟩ false W (by decide) (by decide) (by decide))
                have HP2 := Lib.hid (fun W => hp_any ⟨#[101, 100, 110, 115, 48]⟩ ⟨#[97, 116, 116, 101, 109, 112, 116, 115, 58]⟩ false W (by decide) (by decide) (by decide))
                have hst : RvC wr (gc + 1) gc (pl.rOpt st (8, n)) vs vq := HCq.out
                go_wp2_with (first
                  | (go_at_call 90; have hx0 := mk0; clear hx0 mk0; refine (HP0.out _).mono ?_; rintro e w9 ⟨rfl, rfl⟩; have mk1 := Lib.hid trivial)
                  | (go_at_call 90; have hx0 := mk1; clear hx0 mk1; refine (HP1.out _).mono ?_; rintro e w9 ⟨rfl, rfl⟩; have mk2 := Lib.hid trivial)
                  | (go_at_call 90; have hx0 := mk2; clear hx0 mk2; refine (HP2.out _).mono ?_; rintro e w9 ⟨rfl, rfl⟩; have mk3 := Lib.hid trivial))
                have hS9 := HSq.out
                have hK9 := HKq.out
                have hB9 := HBq.out
                have HST9 : Hid (RvC _ (gc + 1) gc ((os.take (i + 1)).foldl pl.rOpt (pl.rRun (its.take j) pl.rZero)) vs vq) := Lib.hid (by rw [HTK.out]; exact hst)
                have HS9 := Lib.hid hS9
                have HK9 := Lib.hid hK9
                have HB9 := Lib.hid hB9
                clear hst hS9 hK9 hB9
                go_roundg (os.length - (i + 1))
                case measure => omega
                case rel => exact ⟨i + 1, by omega, rfl, by go_num, HK9, HST9, HS9, HB9⟩
            · have hie : os.take i = os := List.take_of_length_le (by omega)
              rw [hie] at HCq
              have hst : pl.rRun (its.take (j + 1)) pl.rZero = os.foldl pl.rOpt (pl.rRun (its.take j) pl.rZero) := HSTEP.out
              have HST := Lib.hid hst
              have HKE := HKq
              clear hst hie
              go_wp2_with (go_at_call 83; have hx0 := HKE; refine (HRL1.out _ HKE.out).mono ?_; rintro e w4 ⟨rfl, HK4, HKG4, HBL4⟩)
              go_roundg (its.length - (j + 1))
              case measure => omega
              case rel => exact ⟨j + 1, by omega, rfl, rfl, rfl, HK4, Lib.hid ⟨_, _, by rw [HST.out]; exact HCq.out.only HKG4.out (by have := HGL.out; omega) (by have := HGL.out; omega)⟩, Lib.hid (HBL4.out _ _ HBq.out (Nat.le_refl _))⟩
    · as_aux_lemma =>
      have hje : its.take j = its := List.take_of_length_le (by omega)
      have hnx := pl.lnx_end (its.map (·.1)) j (by omega)
      rw [hnx] at HK ⊢
      obtain ⟨vs, vq, hC⟩ := HCx.out
      rw [hje] at hC
      obtain ⟨st, hst⟩ : ∃ st, pl.rRun its pl.rZero = st := ⟨_, rfl⟩
      rw [hst] at hC
      obtain ⟨av, cv, rfl, _⟩ := hC.2.1.form
      obtain ⟨aq, cq, rfl, _⟩ := hC.2.2.1.form
      obtain ⟨n1, hn1⟩ : ∃ n1, st.sv.length = n1 := ⟨_, rfl⟩
      obtain ⟨n2, hn2⟩ : ∃ n2, st.se.length = n2 := ⟨_, rfl⟩
      have hs0 : (((n1 : Int) == 0) = true ∧ Hid (st.sv = [])) ∨ (((n1 : Int) == 0) = false ∧ Hid (st.sv ≠ [])) := by
        rcases h : st.sv with _ | ⟨x, l⟩
        · rw [h] at hn1; left; refine ⟨?_, Lib.hid rfl⟩; rw [← hn1]; rfl
        · rw [h] at hn1; right; refine ⟨?_, Lib.hid (by simp)⟩; rw [← hn1]; rw [beq_eq_false_iff_ne]; simp; omega
      have hq0 : (((n2 : Int) == 0) = true ∧ Hid (st.se = [])) ∨ (((n2 : Int) == 0) = false ∧ Hid (st.se ≠ [])) := by
        rcases h : st.se with _ | ⟨x, l⟩
        · rw [h] at hn2; left; refine ⟨?_, Lib.hid rfl⟩; rw [← hn2]; rfl
        · rw [h] at hn2; right; refine ⟨?_, Lib.hid (by simp)⟩; rw [← hn2]; rw [beq_eq_false_iff_ne]; simp; omega
      rw [hn1, hn2] at hC
      have HST := Lib.hid hst
      have HC := Lib.hid hC
      have y0 : wr.cell? ⟨gc, 0, none⟩ = some (.slice av n1 cv) := hC.1.cell 0
      have y1 : wr.cell? ⟨gc, 1, none⟩ = some (.slice aq n2 cq) := hC.1.cell 1
      have f0 := hC.1.frozen 0
      have f1 := hC.1.frozen 1
      have hgcl := hC.1.lt
      have HL0 := Lib.hid hgcl
      clear hnx hC hn1 hn2 hst hje hgcl
      have hgfc := HGL.out
      rcases hs0 with ⟨t1, hS⟩ | ⟨t1, hS⟩
      · rcases hq0 with ⟨t2, hQ⟩ | ⟨t2, hQ⟩
        · go_wp2_with (first
            | (go_at_call 91; refine (dns_any _).mono ?_; rintro e w2 ⟨v2, rfl, hS2, hb2⟩; obtain ⟨a2, k2, rfl, _⟩ := hS2.form; have hB2 := HC.out.1.below hb2 HC.out.1.lt; have c20 : w2.cell? ⟨gc, 0, none⟩ = some (.slice av n1 cv) := hB2.cell 0; have f20 := hB2.frozen 0; have hB3 := hB2.set 0 (.slice a2 2 k2); have c31 : (w2.setCell ⟨gc, 0, none⟩ (.slice a2 2 k2)).cell? ⟨gc, 1, none⟩ = some (.slice aq n2 cq) := hB3.cell 1; have hS3 := hS2.far gc 0 (.slice a2 2 k2) HL0.out; have HB3 := Lib.hid hB3; have HS3 := Lib.hid hS3; have HBl3 := Lib.hid ((HB.out.trans (hb2.mono (Nat.le_of_lt (Nat.lt_trans hgfc HL0.out)))).setCell (p := ⟨gc, 0, none⟩) (by show gf ≤ gc; omega) (.slice a2 2 k2)); have HL3 := Lib.hid hB3.lt; clear hb2 hS2 hS3 hB2 hB3)
            | (go_at_call 92; refine (dds_any _ _ HHH.out).mono ?_; rintro e w4 ⟨v4, rfl, hQ4, hb4⟩; obtain ⟨a4, k4, rfl, _⟩ := hQ4.form; have hB4 := HB3.out.below hb4 HB3.out.lt; have c41 : w4.cell? ⟨gc, 1, none⟩ = some (.slice aq n2 cq) := hB4.cell 1; have f41 := hB4.frozen 1; have HB4 := Lib.hid hB4; have HQ4 := Lib.hid hQ4; have HS4 := Lib.hid (HS3.out.below hb4); have HBl4 := Lib.hid (HBl3.out.trans (hb4.mono (Nat.le_of_lt (Nat.lt_trans hgfc HL3.out)))); clear hb4 hQ4 hB4))
          go_ret
          refine ⟨gc, .slice a2 2 k2, .slice a4 (pl.defS hn.data.toList).length k4, rfl, by rw [HGF.out]; omega, Lib.hid ?_, Lib.hid ?_, Lib.hid ?_, Lib.hid ?_⟩
          · rw [HST.out]; exact HB4.out.set 1 _
          · rw [HST.out, if_pos hS.out, HGF.out]; exact (HS4.out.far gc 1 _ HL0.out).mono (Nat.le_of_lt (Nat.lt_trans hgfc HL0.out))
          · rw [HST.out, if_pos hQ.out, HGF.out]; exact (HQ4.out.far gc 1 _ HL3.out).mono (Nat.le_of_lt (Nat.lt_trans hgfc HL3.out))
          · rw [HGF.out]; exact HBl4.out.setCell (p := ⟨gc, 1, none⟩) (by show gf ≤ gc; omega) _
        · go_wp2_with (first
            | (go_at_call 91; refine (dns_any _).mono ?_; rintro e w2 ⟨v2, rfl, hS2, hb2⟩; obtain ⟨a2, k2, rfl, _⟩ := hS2.form; have hB2 := HC.out.1.below hb2 HC.out.1.lt; have c20 : w2.cell? ⟨gc, 0, none⟩ = some (.slice av n1 cv) := hB2.cell 0; have f20 := hB2.frozen 0; have hB3 := hB2.set 0 (.slice a2 2 k2); have c31 : (w2.setCell ⟨gc, 0, none⟩ (.slice a2 2 k2)).cell? ⟨gc, 1, none⟩ = some (.slice aq n2 cq) := hB3.cell 1; have hS3 := hS2.far gc 0 (.slice a2 2 k2) HL0.out; have HQ3 := Lib.hid ((HC.out.2.2.1.below hb2).far gc 0 (.slice a2 2 k2) (Nat.lt_succ_self gc)); have HB3 := Lib.hid hB3; have HS3 := Lib.hid hS3; have HBl3 := Lib.hid ((HB.out.trans (hb2.mono (Nat.le_of_lt (Nat.lt_trans hgfc HL0.out)))).setCell (p := ⟨gc, 0, none⟩) (by show gf ≤ gc; omega) (.slice a2 2 k2)); clear hb2 hS2 hS3 hB2 hB3))
          go_ret
          refine ⟨gc, .slice a2 2 k2, .slice aq n2 cq, rfl, by rw [HGF.out]; omega, Lib.hid ?_, Lib.hid ?_, Lib.hid ?_, Lib.hid ?_⟩
          · rw [HST.out]; exact HB3.out
          · rw [HST.out, if_pos hS.out, HGF.out]; exact HS3.out.mono (Nat.le_of_lt (Nat.lt_trans hgfc HL0.out))
          · rw [HST.out, if_neg hQ.out, HGF.out]; exact HQ3.out.mono (by omega)
          · rw [HGF.out]; exact HBl3.out
      · rcases hq0 with ⟨t2, hQ⟩ | ⟨t2, hQ⟩
        · go_wp2_with (first
            | (go_at_call 92; refine (dds_any _ _ HHH.out).mono ?_; rintro e w4 ⟨v4, rfl, hQ4, hb4⟩; obtain ⟨a4, k4, rfl, _⟩ := hQ4.form; have hB4 := HC.out.1.below hb4 HC.out.1.lt; have c41 : w4.cell? ⟨gc, 1, none⟩ = some (.slice aq n2 cq) := hB4.cell 1; have f41 := hB4.frozen 1; have HB4 := Lib.hid hB4; have HQ4 := Lib.hid hQ4; have HS4 := Lib.hid (HC.out.2.1.below hb4); have HBl4 := Lib.hid (HB.out.trans (hb4.mono (Nat.le_of_lt (Nat.lt_trans hgfc HL0.out)))); clear hb4 hQ4 hB4))
          go_ret
          refine ⟨gc, .slice av n1 cv, .slice a4 (pl.defS hn.data.toList).length k4, rfl, by rw [HGF.out]; omega, Lib.hid ?_, Lib.hid ?_, Lib.hid ?_, Lib.hid ?_⟩
          · rw [HST.out]; exact HB4.out.set 1 _
          · rw [HST.out, if_neg hS.out, HGF.out]; exact (HS4.out.far gc 1 _ (Nat.lt_succ_self gc)).mono (by omega)
          · rw [HST.out, if_pos hQ.out, HGF.out]; exact (HQ4.out.far gc 1 _ HL0.out).mono (Nat.le_of_lt (Nat.lt_trans hgfc HL0.out))
          · rw [HGF.out]; exact HBl4.out.setCell (p := ⟨gc, 1, none⟩) (by show gf ≤ gc; omega) _
        · go_wp2_with fail
          go_ret
          refine ⟨gc, .slice av n1 cv, .slice aq n2 cq, rfl, by rw [HGF.out]; omega, Lib.hid ?_, Lib.hid ?_, Lib.hid ?_, Lib.hid ?_⟩
          · rw [HST.out]; exact HC.out.1
          · rw [HST.out, if_neg hS.out, HGF.out]; exact HC.out.2.1.mono (by omega)
          · rw [HST.out, if_neg hQ.out, HGF.out]; exact HC.out.2.2.1.mono (by omega)
          · rw [HGF.out]; exact HB.out

end Go.Proofs.YtfkohahlpfejbaaDoor
