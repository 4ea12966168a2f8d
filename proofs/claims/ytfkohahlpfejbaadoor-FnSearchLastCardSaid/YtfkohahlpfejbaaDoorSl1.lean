/-
  FnSearchLast: what the text of two configurations reads as.
-/
import Derived.Test.YtfkohahlpfejbaaDoorSl0
namespace Go.Proofs.YtfkohahlpfejbaaDoor
open Go.RowKit

theorem Row.grown_below {B e s n : Nat} {wk W W' : World} {v : Value} {xs : List Value} (h : W.ownsRow B e s v n xs) (hB : B ≤ wk.heap.size) (hb : Below B wk W) (hg : W.grownBy W' v.ownBlock) : Below B wk W' :=
  hb.grown hg (Nat.le_trans hB hb.size) (fun k hk => ((World.ownsRow.lt h) k hk).1)

/-- the two configurations, one behind the other: the state that ReadResolv reckons -/
theorem pl.sl_state (sva sea svb seb : List (List UInt8)) (opa opb : List Opt) (apart apart2 : Bool) (hoa : pl.rvOk (sva, sea, opa) = true) (hob : pl.rvOk (svb, seb, opb) = true) (hl : sva.length + svb.length ≤ 3) (hne : seb ≠ []) :
    ∃ st, pl.rRun (pl.rvIts (sva, sea, opa) apart ++ pl.rvIts (svb, seb, opb) apart2) pl.rZero = st ∧ (sva ++ svb ≠ [] → pl.rSv st = (sva ++ svb).map pl.j53) ∧ (pl.rSv st).length ≤ 3 ∧ pl.rSe st [] = pl.sfx seb [] ∧
      st.nd = pl.numOf (opa ++ opb) 0 1 ∧ st.tm = pl.numOf (opa ++ opb) 1 5 ∧ st.att = pl.numOf (opa ++ opb) 2 2 := by
  refine ⟨_, rfl, ?_⟩
  obtain ⟨_, _, _, _, _, p6⟩ := pl.rvOk_parts (sva, sea, opa) hoa
  obtain ⟨_, _, _, _, _, q6⟩ := pl.rvOk_parts (svb, seb, opb) hob
  rw [pl.rRun_app, pl.run_conf (sva, sea, opa) apart pl.rZero (by show 0 + sva.length ≤ 3; omega)]
  show _ ∧ _ ∧ _ ∧ _ ∧ _
  obtain ⟨o1, o2⟩ := pl.opts_sv opa { pl.rZero with sv := pl.rZero.sv ++ sva.map pl.j53, se := if sea = [] then pl.rZero.se else sea.map pl.rooted }
  obtain ⟨b0, b1, b2, _⟩ := pl.opts_all opa { pl.rZero with sv := pl.rZero.sv ++ sva.map pl.j53, se := if sea = [] then pl.rZero.se else sea.map pl.rooted } p6
  obtain ⟨s1, hs1⟩ : ∃ s1, opa.foldl pl.rOpt { pl.rZero with sv := pl.rZero.sv ++ sva.map pl.j53, se := if sea = [] then pl.rZero.se else sea.map pl.rooted } = s1 := ⟨_, rfl⟩
  rw [hs1] at o1 o2 b0 b1 b2
  have o1' : s1.sv = sva.map pl.j53 := o1.trans (List.nil_append _)
  have hsl : s1.sv.length = sva.length := by rw [o1', List.length_map]
  have hR : pl.rRun (pl.rvIts (svb, seb, opb) apart2) s1 = _ := pl.run_conf (svb, seb, opb) apart2 s1 (by show s1.sv.length + svb.length ≤ 3; omega)
  obtain ⟨u1, u2⟩ := pl.opts_sv opb { s1 with sv := s1.sv ++ svb.map pl.j53, se := if seb = [] then s1.se else seb.map pl.rooted }
  obtain ⟨c0, c1, c2, _⟩ := pl.opts_all opb { s1 with sv := s1.sv ++ svb.map pl.j53, se := if seb = [] then s1.se else seb.map pl.rooted } q6
  have hR' : pl.rRun (pl.rvIts (svb, seb, opb) apart2) s1 = opb.foldl pl.rOpt { s1 with sv := s1.sv ++ svb.map pl.j53, se := if seb = [] then s1.se else seb.map pl.rooted } := hR
  rw [← hR'] at u1 u2 c0 c1 c2
  obtain ⟨st, hst⟩ : ∃ st, pl.rRun (pl.rvIts (svb, seb, opb) apart2) s1 = st := ⟨_, rfl⟩
  rw [hst] at u1 u2 c0 c1 c2
  have u1' : st.sv = (sva ++ svb).map pl.j53 := by
    have h : st.sv = s1.sv ++ svb.map pl.j53 := u1
    rw [h, o1', List.map_append]
  have hgoal : (sva ++ svb ≠ [] → pl.rSv st = (sva ++ svb).map pl.j53) ∧ (pl.rSv st).length ≤ 3 ∧ pl.rSe st [] = pl.sfx seb [] ∧ st.nd = pl.numOf (opa ++ opb) 0 1 ∧ st.tm = pl.numOf (opa ++ opb) 1 5 ∧ st.att = pl.numOf (opa ++ opb) 2 2 := by
    refine ⟨fun h => ?_, ?_, ?_, ?_, ?_, ?_⟩
    · unfold pl.rSv
      rw [u1', if_neg (by rw [List.map_eq_nil_iff]; exact h)]
    · unfold pl.rSv
      rw [u1']
      split
      · decide
      · rw [List.length_map, List.length_append]; exact hl
    · have h : st.se = if seb = [] then s1.se else seb.map pl.rooted := u2
      rw [if_neg hne] at h
      unfold pl.rSe pl.sfx
      rw [h, if_neg hne, if_neg (by rw [List.map_eq_nil_iff]; exact hne)]
    · rw [pl.numOf_app]
      have h : s1.nd = pl.numOf opa 0 1 := b0
      rw [← h]; exact c0
    · rw [pl.numOf_app]
      have h : s1.tm = pl.numOf opa 1 5 := b1
      rw [← h]; exact c1
    · rw [pl.numOf_app]
      have h : s1.att = pl.numOf opa 2 2 := b2
      rw [← h]; exact c2
  have e : opa.foldl pl.rOpt { pl.rZero with sv := pl.rZero.sv ++ (sva, sea, opa).1.map pl.j53, se := if (sva, sea, opa).2.1 = [] then pl.rZero.se else (sva, sea, opa).2.1.map pl.rooted } = s1 := hs1
  show (sva ++ svb ≠ [] → pl.rSv (pl.rRun (pl.rvIts (svb, seb, opb) apart2) (opa.foldl pl.rOpt { pl.rZero with sv := pl.rZero.sv ++ (sva, sea, opa).1.map pl.j53, se := if (sva, sea, opa).2.1 = [] then pl.rZero.se else (sva, sea, opa).2.1.map pl.rooted })) = _) ∧ _
  simp only [e, hst]
  exact hgoal

theorem pl.fits_all {l : List (List UInt8)} (h : pl.fits3 l = true) : ∀ q ∈ l, q.length ≤ 2147483647 := fun q hq => by
  unfold pl.fits3 at h
  rw [Bool.and_eq_true, List.all_eq_true] at h
  simpa using h.2 q hq

theorem pl.itx_len : ∀ (its : List RItem), (∀ it ∈ its, it.1.length ≤ 60000000000) → (pl.itx its).length ≤ its.length * 60000000001
  | [], _ => by simp [pl.itx, pl.ltext]
  | it :: its, h => by
    have h1 := pl.itx_len its (fun x hx => h x (by simp [hx]))
    have h2 := h it (by simp)
    have e : pl.itx (it :: its) = it.1 ++ [10] ++ pl.itx its := by simp [pl.itx, pl.ltext]
    have e2 : (it :: its).length * 60000000001 = its.length * 60000000001 + 60000000001 := by rw [List.length_cons, Nat.add_mul, Nat.one_mul]
    rw [e, e2, List.length_append, List.length_append]
    show it.1.length + 1 + _ ≤ _
    omega

theorem sl_read (g4 o4 g6 o6 : Nat) (sva sea svb seb : List (List UInt8)) (opa opb : List Opt) (apart apart2 : Bool) (hfa : pl.fits10 (sva, sea, opa) = true) (hfb : pl.fits10 (svb, seb, opb) = true) (hoa : pl.rvOk (sva, sea, opa) = true) (hob : pl.rvOk (svb, seb, opb) = true) (hl : sva.length + svb.length ≤ 3) (hne : seb ≠ []) :
    ∃ LS : List (List UInt8), (pl.rvText (sva, sea, opa) apart).length ≤ 4000000000000 ∧ (pl.rvText (svb, seb, opb) apart2).length ≤ 4000000000000 ∧ (sva ++ svb ≠ [] → LS = (sva ++ svb).map pl.j53) ∧ LS.length ≤ 3 ∧ ∀ W, IpVars W g4 o4 g6 o6 → Calls Tryd.prog 23 #[.string ((⟨(pl.rvText (sva, sea, opa) apart).toArray⟩ : ByteArray) ++ ⟨(pl.rvText (svb, seb, opb) apart2).toArray⟩), .string ⟨#[]⟩] W fun e W' => ∃ x1 k1 x2 k2 n2 q1 q2 q3 q4 q5, (pl.sfx seb []).length = n2 ∧ e = .returned (.agg #[.slice x1 LS.length k1, .slice x2 n2 k2, .int .i64 (pl.numOf (opa ++ opb) 0 1), .int .i64 (pl.numOf (opa ++ opb) 1 5), .int .i64 (pl.numOf (opa ++ opb) 2 2), .bool q1, .bool false, .bool q2, .bool q3, .bool q4, .bool q5, .slice none 0 0]) ∧ Below W.heap.size W W' ∧ Strs W' W.heap.size (.slice x1 LS.length k1) LS ∧ Strs W' W.heap.size (.slice x2 n2 k2) (pl.sfx seb []) := by
  obtain ⟨st, hst, h1, h2, h3, b0, b1, b2⟩ := pl.sl_state sva sea svb seb opa opb apart apart2 hoa hob hl hne
  unfold pl.fits10 at hfa hfb
  rw [Bool.and_eq_true, Bool.and_eq_true] at hfa hfb
  obtain ⟨p1, p2, p3, _, _, _⟩ := pl.rvOk_parts (sva, sea, opa) hoa
  obtain ⟨p1b, p2b, p3b, _, _, _⟩ := pl.rvOk_parts (svb, seb, opb) hob
  have hia := pl.rvIts_ok (sva, sea, opa) apart hoa (pl.fits_all hfa.1.1) (pl.fits_all hfa.1.2)
  have hib := pl.rvIts_ok (svb, seb, opb) apart2 hob (pl.fits_all hfb.1.1) (pl.fits_all hfb.1.2)
  have hcount : ∀ (c : Cnf) (ap : Bool), c.1.length ≤ 3 → c.2.2.length ≤ 20 → (pl.rvIts c ap).length ≤ 60 := fun c ap ha hb => by
    unfold pl.rvIts
    cases ap with
    | true => simp; omega
    | false => simp; omega
  have hca := hcount (sva, sea, opa) apart p1 p3
  have hcb := hcount (svb, seb, opb) apart2 p1b p3b
  have hT : (⟨(pl.itx (pl.rvIts (sva, sea, opa) apart ++ pl.rvIts (svb, seb, opb) apart2)).toArray⟩ : ByteArray) = (⟨(pl.rvText (sva, sea, opa) apart).toArray⟩ : ByteArray) ++ ⟨(pl.rvText (svb, seb, opb) apart2).toArray⟩ := by
    rw [← pl.rvText_its, ← pl.rvText_its]
    unfold pl.itx
    rw [List.map_append, pl.ltext_app]
    apply ByteArray.ext
    simp
  refine ⟨pl.rSv st, ?_, ?_, h1, h2, fun W hW => ?_⟩
  · rw [← pl.rvText_its]; have := pl.itx_len _ (fun it hit => (hia it hit).len); omega
  · rw [← pl.rvText_its]; have := pl.itx_len _ (fun it hit => (hib it hit).len); omega
  have hrr := rri_sp g4 o4 g6 o6 (pl.rvIts (sva, sea, opa) apart ++ pl.rvIts (svb, seb, opb) apart2) ⟨#[]⟩ W (fun it hit => (List.mem_append.1 hit).elim (hia it) (hib it)) (by rw [List.length_append]; omega) hW (by decide)
  rw [hT, hst] at hrr
  refine hrr.mono ?_
  rintro e W' ⟨vs, vq, rfl, hb, hS, hQ⟩
  have hQ' : Strs W' W.heap.size vq (pl.sfx seb []) := by rw [← h3]; exact hQ
  obtain ⟨x1, k1, rfl, _⟩ := hS.form
  obtain ⟨x2, k2, rfl, _⟩ := hQ'.form
  exact ⟨x1, k1, x2, k2, _, st.ro, st.si, st.tc, st.ta, st.nr, rfl, by unfold resB; rw [b0, b1, b2], hb, hS, hQ'⟩

end Go.Proofs.YtfkohahlpfejbaaDoor
