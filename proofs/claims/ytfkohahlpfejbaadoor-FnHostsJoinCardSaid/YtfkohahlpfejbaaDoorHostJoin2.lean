/-
  FnHostsJoin: the plain law, and the walk joined.
-/
import Derived.Test.YtfkohahlpfejbaaDoorHostJoin
import Derived.Test.YtfkohahlpfejbaaDoorOpenH
namespace Go.Proofs.YtfkohahlpfejbaaDoor
open Go.RowKit

def pl.RelA (p : List (List UInt8)) (c : List UInt8) (st st' : List (List UInt8) × List UInt8) : Prop := st.1 = p ++ st'.1 ∧ st.2 = c
theorem pl.stepA_rel (K : List UInt8) (h : List UInt8 × List (List UInt8)) (n : List UInt8) (p : List (List UInt8)) (c : List UInt8) (hp : p ≠ []) (st st' : List (List UInt8) × List UInt8) (hr : pl.RelA p c st st') : pl.RelA p c (pl.stepA K h st n) (pl.stepA K h st' n) := by
  obtain ⟨h1, h2⟩ := hr
  have hne : st.1 ≠ [] := by rw [h1]; simp [hp]
  unfold pl.stepA pl.RelA
  split
  · refine ⟨by rw [h1]; simp, ?_⟩
    simp only [hne, if_false, h2]
  · exact ⟨h1, h2⟩
theorem pl.foldA_rel (K : List UInt8) (p : List (List UInt8)) (c : List UInt8) (hp : p ≠ []) : ∀ (l : HostL) (st st' : List (List UInt8) × List UInt8), pl.RelA p c st st' → pl.RelA p c (l.foldl (pl.lineA K) st) (l.foldl (pl.lineA K) st') := by
  intro l
  induction l with
  | nil => intro st st' h; exact h
  | cons a l ih =>
    intro st st' h
    rw [List.foldl_cons, List.foldl_cons]
    refine ih _ _ ?_
    unfold pl.lineA
    generalize a.2 = ns
    clear ih
    induction ns generalizing st st' with
    | nil => exact h
    | cons n ns ih2 => rw [List.foldl_cons, List.foldl_cons]; exact ih2 _ _ (pl.stepA_rel K a n p c hp st st' h)
theorem pl.addrsOf_app (a b : HostL) (K : List UInt8) : pl.addrsOf (a ++ b) K = ((pl.addrsOf a K).1 ++ (pl.addrsOf b K).1, if (pl.addrsOf a K).1 = [] then (pl.addrsOf b K).2 else (pl.addrsOf a K).2) := by
  have h0 : pl.addrsOf (a ++ b) K = b.foldl (pl.lineA K) (pl.addrsOf a K) := by unfold pl.addrsOf; rw [List.foldl_append]
  rw [h0]
  by_cases he : (pl.addrsOf a K).1 = []
  · have h2 := pl.addrsOf_inv a K he
    have h3 : pl.addrsOf a K = ([], []) := Prod.ext he h2
    rw [h3]
    simp [pl.addrsOf]
  · rw [if_neg he]
    have h := pl.foldA_rel K (pl.addrsOf a K).1 (pl.addrsOf a K).2 he b (pl.addrsOf a K) ([], []) ⟨by simp, rfl⟩
    exact Prod.ext h.1 h.2
theorem pl.itext_app (a b : List Item) : pl.itext (a ++ b) = pl.itext a ++ pl.itext b := by unfold pl.itext; rw [List.flatMap_append]
theorem pl.ihosts_app (a b : List Item) : pl.ihosts (a ++ b) = pl.ihosts a ++ pl.ihosts b := by unfold pl.ihosts; rw [List.filterMap_append]
theorem pl.byAddr_app (a b : HostL) (t : List UInt8) : pl.byAddr (a ++ b) t = pl.byAddr a t ++ pl.byAddr b t := by unfold pl.byAddr; rw [List.flatMap_append]

set_option maxRecDepth 100000 in
set_option maxHeartbeats 8000000 in
theorem hj_law (g4 o4 g6 o6 : Nat) (va vb : Value) (a b : HostL) (gap : Int) (nm ad : List UInt8) (w : World) (hva : RdH w va a) (hvb : RdH w vb b) (hI : IpVars w g4 o4 g6 o6) :
    Calls Tryd.prog 5 #[va, vb, .int .i64 gap, .string ⟨nm.toArray⟩, .string ⟨ad.toArray⟩] w fun e w' => e = .returned (.bool true) ∧ Below w.heap.size w w' := by
  have hf1 := fun W (hW : Below w.heap.size w W) => fits1_sp va a W (hva.below hW)
  have hf2 := fun W (hW : Below w.heap.size w W) => fits1_sp vb b W (hvb.below hW)
  have hh1 := fun (hf : pl.fits1 a = true) W (hW : Below w.heap.size w W) => hosts_any va a gap W (hva.below hW) hf
  have hh2 := fun (hf : pl.fits1 b = true) W (hW : Below w.heap.size w W) => hosts_any vb b gap W (hvb.below hW) hf
  have hwk := works_any
  obtain ⟨f1, hfa⟩ : ∃ f, pl.fits1 a = f := ⟨_, rfl⟩
  obtain ⟨f2, hfb⟩ : ∃ f, pl.fits1 b = f := ⟨_, rfl⟩
  rw [hfa] at hf1 hh1
  rw [hfb] at hf2 hh2
  obtain ⟨D, hD⟩ : ∃ D : ByteArray, (⟨ad.toArray⟩ : ByteArray) = D := ⟨_, rfl⟩
  have hDs : D.size = ad.length := by rw [← hD]; rfl
  obtain ⟨N, hN⟩ : ∃ N : ByteArray, (⟨nm.toArray⟩ : ByteArray) = N := ⟨_, rfl⟩
  have hNs : N.size = nm.length := by rw [← hN]; rfl
  have HWK := Lib.hid hwk
  have HVA := Lib.hid hva
  have HVB := Lib.hid hvb
  obtain ⟨aa, ca, rfl, _⟩ := hva
  obtain ⟨ab, cb, rfl, _⟩ := hvb
  have HF1 := Lib.hid hf1
  have HF2 := Lib.hid hf2
  have HII := Lib.hid hI
  clear hwk hf1 hf2 hI
  rcases f1 with _ | _
  · rw [hD, hN]
    clear hh1 hh2 hfa hfb hD hDs hN hNs
    go_enter Tryd.func5, Tryd.ntmps5
    go_wp2_with (go_at_call 13; refine (HF1.out _ (Below.refl _ _)).mono ?_; rintro e w2 ⟨rfl, hb2⟩)
    go_ret
    exact ⟨rfl, hb2⟩
  rcases f2 with _ | _
  · rw [hD, hN]
    clear hh1 hh2 hfa hfb hD hDs hN hNs
    go_enter Tryd.func5, Tryd.ntmps5
    go_wp2_with (first
      | (go_at_call 13; have hx0 := HB2; refine (HF2.out _ HB2.out).mono ?_; rintro e w3 ⟨rfl, hb3⟩; have HB3 := Lib.hid (HB2.out.trans (hb3.mono HB2.out.size)); clear hb3)
      | (go_at_call 13; refine (HF1.out _ (Below.refl _ _)).mono ?_; rintro e w2 ⟨rfl, hb2⟩; have HB2 := Lib.hid hb2; clear hb2))
    go_ret
    exact ⟨rfl, HB3.out⟩
  by_cases hbn : 2147483647 < nm.length
  · have hbI : 2147483647 < (N.size : Int) := by omega
    rw [hD, hN]
    clear hh1 hh2 hfa hfb hD hDs hN hNs hbn
    go_enter Tryd.func5, Tryd.ntmps5
    go_wp2_with (first
      | (go_at_call 13; have hx0 := HB2; refine (HF2.out _ HB2.out).mono ?_; rintro e w3 ⟨rfl, hb3⟩; have HB3 := Lib.hid (HB2.out.trans (hb3.mono HB2.out.size)); clear hb3)
      | (go_at_call 13; refine (HF1.out _ (Below.refl _ _)).mono ?_; rintro e w2 ⟨rfl, hb2⟩; have HB2 := Lib.hid hb2; clear hb2))
    go_ret
    exact ⟨rfl, HB3.out⟩
  by_cases hbd : 2147483647 < ad.length
  · have hbN : ¬ (2147483647 < (N.size : Int)) := by omega
    have hbI : 2147483647 < (D.size : Int) := by omega
    rw [hD, hN]
    clear hh1 hh2 hfa hfb hD hDs hN hNs hbn hbd
    go_enter Tryd.func5, Tryd.ntmps5
    go_wp2_with (first
      | (go_at_call 13; have hx0 := HB2; refine (HF2.out _ HB2.out).mono ?_; rintro e w3 ⟨rfl, hb3⟩; have HB3 := Lib.hid (HB2.out.trans (hb3.mono HB2.out.size)); clear hb3)
      | (go_at_call 13; refine (HF1.out _ (Below.refl _ _)).mono ?_; rintro e w2 ⟨rfl, hb2⟩; have HB2 := Lib.hid hb2; clear hb2))
    go_ret
    exact ⟨rfl, HB3.out⟩
  have hbN : ¬ (2147483647 < (N.size : Int)) := by omega
  have hbI : ¬ (2147483647 < (D.size : Int)) := by omega
  have hho1 := hh1 rfl
  have hho2 := hh2 rfl
  obtain ⟨o1, ho1⟩ : ∃ o, pl.hostsOk gap a = o := ⟨_, rfl⟩
  obtain ⟨o2, ho2⟩ : ∃ o, pl.hostsOk gap b = o := ⟨_, rfl⟩
  rw [ho1] at hho1
  rw [ho2] at hho2
  have HHO1 := Lib.hid hho1
  have HHO2 := Lib.hid hho2
  obtain ⟨q1, hq1⟩ : ∃ q, (pl.addr ad).isSome = q := ⟨_, rfl⟩
  obtain ⟨q2, hq2⟩ : ∃ q, pl.plain nm = q := ⟨_, rfl⟩
  have had := fun W => addr_is ad q1 (by omega) hq1 W
  have hpl := fun W => plain_is nm q2 (by omega) hq2 W
  rw [hD] at had
  rw [hN] at hpl
  have HAD := Lib.hid had
  have HPL := Lib.hid hpl
  clear had hpl hho1 hho2 hh1 hh2
  have hgood : ∀ (_ : o1 = true) (_ : o2 = true) (_ : q1 = true) (_ : q2 = true), Calls Tryd.prog 5 #[.slice aa a.length ca, .slice ab b.length cb, .int .i64 gap, .string N, .string D] w fun e w' => e = .returned (.bool true) ∧ Below w.heap.size w w' := by
    rintro rfl rfl rfl rfl
    obtain ⟨b0, hb0⟩ := Option.isSome_iff_exists.1 hq1
    obtain ⟨hg0, hg3, ha100, halla⟩ := pl.hostsOk_parts gap a ho1
    obtain ⟨_, _, hb100, hallb⟩ := pl.hostsOk_parts gap b ho2
    have hfita := FitL.of hfa
    have hfitb := FitL.of hfb
    have hia := pl.its_ok gap.toNat a halla hfita
    have hib := pl.its_ok gap.toNat b hallb hfitb
    have hta := pl.hosts_len gap.toNat a halla hfita ha100
    have htb := pl.hosts_len gap.toNat b hallb hfitb hb100
    have hla : (pl.itsOf gap.toNat a).length ≤ 102 := by unfold pl.itsOf; simp; omega
    have hlb : (pl.itsOf gap.toNat b).length ≤ 102 := by unfold pl.itsOf; simp; omega
    have h20 : ∀ (l : HostL), l.all pl.hostOk = true → ∀ x ∈ l, x.2.length ≤ 20 := fun l hl x hx => by
      rw [List.all_eq_true] at hl
      exact (pl.hostOk_parts x.1 x.2 (hl x hx)).2.2.1
    have hn1 := pl.addrsOf_len (pl.absN (pl.low nm)) 20 a (h20 a halla)
    have hn2 := pl.addrsOf_len (pl.absN (pl.low nm)) 20 b (h20 b hallb)
    have hm1 := pl.byAddr_le a (pl.lit ad) (h20 a halla)
    have hm2 := pl.byAddr_le b (pl.lit ad) (h20 b hallb)
    have hiab : ∀ it ∈ pl.itsOf gap.toNat a ++ pl.itsOf gap.toNat b, ItemOk it := fun it hit => by
      rcases List.mem_append.1 hit with h | h
      · exact hia it h
      · exact hib it h
    have hS : (⟨(pl.hosts gap.toNat a).toArray⟩ : ByteArray) ++ ⟨(pl.hosts gap.toNat b).toArray⟩ = ⟨(pl.itext (pl.itsOf gap.toNat a ++ pl.itsOf gap.toNat b)).toArray⟩ := by
      rw [pl.itext_app, pl.itext_of, pl.itext_of]
      apply ByteArray.ext
      simp [ByteArray.data_append]
    have hxl : (pl.itext (pl.itsOf gap.toNat a ++ pl.itsOf gap.toNat b)).length ≤ 17592186044416 := by
      rw [pl.itext_app, pl.itext_of, pl.itext_of, List.length_append]; omega
    have hIW : ∀ W, Below w.heap.size w W → IpVars W g4 o4 g6 o6 := fun W hW => HII.out.below hW (Nat.le_refl _)
    have e1 := fun W hW => ilh_sp g4 o4 g6 o6 (pl.itsOf gap.toNat a) nm W hia (by omega) (by rw [pl.itext_of]; omega) (hIW W hW) hq2 (by omega)
    have e2 := fun W hW => ilh_sp g4 o4 g6 o6 (pl.itsOf gap.toNat b) nm W hib (by omega) (by rw [pl.itext_of]; omega) (hIW W hW) hq2 (by omega)
    have e3 := fun W hW => ilh_sp g4 o4 g6 o6 (pl.itsOf gap.toNat a ++ pl.itsOf gap.toNat b) nm W hiab (by rw [List.length_append]; omega) hxl (hIW W hW) hq2 (by omega)
    have k1 := fun W hW => ila_sp g4 o4 g6 o6 (pl.itsOf gap.toNat a) ad b0 W hia (by omega) (by rw [pl.itext_of]; omega) (hIW W hW) hb0 (by omega)
    have k2 := fun W hW => ila_sp g4 o4 g6 o6 (pl.itsOf gap.toNat b) ad b0 W hib (by omega) (by rw [pl.itext_of]; omega) (hIW W hW) hb0 (by omega)
    have k3 := fun W hW => ila_sp g4 o4 g6 o6 (pl.itsOf gap.toNat a ++ pl.itsOf gap.toNat b) ad b0 W hiab (by rw [List.length_append]; omega) hxl (hIW W hW) hb0 (by omega)
    rw [pl.itext_of, pl.ihosts_of, pl.canon_addrs] at e1 e2
    rw [← hS, pl.ihosts_app, pl.ihosts_of, pl.ihosts_of, pl.canon_addrs, pl.addrsOf_app] at e3
    rw [pl.itext_of, pl.ihosts_of] at k1 k2
    rw [← hS, pl.ihosts_app, pl.ihosts_of, pl.ihosts_of, pl.byAddr_app] at k3
    rw [hN] at e1 e2 e3
    rw [hD] at k1 k2 k3
    have s1 : ∀ W, Below w.heap.size w W → Calls Tryd.prog 14 #[.slice aa a.length ca, .int .i64 gap] W fun e w' => e = .returned (.tuple #[.string ⟨(pl.hosts gap.toNat a).toArray⟩, .bool true]) ∧ Below W.heap.size W w' := fun W hW => (HHO1.out W hW).mono fun e w' ⟨T, he, hT, hb⟩ => ⟨by rw [he, hT.out rfl], hb.out⟩
    have s2 : ∀ W, Below w.heap.size w W → Calls Tryd.prog 14 #[.slice ab b.length cb, .int .i64 gap] W fun e w' => e = .returned (.tuple #[.string ⟨(pl.hosts gap.toNat b).toArray⟩, .bool true]) ∧ Below W.heap.size W w' := fun W hW => (HHO2.out W hW).mono fun e w' ⟨T, he, hT, hb⟩ => ⟨by rw [he, hT.out rfl], hb.out⟩
    refine hj_walk aa ab a.length ca b.length cb gap ⟨(pl.hosts gap.toNat a).toArray⟩ ⟨(pl.hosts gap.toNat b).toArray⟩ N D (pl.addrsOf a (pl.absN (pl.low nm))).1 (pl.addrsOf b (pl.absN (pl.low nm))).1 (pl.byAddr a (pl.lit ad)) (pl.byAddr b (pl.lit ad)) ⟨(pl.addrsOf a (pl.absN (pl.low nm))).2.toArray⟩ ⟨(pl.addrsOf b (pl.absN (pl.low nm))).2.toArray⟩ ⟨(if (pl.addrsOf a (pl.absN (pl.low nm))).1 = [] then (pl.addrsOf b (pl.absN (pl.low nm))).2 else (pl.addrsOf a (pl.absN (pl.low nm))).2).toArray⟩ (decide ((pl.addrsOf a (pl.absN (pl.low nm))).1 = [])) w
      hta htb hbN hbI (Lib.hid ⟨by omega, by omega, by omega, by omega⟩) HF1 HF2 (Lib.hid s1) (Lib.hid s2) HAD HPL (Lib.hid e1) (Lib.hid e2) (Lib.hid e3) (Lib.hid k1) (Lib.hid k2) (Lib.hid k3) ?_ (Lib.hid ?_)
    · generalize (pl.addrsOf a (pl.absN (pl.low nm))).1 = L
      cases L with
      | nil => rfl
      | cons x l => simp; omega
    · by_cases he : (pl.addrsOf a (pl.absN (pl.low nm))).1 = []
      · simp [he]
      · simp [he]
  rw [hD, hN]
  by_cases hall : o1 = true ∧ o2 = true ∧ q1 = true ∧ q2 = true
  · obtain ⟨x1, x2, x3, x4⟩ := hall
    exact hgood x1 x2 x3 x4
  clear hgood hq1 hq2 ho1 ho2 hfa hfb hD hN hDs hNs hbn hbd HII
  have HALL := Lib.hid hall
  clear hall
  rcases o1 with _ | _
  rotate_left
  rcases o2 with _ | _
  rotate_left
  rcases q1 with _ | _
  rotate_left
  rcases q2 with _ | _
  rotate_left
  · exact absurd ⟨rfl, rfl, rfl, rfl⟩ HALL.out
  all_goals
    clear HALL
    go_enter Tryd.func5, Tryd.ntmps5
    go_wp2_with (first
      | (go_at_call 16; have hx0 := HB7; refine (HWK.out _).mono ?_; rintro e w8 ⟨rfl, hb8⟩; have HB8 := Lib.hid (HB7.out.trans (hb8.mono HB7.out.size)); clear hb8)
      | (go_at_call 16; have hx0 := HB6; refine (HWK.out _).mono ?_; rintro e w8 ⟨rfl, hb8⟩; have HB8 := Lib.hid (HB6.out.trans (hb8.mono HB6.out.size)); clear hb8)
      | (go_at_call 20; have hx0 := HB6; refine (HPL.out _).mono ?_; rintro e w7 ⟨rfl, hb7⟩; have HB7 := Lib.hid (HB6.out.trans (hb7.out.mono HB6.out.size)); clear hb7)
      | (go_at_call 15; have hx0 := HB5; refine (HAD.out _).mono ?_; rintro e w6 ⟨⟨a4, n4, c4, rfl⟩, hb6⟩; have HB6 := Lib.hid (HB5.out.trans (hb6.out.mono HB5.out.size)); clear hb6)
      | (go_at_call 14; have hx0 := HB4; refine (HHO2.out _ HB4.out).mono ?_; rintro e w5 ⟨T2, rfl, HT2, hb5⟩; have HB5 := Lib.hid (HB4.out.trans (hb5.out.mono HB4.out.size)); clear hb5)
      | (go_at_call 14; have hx0 := HB3; refine (HHO1.out _ HB3.out).mono ?_; rintro e w4 ⟨T1, rfl, HT1, hb4⟩; have HB4 := Lib.hid (HB3.out.trans (hb4.out.mono HB3.out.size)); clear hb4)
      | (go_at_call 13; have hx0 := HB2; refine (HF2.out _ HB2.out).mono ?_; rintro e w3 ⟨rfl, hb3⟩; have HB3 := Lib.hid (HB2.out.trans (hb3.mono HB2.out.size)); clear hb3)
      | (go_at_call 13; refine (HF1.out _ (Below.refl _ _)).mono ?_; rintro e w2 ⟨rfl, hb2⟩; have HB2 := Lib.hid hb2; clear hb2))
    go_ret
    exact ⟨rfl, HB8.out⟩

theorem walk_FnHostsJoin (va : Value) (a : HostL) (vb : Value) (b : HostL) (gap : Int) (nm ad : ByteArray) (W : World) (hva : RdH W va a) (hvb : RdH W vb b) (_ : (Lit.int .i64 gap).wf = true) (_ : nm.size ≤ maxLen) (_ : ad.size ≤ maxLen) (hL : laidMetH Tryd.prog Rows.fnHostsJoinRow.laid W) :
    Calls Tryd.prog 5 #[va, vb, .int .i64 gap, .string nm, .string ad] W fun e W' => e = .returned (.bool true) ∧ Below W.heap.size W W' := by
  rw [MakeChecks.laidMetH_plain _ _ _ (by kernel_rfl)] at hL
  obtain ⟨g4, o4, g6, o6, hI⟩ := ip_of_laid hL
  exact hj_law g4 o4 g6 o6 va vb a b gap nm.data.toList ad.data.toList W hva hvb hI

end Go.Proofs.YtfkohahlpfejbaaDoor
