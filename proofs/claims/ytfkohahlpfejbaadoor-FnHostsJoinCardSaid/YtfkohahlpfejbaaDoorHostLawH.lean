/-
  THE WALK of FnHost.
-/
import Derived.Test.YtfkohahlpfejbaaDoorHostLaws
namespace Go.Proofs.YtfkohahlpfejbaaDoor
open Go.RowKit

theorem pl.stepA_inv (K : List UInt8) (h : List UInt8 × List (List UInt8)) (st : List (List UInt8) × List UInt8) (n : List UInt8) (hi : st.1 = [] → st.2 = []) : (pl.stepA K h st n).1 = [] → (pl.stepA K h st n).2 = [] := by
  unfold pl.stepA
  split
  · intro e; simp at e
  · exact hi
theorem pl.addrsOf_inv (l : HostL) (K : List UInt8) : (pl.addrsOf l K).1 = [] → (pl.addrsOf l K).2 = [] := by
  unfold pl.addrsOf
  have hl : ∀ (l : HostL) (st : List (List UInt8) × List UInt8), (st.1 = [] → st.2 = []) → ((l.foldl (pl.lineA K) st).1 = [] → (l.foldl (pl.lineA K) st).2 = []) := by
    intro l
    induction l with
    | nil => intro st h; exact h
    | cons a l ih =>
      intro st h
      rw [List.foldl_cons]
      refine ih _ ?_
      unfold pl.lineA
      generalize hn : a.2 = ns
      clear hn ih
      induction ns generalizing st with
      | nil => exact h
      | cons n ns ih2 => rw [List.foldl_cons]; exact ih2 _ (pl.stepA_inv K a st n h)
  exact hl l ([], []) (fun _ => rfl)
theorem pl.canon_addrs (l : HostL) (K : List UInt8) : pl.canon (pl.addrsOf l) K = (pl.addrsOf l K).2 := by
  unfold pl.canon
  split
  · next h => exact (pl.addrsOf_inv l K h).symm
  · rfl

set_option maxRecDepth 100000 in
set_option maxHeartbeats 4000000 in
theorem host_law (g4 o4 g6 o6 : Nat) (v : Value) (l : HostL) (gap : Int) (nm : List UInt8) (w : World) (hv : RdH w v l) (hI : IpVars w g4 o4 g6 o6) :
    Calls Tryd.prog 4 #[v, .int .i64 gap, .string ⟨nm.toArray⟩] w fun e w' => e = .returned (.bool true) ∧ Below w.heap.size w w' := by
  have hfi := fun W (hW : Below w.heap.size w W) => fits1_sp v l W (hv.below hW)
  have hho := fun (hf : pl.fits1 l = true) W (hW : Below w.heap.size w W) => hosts_any v l gap W (hv.below hW) hf
  have hwk := works_any
  obtain ⟨f, hf⟩ : ∃ f, pl.fits1 l = f := ⟨_, rfl⟩
  rw [hf] at hfi hho
  obtain ⟨D, hD⟩ : ∃ D : ByteArray, (⟨nm.toArray⟩ : ByteArray) = D := ⟨_, rfl⟩
  have hDs : D.size = nm.length := by rw [← hD]; rfl
  have HWK := Lib.hid hwk
  have HV := Lib.hid hv
  obtain ⟨a, cap, rfl, _⟩ := hv
  have HFI := Lib.hid hfi
  clear hwk hfi
  rcases f with _ | _
  · rw [hD]
    clear hho hf hD hDs hI
    go_enter Tryd.func4, Tryd.ntmps4
    go_wp2_with (go_at_call 13; refine (HFI.out _ (Below.refl _ _)).mono ?_; rintro e w2 ⟨rfl, hb2⟩)
    go_ret
    exact ⟨rfl, hb2⟩
  · by_cases hbig : 2147483647 < nm.length
    · have hbI : 2147483647 < (D.size : Int) := by omega
      rw [hD]
      clear hho hf hD hI hDs
      go_enter Tryd.func4, Tryd.ntmps4
      go_wp2_with (go_at_call 13; refine (HFI.out _ (Below.refl _ _)).mono ?_; rintro e w2 ⟨rfl, hb2⟩)
      go_ret
      exact ⟨rfl, hb2⟩
    · have hbI : ¬ (2147483647 < (D.size : Int)) := by omega
      have hho2 := hho rfl
      obtain ⟨o, ho⟩ : ∃ o, pl.hostsOk gap l = o := ⟨_, rfl⟩
      rw [ho] at hho2
      have HHO := Lib.hid hho2
      obtain ⟨q, hq⟩ : ∃ q, pl.plain nm = q := ⟨_, rfl⟩
      have had := fun W => plain_is nm q (by omega) hq W
      rw [hD] at had ⊢
      have HAD := Lib.hid had
      have HDD := Lib.hid hD
      have HQ := Lib.hid hq
      have HOO := Lib.hid ho
      have HF := Lib.hid hf
      have HII := Lib.hid hI
      have HBIG := Lib.hid hbig
      clear hho hho2 hq had hD hf hDs hI ho hbig
      rcases o with _ | _
      · go_enter Tryd.func4, Tryd.ntmps4
        go_wp2_with (first
          | (go_at_call 16; have hx0 := HB3; refine (HWK.out _).mono ?_; rintro e w5 ⟨rfl, hb5⟩; have HB5 := Lib.hid (HB3.out.trans (hb5.mono HB3.out.size)); clear hb5)
          | (go_at_call 14; have hx0 := HB2; refine (HHO.out _ HB2.out).mono ?_; rintro e w3 ⟨T, rfl, HT3, hb3⟩; have HB3 := Lib.hid (HB2.out.trans (hb3.out.mono HB2.out.size)); clear hb3)
          | (go_at_call 13; refine (HFI.out _ (Below.refl _ _)).mono ?_; rintro e w2 ⟨rfl, hb2⟩; have HB2 := Lib.hid hb2; clear hb2))
        go_ret
        exact ⟨rfl, HB5.out⟩
      · rcases q with _ | _
        · go_enter Tryd.func4, Tryd.ntmps4
          go_wp2_with (first
            | (go_at_call 16; have hx0 := HB4; refine (HWK.out _).mono ?_; rintro e w5 ⟨rfl, hb5⟩; have HB5 := Lib.hid (HB4.out.trans (hb5.mono HB4.out.size)); clear hb5)
            | (go_at_call 20; have hx0 := HB3; refine (HAD.out _).mono ?_; rintro e w4 ⟨rfl, hb4⟩; have HB4 := Lib.hid (HB3.out.trans (hb4.out.mono HB3.out.size)); clear hb4)
            | (go_at_call 14; have hx0 := HB2; refine (HHO.out _ HB2.out).mono ?_; rintro e w3 ⟨T, rfl, HT3, hb3⟩; have HB3 := Lib.hid (HB2.out.trans (hb3.out.mono HB2.out.size)); clear hb3)
            | (go_at_call 13; refine (HFI.out _ (Below.refl _ _)).mono ?_; rintro e w2 ⟨rfl, hb2⟩; have HB2 := Lib.hid hb2; clear hb2))
          go_ret
          exact ⟨rfl, HB5.out⟩
        · obtain ⟨hg0, hg3, hl100, hall⟩ := pl.hostsOk_parts gap l HOO.out
          have hfit := FitL.of HF.out
          have hits := pl.its_ok gap.toNat l hall hfit
          have hte := pl.itext_of gap.toNat l
          have hih := pl.ihosts_of gap.toNat l
          have htl := pl.hosts_len gap.toNat l hall hfit hl100
          have hil : (pl.itsOf gap.toNat l).length ≤ 1000 := by unfold pl.itsOf; simp; omega
          have hal : nm.length ≤ 2147483647 := by have := HBIG.out; omega
          have hnl : (pl.addrsOf l (pl.absN (pl.low nm))).1.length ≤ 2000 := by
            have h1 := pl.addrsOf_len (pl.absN (pl.low nm)) 20 l (fun x hx => by
              rw [List.all_eq_true] at hall
              exact (pl.hostOk_parts x.1 x.2 (hall x hx)).2.2.1)
            omega
          have hlh := fun W (hW : Below w.heap.size w W) => ilh_sp g4 o4 g6 o6 (pl.itsOf gap.toNat l) nm W hits hil (by rw [hte]; omega) (HII.out.below hW (Nat.le_refl _)) HQ.out hal
          rw [hte, hih, HDD.out, pl.canon_addrs] at hlh
          have haa := fun W (hW : Below w.heap.size w W) => addrs_sp _ l nm W (HV.out.below hW) hfit hall hl100 hal
          rw [HDD.out] at haa
          obtain ⟨AC, hAC⟩ : ∃ AC, pl.addrsOf l (pl.absN (pl.low nm)) = AC := ⟨_, rfl⟩
          rw [hAC] at hlh haa hnl
          obtain ⟨NL, CN⟩ := AC
          obtain ⟨CB, hCB⟩ : ∃ CB : ByteArray, (⟨CN.toArray⟩ : ByteArray) = CB := ⟨_, rfl⟩
          obtain ⟨TX, hTX⟩ : ∃ TX : ByteArray, (⟨(pl.hosts gap.toNat l).toArray⟩ : ByteArray) = TX := ⟨_, rfl⟩
          dsimp only at hlh haa hnl
          rw [hCB] at hlh haa
          rw [hTX] at hlh
          have HTX := Lib.hid hTX
          have HLH := Lib.hid hlh
          have HAA := Lib.hid haa
          have HNL := Lib.hid hnl
          clear hlh haa hits hte hih htl hil hal hnl hg0 hg3 hl100 hall hfit hAC hCB hTX
          go_enter Tryd.func4, Tryd.ntmps4
          go_wp2_with (first
            | (go_at_call 16; refine (HWK.out _).mono ?_; rintro e w8 ⟨rfl, hb8⟩; have HB8 := Lib.hid (HB7.out.trans (hb8.mono HB7.out.size)); clear hb8)
            | (go_at_call 17; have hx0 := HS6; refine (same_any _ _ NL NL _ _ _ HS56.out HS6.out (by have := HNL.out; omega) (by have := HNL.out; omega)).mono ?_; rintro e w7 ⟨rfl, n7, rfl⟩; rw [decide_eq_true (rfl : NL = NL)]; have HB7 : Hid (Below w.heap.size w (w6.drewN n7)) := Lib.hid (below_drewN HB6.out n7))
            | (go_at_call 22; have hx0 := HB5; refine (HAA.out _ HB5.out).mono ?_; rintro e w6 ⟨v6, rfl, HS6, hb6⟩; have HB6 := Lib.hid (HB5.out.trans (hb6.out.mono HB5.out.size)); have HS56 := Lib.hid (HS5.out.below hb6.out); clear hb6)
            | (go_at_call 21; have hx0 := HB4; refine (HLH.out _ HB4.out).mono ?_; rintro e w5 ⟨v5, rfl, HS5, hb5⟩; have HB5 := Lib.hid (HB4.out.trans (hb5.out.mono HB4.out.size)); clear hb5)
            | (go_at_call 20; have hx0 := HB3; refine (HAD.out _).mono ?_; rintro e w4 ⟨rfl, hb4⟩; have HB4 := Lib.hid (HB3.out.trans (hb4.out.mono HB3.out.size)); clear hb4)
            | (go_at_call 14; have hx0 := HB2; refine (HHO.out _ HB2.out).mono ?_; rintro e w3 ⟨T, he3, HT3, hb3⟩; rw [HT3.out rfl, HTX.out] at he3; subst he3; clear HT3; have HB3 := Lib.hid (HB2.out.trans (hb3.out.mono HB2.out.size)); clear hb3)
            | (go_at_call 13; refine (HFI.out _ (Below.refl _ _)).mono ?_; rintro e w2 ⟨rfl, hb2⟩; have HB2 := Lib.hid hb2; clear hb2))
          go_ret
          exact ⟨rfl, HB8.out⟩

end Go.Proofs.YtfkohahlpfejbaaDoor
