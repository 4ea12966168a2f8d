/-
  THE WALKS of FnAddr, FnHost.
-/
import Derived.Test.YtfkohahlpfejbaaDoorLu
import Derived.Test.YtfkohahlpfejbaaDoorPlHosts2
namespace Go.Proofs.YtfkohahlpfejbaaDoor
open Go.RowKit

def pl.hostsOk (gap : Int) (l : HostL) : Bool := decide (0 ≤ gap) && decide (gap < 3) && decide (l.length ≤ 100) && l.all pl.hostOk

def HosAny (ok : Bool) (TT : List UInt8) (w : World) (e : Ending) (w' : World) : Prop := ∃ T : List UInt8, e = .returned (.tuple #[.string ⟨T.toArray⟩, .bool ok]) ∧ Hid (ok = true → T = TT) ∧ Hid (Below w.heap.size w w')

set_option maxRecDepth 100000 in
set_option maxHeartbeats 2000000 in
/-- Hosts, at whatever gap -/
theorem hosts_any (v : Value) (l : HostL) (gap : Int) (w : World) (hv : RdH w v l) (hf : pl.fits1 l = true) :
    Calls Tryd.prog 14 #[v, .int .i64 gap] w (HosAny (pl.hostsOk gap l) (pl.hosts gap.toNat l) w) := by
  by_cases h0 : 0 ≤ gap
  · by_cases h3 : gap < 3
    · by_cases hl : l.length ≤ 100
      · obtain ⟨g, rfl⟩ : ∃ g : Nat, gap = g := ⟨gap.toNat, by omega⟩
        refine (hosts_in v l g w hv hf (by omega) hl).mono fun e w' ⟨hb, hr⟩ => ?_
        have he : pl.hostsOk (g : Int) l = l.all pl.hostOk := by
          unfold pl.hostsOk
          rw [decide_eq_true h0, decide_eq_true h3, decide_eq_true hl]
          simp
        rw [he]
        rcases hr with ⟨h1, h2⟩ | ⟨h1, h2⟩
        · exact ⟨pl.hosts g l, by rw [h2, h1], Lib.hid (fun _ => rfl), Lib.hid hb⟩
        · exact ⟨[], by rw [h2, h1], Lib.hid (fun h => by rw [h1] at h; cases h), Lib.hid hb⟩
      · have he : pl.hostsOk gap l = false := by unfold pl.hostsOk; rw [decide_eq_false hl]; simp
        rw [he]
        obtain ⟨a, cap, rfl, _⟩ := hv
        have h0' : ¬ (gap < 0) := by omega
        have h3' : ¬ (3 ≤ gap) := by omega
        have hl' : 100 < (l.length : Int) := by omega
        clear hf he hl h0 h3
        go_enter Tryd.func14, Tryd.ntmps14
        go_wp2_with fail
        go_ret2
        exact ⟨[], rfl, Lib.hid (fun h => (by cases h)), Lib.hid ((Below.refl _ _).alloc (Nat.le_refl _) _)⟩
    · have he : pl.hostsOk gap l = false := by unfold pl.hostsOk; rw [decide_eq_false h3]; simp
      rw [he]
      obtain ⟨a, cap, rfl, _⟩ := hv
      have h0' : ¬ (gap < 0) := by omega
      have h3' : 3 ≤ gap := by omega
      clear hf he h0 h3
      go_enter Tryd.func14, Tryd.ntmps14
      go_wp2_with fail
      go_ret2
      exact ⟨[], rfl, Lib.hid (fun h => (by cases h)), Lib.hid ((Below.refl _ _).alloc (Nat.le_refl _) _)⟩
  · have he : pl.hostsOk gap l = false := by unfold pl.hostsOk; rw [decide_eq_false h0]; simp
    rw [he]
    obtain ⟨a, cap, rfl, _⟩ := hv
    have h0' : gap < 0 := by omega
    clear hf he h0
    go_enter Tryd.func14, Tryd.ntmps14
    go_wp2_with fail
    go_ret2
    exact ⟨[], rfl, Lib.hid (fun h => (by cases h)), Lib.hid ((Below.refl _ _).alloc (Nat.le_refl _) _)⟩

theorem pl.hostsOk_parts (gap : Int) (l : HostL) (h : pl.hostsOk gap l = true) : 0 ≤ gap ∧ gap < 3 ∧ l.length ≤ 100 ∧ l.all pl.hostOk = true := by
  unfold pl.hostsOk at h
  simp only [Bool.and_eq_true, decide_eq_true_eq] at h
  obtain ⟨⟨⟨h1, h2⟩, h3⟩, h4⟩ := h
  exact ⟨h1, h2, h3, h4⟩

theorem pl.text_inj (b c : List UInt8) (hb : b.length = 4 ∨ b.length = 16) (hc : c.length = 4 ∨ c.length = 16) (h : pl.text b = pl.text c) : b = c := by
  have h1 := pl.text_addr b hb
  rw [h, pl.text_addr c hc] at h1
  injection h1 with h1
  exact h1.symm
theorem pl.flat_congr {α β : Type} (l : List α) (f g : α → List β) (h : ∀ x ∈ l, f x = g x) : l.flatMap f = l.flatMap g := by
  induction l with
  | nil => rfl
  | cons a l ih => rw [List.flatMap_cons, List.flatMap_cons, h a (by simp), ih (fun x hx => h x (by simp [hx]))]
theorem pl.byAddr_names (l : HostL) (ad b0 : List UInt8) (hok : l.all pl.hostOk = true) (had : pl.addr ad = some b0) : pl.byAddr l (pl.lit ad) = pl.namesOf l b0 := by
  rw [List.all_eq_true] at hok
  unfold pl.byAddr pl.namesOf
  refine pl.flat_congr _ _ _ fun h hh => ?_
  obtain ⟨⟨b, hb⟩, _⟩ := pl.hostOk_parts h.1 h.2 (hok h hh)
  have h1 : pl.lit h.1 = pl.text b := by unfold pl.lit; rw [hb]
  have h2 : pl.lit ad = pl.text b0 := by unfold pl.lit; rw [had]
  rw [h1, h2, hb]
  by_cases e : b = b0
  · subst e; simp
  · rw [if_neg (fun x => e (pl.text_inj b b0 (pl.addr_len _ _ hb) (pl.addr_len _ _ had) x)), if_neg (fun x => e (by injection x))]

/-- impl.LookupAddr at a hosts file -/
theorem ila_sp (g4 o4 g6 o6 : Nat) (its : List Item) (ad b0 : List UInt8) (w : World) (hok : ∀ it ∈ its, ItemOk it) (hlen : its.length ≤ 1000) (htl : (pl.itext its).length ≤ 17592186044416) (hI : IpVars w g4 o4 g6 o6)
    (had : pl.addr ad = some b0) (hal : ad.length ≤ 2147483647) :
    Calls Tryd.prog 18 #[.string ⟨(pl.itext its).toArray⟩, .string ⟨ad.toArray⟩] w fun e w' => ∃ v, e = .returned v ∧ Hid (Strs w' w.heap.size v (pl.byAddr (pl.ihosts its) (pl.lit ad))) ∧ Hid (Below w.heap.size w w') := by
  have h37 : (37 : UInt8) ∉ ad := fun hm => (pl.ad_in 37 (pl.addr_ad ad b0 had 37 hm)).2.2.2.2.2 rfl
  have hle : (pl.lit ad).isEmpty = false := by
    have h1 := pl.lit_ne ad b0 had
    cases h2 : pl.lit ad with
    | nil => exact absurd h2 h1
    | cons a r => rfl
  have h := la_sp g4 o4 g6 o6 its ad w hok hlen htl hI h37 hle hal
  obtain ⟨T, hT⟩ : ∃ T : ByteArray, (⟨(pl.itext its).toArray⟩ : ByteArray) = T := ⟨_, rfl⟩
  obtain ⟨D, hD⟩ : ∃ D : ByteArray, (⟨ad.toArray⟩ : ByteArray) = D := ⟨_, rfl⟩
  rw [hT, hD] at h ⊢
  have H := Lib.hid h
  clear h hI hok hT hD h37 hle htl had
  go_enter Tryd.func18, Tryd.ntmps18
  go_wp2_with (go_at_call 46; refine H.out.mono ?_; rintro e w2 ⟨v, rfl, HS, HB⟩)
  go_ret
  exact ⟨_, rfl, HS, HB⟩
theorem ilh_sp (g4 o4 g6 o6 : Nat) (its : List Item) (nm : List UInt8) (w : World) (hok : ∀ it ∈ its, ItemOk it) (hlen : its.length ≤ 1000) (htl : (pl.itext its).length ≤ 17592186044416) (hI : IpVars w g4 o4 g6 o6)
    (hp : pl.plain nm = true) (hnl : nm.length ≤ 2147483647) :
    Calls Tryd.prog 21 #[.string ⟨(pl.itext its).toArray⟩, .string ⟨nm.toArray⟩] w fun e w' => ∃ v, e = .returned (.tuple #[v, .string ⟨(pl.canon (pl.addrsOf (pl.ihosts its)) (pl.absN (pl.low nm))).toArray⟩]) ∧ Hid (Strs w' w.heap.size v (pl.addrsOf (pl.ihosts its) (pl.absN (pl.low nm))).1) ∧ Hid (Below w.heap.size w w') := by
  have h := lh_sp g4 o4 g6 o6 its nm w hok hlen htl hI (fun b hb => by have := (pl.plain_ok nm hp).2 b hb; unfold pl.okB at this; omega) hnl
  obtain ⟨T, hT⟩ : ∃ T : ByteArray, (⟨(pl.itext its).toArray⟩ : ByteArray) = T := ⟨_, rfl⟩
  obtain ⟨D, hD⟩ : ∃ D : ByteArray, (⟨nm.toArray⟩ : ByteArray) = D := ⟨_, rfl⟩
  rw [hT, hD] at h ⊢
  have H := Lib.hid h
  clear h hI hok hT hD htl hp
  go_enter Tryd.func21, Tryd.ntmps21
  go_wp2_with (go_at_call 49; refine H.out.mono ?_; rintro e w2 ⟨v, rfl, HS, HB⟩)
  go_ret2
  exact ⟨_, rfl, HS, HB⟩

set_option maxRecDepth 100000 in
set_option maxHeartbeats 4000000 in
theorem addr_law (g4 o4 g6 o6 : Nat) (v : Value) (l : HostL) (gap : Int) (ad : List UInt8) (w : World) (hv : RdH w v l) (hI : IpVars w g4 o4 g6 o6) :
    Calls Tryd.prog 3 #[v, .int .i64 gap, .string ⟨ad.toArray⟩] w fun e w' => e = .returned (.bool true) ∧ Below w.heap.size w w' := by
  have hfi := fun W (hW : Below w.heap.size w W) => fits1_sp v l W (hv.below hW)
  have hho := fun (hf : pl.fits1 l = true) W (hW : Below w.heap.size w W) => hosts_any v l gap W (hv.below hW) hf
  have hwk := works_any
  obtain ⟨f, hf⟩ : ∃ f, pl.fits1 l = f := ⟨_, rfl⟩
  rw [hf] at hfi hho
  obtain ⟨D, hD⟩ : ∃ D : ByteArray, (⟨ad.toArray⟩ : ByteArray) = D := ⟨_, rfl⟩
  have hDs : D.size = ad.length := by rw [← hD]; rfl
  have HWK := Lib.hid hwk
  have HV := Lib.hid hv
  obtain ⟨a, cap, rfl, _⟩ := hv
  have HFI := Lib.hid hfi
  clear hwk hfi
  rcases f with _ | _
  · rw [hD]
    clear hho hf hD hDs hI
    go_enter Tryd.func3, Tryd.ntmps3
    go_wp2_with (go_at_call 13; refine (HFI.out _ (Below.refl _ _)).mono ?_; rintro e w2 ⟨rfl, hb2⟩)
    go_ret
    exact ⟨rfl, hb2⟩
  · by_cases hbig : 2147483647 < ad.length
    · have hbI : 2147483647 < (D.size : Int) := by omega
      rw [hD]
      clear hho hf hD hI hDs
      go_enter Tryd.func3, Tryd.ntmps3
      go_wp2_with (go_at_call 13; refine (HFI.out _ (Below.refl _ _)).mono ?_; rintro e w2 ⟨rfl, hb2⟩)
      go_ret
      exact ⟨rfl, hb2⟩
    · have hbI : ¬ (2147483647 < (D.size : Int)) := by omega
      have hho2 := hho rfl
      obtain ⟨o, ho⟩ : ∃ o, pl.hostsOk gap l = o := ⟨_, rfl⟩
      rw [ho] at hho2
      have HHO := Lib.hid hho2
      obtain ⟨q, hq⟩ : ∃ q, (pl.addr ad).isSome = q := ⟨_, rfl⟩
      have had := fun W => addr_is ad q (by omega) hq W
      rw [hD] at had ⊢
      have HAD := Lib.hid had
      have HDD := Lib.hid hD
      have HQ := Lib.hid hq
      have HOO := Lib.hid ho
      have HF := Lib.hid hf
      have HII := Lib.hid hI
      have HBIG := Lib.hid hbig
      clear hho hho2 hq had hD hf hDs hI ho hbig
      rcases o with _ | _
      · go_enter Tryd.func3, Tryd.ntmps3
        go_wp2_with (first
          | (go_at_call 16; have hx0 := HB4; refine (HWK.out _).mono ?_; rintro e w5 ⟨rfl, hb5⟩; have HB5 := Lib.hid (HB4.out.trans (hb5.mono HB4.out.size)); clear hb5)
          | (go_at_call 15; have hx0 := HB3; refine (HAD.out _).mono ?_; rintro e w4 ⟨⟨a4, n4, c4, rfl⟩, hb4⟩; have HB4 := Lib.hid (HB3.out.trans (hb4.out.mono HB3.out.size)); clear hb4)
          | (go_at_call 14; have hx0 := HB2; refine (HHO.out _ HB2.out).mono ?_; rintro e w3 ⟨T, rfl, HT3, hb3⟩; have HB3 := Lib.hid (HB2.out.trans (hb3.out.mono HB2.out.size)); clear hb3)
          | (go_at_call 13; refine (HFI.out _ (Below.refl _ _)).mono ?_; rintro e w2 ⟨rfl, hb2⟩; have HB2 := Lib.hid hb2; clear hb2))
        go_ret
        exact ⟨rfl, HB5.out⟩
      · rcases q with _ | _
        · go_enter Tryd.func3, Tryd.ntmps3
          go_wp2_with (first
            | (go_at_call 16; have hx0 := HB4; refine (HWK.out _).mono ?_; rintro e w5 ⟨rfl, hb5⟩; have HB5 := Lib.hid (HB4.out.trans (hb5.mono HB4.out.size)); clear hb5)
            | (go_at_call 15; have hx0 := HB3; refine (HAD.out _).mono ?_; rintro e w4 ⟨⟨a4, n4, c4, rfl⟩, hb4⟩; have HB4 := Lib.hid (HB3.out.trans (hb4.out.mono HB3.out.size)); clear hb4)
            | (go_at_call 14; have hx0 := HB2; refine (HHO.out _ HB2.out).mono ?_; rintro e w3 ⟨T, rfl, HT3, hb3⟩; have HB3 := Lib.hid (HB2.out.trans (hb3.out.mono HB2.out.size)); clear hb3)
            | (go_at_call 13; refine (HFI.out _ (Below.refl _ _)).mono ?_; rintro e w2 ⟨rfl, hb2⟩; have HB2 := Lib.hid hb2; clear hb2))
          go_ret
          exact ⟨rfl, HB5.out⟩
        · obtain ⟨b0, hb0⟩ := Option.isSome_iff_exists.1 HQ.out
          obtain ⟨hg0, hg3, hl100, hall⟩ := pl.hostsOk_parts gap l HOO.out
          have hfit := FitL.of HF.out
          have hits := pl.its_ok gap.toNat l hall hfit
          have hte := pl.itext_of gap.toNat l
          have hih := pl.ihosts_of gap.toNat l
          have htl := pl.hosts_len gap.toNat l hall hfit hl100
          have hil : (pl.itsOf gap.toNat l).length ≤ 1000 := by unfold pl.itsOf; simp; omega
          have hal : ad.length ≤ 2147483647 := by have := HBIG.out; omega
          have hby := pl.byAddr_names l ad b0 hall hb0
          have hnl : (pl.namesOf l b0).length ≤ 2000 := by
            rw [← hby]
            have h1 := pl.byAddr_le l (pl.lit ad) (fun x hx => by
              rw [List.all_eq_true] at hall
              exact (pl.hostOk_parts x.1 x.2 (hall x hx)).2.2.1)
            omega
          have hla := fun W (hW : Below w.heap.size w W) => ila_sp g4 o4 g6 o6 (pl.itsOf gap.toNat l) ad b0 W hits hil (by rw [hte]; omega) (HII.out.below hW (Nat.le_refl _)) hb0 hal
          rw [hte, hih, hby, HDD.out] at hla
          have hna := fun W (hW : Below w.heap.size w W) => names_sp _ l ad b0 W (HV.out.below hW) hfit hall hl100 (by omega) hb0
          rw [HDD.out] at hna
          obtain ⟨NL, hNL⟩ : ∃ NL, pl.namesOf l b0 = NL := ⟨_, rfl⟩
          rw [hNL] at hla hna hnl
          obtain ⟨TX, hTX⟩ : ∃ TX : ByteArray, (⟨(pl.hosts gap.toNat l).toArray⟩ : ByteArray) = TX := ⟨_, rfl⟩
          rw [hTX] at hla
          have HTX := Lib.hid hTX
          clear hTX
          have HLA := Lib.hid hla
          have HNA := Lib.hid hna
          have HNL := Lib.hid hnl
          clear hla hna hits hte hih htl hil hal hby hnl hb0 hg0 hg3 hl100 hall hfit hNL
          go_enter Tryd.func3, Tryd.ntmps3
          go_wp2_with (first
            | (go_at_call 16; refine (HWK.out _).mono ?_; rintro e w8 ⟨rfl, hb8⟩; have HB8 := Lib.hid (HB7.out.trans (hb8.mono HB7.out.size)); clear hb8)
            | (go_at_call 17; have hx0 := HS6; refine (same_any _ _ NL NL _ _ _ HS56.out HS6.out (by have := HNL.out; omega) (by have := HNL.out; omega)).mono ?_; rintro e w7 ⟨rfl, n7, rfl⟩; rw [decide_eq_true (rfl : NL = NL)]; have HB7 : Hid (Below w.heap.size w (w6.drewN n7)) := Lib.hid (below_drewN HB6.out n7))
            | (go_at_call 19; have hx0 := HB5; refine (HNA.out _ HB5.out).mono ?_; rintro e w6 ⟨v6, rfl, HS6, hb6⟩; have HB6 := Lib.hid (HB5.out.trans (hb6.out.mono HB5.out.size)); have HS56 := Lib.hid (HS5.out.below hb6.out); clear hb6)
            | (go_at_call 18; have hx0 := HB4; refine (HLA.out _ HB4.out).mono ?_; rintro e w5 ⟨v5, rfl, HS5, hb5⟩; have HB5 := Lib.hid (HB4.out.trans (hb5.out.mono HB4.out.size)); clear hb5)
            | (go_at_call 15; have hx0 := HB3; refine (HAD.out _).mono ?_; rintro e w4 ⟨⟨a4, n4, c4, rfl⟩, hb4⟩; have HB4 := Lib.hid (HB3.out.trans (hb4.out.mono HB3.out.size)); clear hb4)
            | (go_at_call 14; have hx0 := HB2; refine (HHO.out _ HB2.out).mono ?_; rintro e w3 ⟨T, he3, HT3, hb3⟩; rw [HT3.out rfl, HTX.out] at he3; subst he3; clear HT3; have HB3 := Lib.hid (HB2.out.trans (hb3.out.mono HB2.out.size)); clear hb3)
            | (go_at_call 13; refine (HFI.out _ (Below.refl _ _)).mono ?_; rintro e w2 ⟨rfl, hb2⟩; have HB2 := Lib.hid hb2; clear hb2))
          go_ret
          exact ⟨rfl, HB8.out⟩

end Go.Proofs.YtfkohahlpfejbaaDoor
