/-
  FnService: the law over lists.
-/
import Derived.Test.YtabeklpllphiaaaSvO
import Derived.Test.YtabeklpllphiaaaSvP
namespace Go.Proofs.Ytabeklpllphiaaa
open Go.RowKit

set_option maxRecDepth 100000 in
theorem services_big (v : Value) (l : SvcL) (w : World) (hv : RdV w v l) (hl : 100 < l.length) :
    Calls Try.prog 9 #[v] w fun e w' => e = .returned (.tuple #[.string ⟨#[]⟩, .bool false]) ∧ Below w.heap.size w w' := by
  obtain ⟨a, cap, rfl, hc⟩ := hv
  have hl100 : 100 < (l.length : Int) := by omega
  clear hc
  go_enter Try.func9, Try.ntmps9
  go_wp2_with fail
  go_ret2
  exact ⟨rfl, Below.refl _ _⟩

def pl.svOk (l : SvcL) : Bool := decide (l.length ≤ 100) && (pl.chkS l []).isSome
theorem services_any (v : Value) (l : SvcL) (q : Bool) (w : World) (hv : RdV w v l) (hf : FitV l) (hq : pl.svOk l = q) :
    Calls Try.prog 9 #[v] w fun e w' => ∃ T, e = .returned (.tuple #[.string T, .bool q]) ∧ Hid (q = true → T = ⟨(pl.svText l).toArray⟩) ∧ Hid (Below w.heap.size w w') := by
  by_cases hl : l.length ≤ 100
  · refine (services_in v l w hv hf hl).mono ?_
    rintro e w' ⟨hb, hr⟩
    rcases hr with ⟨⟨S, hS⟩, rfl⟩ | ⟨hS, rfl⟩
    · have : q = true := by rw [← hq]; unfold pl.svOk; rw [hS, decide_eq_true hl]; rfl
      subst this
      exact ⟨_, rfl, Lib.hid (fun _ => rfl), Lib.hid hb⟩
    · have : q = false := by rw [← hq]; unfold pl.svOk; rw [hS]; simp
      subst this
      exact ⟨_, rfl, Lib.hid (fun h => by cases h), Lib.hid hb⟩
  · refine (services_big v l w hv (by omega)).mono ?_
    rintro e w' ⟨rfl, hb⟩
    have : q = false := by rw [← hq]; unfold pl.svOk; rw [decide_eq_false hl]; rfl
    subst this
    exact ⟨_, rfl, Lib.hid (fun h => by cases h), Lib.hid hb⟩

set_option maxRecDepth 100000 in
set_option maxHeartbeats 4000000 in
theorem svc_law (v : Value) (l : SvcL) (pr nm : List UInt8) (w : World) (hv : RdV w v l) :
    Calls Try.prog 3 #[v, .string ⟨pr.toArray⟩, .string ⟨nm.toArray⟩] w fun e w' => e = .returned (.bool true) ∧ Below w.heap.size w w' := by
  have hf1 := fun W (hW : Below w.heap.size w W) => fits4_sp v l W (hv.below hW)
  have hs1 := fun (hf : FitV l) q (hq : pl.svOk l = q) W (hW : Below w.heap.size w W) => services_any v l q W (hv.below hW) hf hq
  have hp1 := fun (hf : FitV l) (hl : l.length ≤ 100) (h20 : ∀ s ∈ l, s.2.2.2.length ≤ 20) (h1 : pr.length ≤ 2147483647) (h2 : nm.length ≤ 2147483647) W (hW : Below w.heap.size w W) => portof_sp v l pr nm W (hv.below hW) hf hl h20 h1 h2
  have hwk := works_any
  obtain ⟨f1, hfa⟩ : ∃ f, pl.fits4 l = f := ⟨_, rfl⟩
  rw [hfa] at hf1
  obtain ⟨PB, hPB⟩ : ∃ PB : ByteArray, (⟨pr.toArray⟩ : ByteArray) = PB := ⟨_, rfl⟩
  obtain ⟨NB, hNB⟩ : ∃ NB : ByteArray, (⟨nm.toArray⟩ : ByteArray) = NB := ⟨_, rfl⟩
  have hPs : PB.size = pr.length := by rw [← hPB]; rfl
  have hNs : NB.size = nm.length := by rw [← hNB]; rfl
  have hNd : NB.data.toList = nm := by rw [← hNB]
  rw [hPB, hNB] at hp1
  have HWK := Lib.hid hwk
  have HV := Lib.hid hv
  obtain ⟨a, cap, rfl, _⟩ := hv
  have HF1 := Lib.hid hf1
  rw [hPB, hNB]
  clear hwk hf1
  rcases f1 with _ | _
  · clear hs1 hp1 hfa hPs hNs hNd hPB hNB
    go_enter Try.func3, Try.ntmps3
    go_wp2_with (go_at_call 8; refine (HF1.out _ (Below.refl _ _)).mono ?_; rintro e w2 ⟨rfl, hb2⟩)
    go_ret
    exact ⟨rfl, hb2⟩
  by_cases hbp : 2147483647 < pr.length
  · have hbI : 2147483647 < (PB.size : Int) := by omega
    clear hs1 hp1 hfa hPs hNs hNd hPB hNB hbp
    go_enter Try.func3, Try.ntmps3
    go_wp2_with (go_at_call 8; refine (HF1.out _ (Below.refl _ _)).mono ?_; rintro e w2 ⟨rfl, hb2⟩)
    go_ret
    exact ⟨rfl, hb2⟩
  by_cases hbn : 2147483647 < nm.length
  · have hbI : ¬ (2147483647 < (PB.size : Int)) := by omega
    have hbI2 : 2147483647 < (NB.size : Int) := by omega
    clear hs1 hp1 hfa hPs hNs hNd hPB hNB hbp hbn
    go_enter Try.func3, Try.ntmps3
    go_wp2_with (go_at_call 8; refine (HF1.out _ (Below.refl _ _)).mono ?_; rintro e w2 ⟨rfl, hb2⟩)
    go_ret
    exact ⟨rfl, hb2⟩
  have hfit := FitV.of hfa
  have hbI : ¬ (2147483647 < (PB.size : Int)) := by omega
  have hbI2 : ¬ (2147483647 < (NB.size : Int)) := by omega
  obtain ⟨q, hq⟩ : ∃ q, pl.svOk l = q := ⟨_, rfl⟩
  obtain ⟨q1, hq1⟩ : ∃ q, pl.plain nm = q := ⟨_, rfl⟩
  obtain ⟨q3, hq3⟩ : ∃ q, pl.plain pr = q := ⟨_, rfl⟩
  have hsv := hs1 hfit q hq
  have hpn := fun W => plain_is nm q1 (by omega) hq1 W
  have hpp := fun W => plain_is pr q3 (by omega) hq3 W
  have hlw := fun W => low_is nm (by omega) W
  rw [hNB] at hpn hlw
  rw [hPB] at hpp
  have HSV := Lib.hid hsv
  have HPN := Lib.hid hpn
  have HPP := Lib.hid hpp
  have HLW := Lib.hid hlw
  have HQ := Lib.hid hq
  clear hsv hpn hpp hlw hs1
  have hw2 : ∀ W, Below w.heap.size w W → RdV W (.slice a l.length cap) l := fun W hW => HV.out.below hW
  rcases q with _ | _
  · clear hp1 hfa hPs hNs hNd hPB hNB hbp hbn hfit hq hq1 hq3 hw2
    go_enter Try.func3, Try.ntmps3
    go_wp2_with (first
      | (go_at_call 12; refine (HWK.out _).mono ?_; rintro e w8 ⟨rfl, hb8⟩; have HB8 := Lib.hid (HB3.out.trans (hb8.mono HB3.out.size)); clear hb8)
      | (go_at_call 9; refine (HSV.out _ HB2.out).mono ?_; rintro e w3 ⟨T, rfl, HT, hb3⟩; have HB3 := Lib.hid (HB2.out.trans (hb3.out.mono HB2.out.size)); clear hb3)
      | (go_at_call 8; refine (HF1.out _ (Below.refl _ _)).mono ?_; rintro e w2 ⟨rfl, hb2⟩; have HB2 := Lib.hid hb2; clear hb2))
    go_ret
    exact ⟨rfl, HB8.out⟩
  rcases q1 with _ | _
  · clear hp1 hfa hPs hNs hNd hPB hNB hbp hbn hfit hq hq1 hq3 hw2
    go_enter Try.func3, Try.ntmps3
    go_wp2_with (first
      | (go_at_call 12; refine (HWK.out _).mono ?_; rintro e w8 ⟨rfl, hb8⟩; have HB8 := Lib.hid (HB4.out.trans (hb8.mono HB4.out.size)); clear hb8)
      | (go_at_call 10; refine (HPN.out _).mono ?_; rintro e w4 ⟨rfl, hb4⟩; have HB4 := Lib.hid (HB3.out.trans (hb4.out.mono HB3.out.size)); clear hb4)
      | (go_at_call 9; refine (HSV.out _ HB2.out).mono ?_; rintro e w3 ⟨T, rfl, HT, hb3⟩; have HB3 := Lib.hid (HB2.out.trans (hb3.out.mono HB2.out.size)); clear hb3)
      | (go_at_call 8; refine (HF1.out _ (Below.refl _ _)).mono ?_; rintro e w2 ⟨rfl, hb2⟩; have HB2 := Lib.hid hb2; clear hb2))
    go_ret
    exact ⟨rfl, HB8.out⟩
  by_cases hlo : pl.low nm = nm
  · rw [hlo, hNB] at HLW
    rcases q3 with _ | _
    · clear hp1 hfa hPs hNs hNd hPB hNB hbp hbn hfit hq hq1 hq3 hlo hw2
      go_enter Try.func3, Try.ntmps3
      go_wp2_with (first
        | (go_at_call 12; refine (HWK.out _).mono ?_; rintro e w8 ⟨rfl, hb8⟩; have HB8 := Lib.hid (HB6.out.trans (hb8.mono HB6.out.size)); clear hb8)
        | (go_at_call 10; have hx0 := HB5; refine (HPP.out _).mono ?_; rintro e w6 ⟨rfl, hb6⟩; have HB6 := Lib.hid (HB5.out.trans (hb6.out.mono HB5.out.size)); clear hb6)
        | (go_at_call 11; refine (HLW.out _).mono ?_; rintro e w5 ⟨rfl, hb5⟩; have HB5 := Lib.hid (HB4.out.trans (hb5.out.mono HB4.out.size)); clear hb5)
        | (go_at_call 10; refine (HPN.out _).mono ?_; rintro e w4 ⟨rfl, hb4⟩; have HB4 := Lib.hid (HB3.out.trans (hb4.out.mono HB3.out.size)); clear hb4)
        | (go_at_call 9; refine (HSV.out _ HB2.out).mono ?_; rintro e w3 ⟨T, rfl, HT, hb3⟩; have HB3 := Lib.hid (HB2.out.trans (hb3.out.mono HB2.out.size)); clear hb3)
        | (go_at_call 8; refine (HF1.out _ (Below.refl _ _)).mono ?_; rintro e w2 ⟨rfl, hb2⟩; have HB2 := Lib.hid hb2; clear hb2))
      go_ret
      exact ⟨rfl, HB8.out⟩
    · have hok := HQ.out
      unfold pl.svOk at hok
      rw [Bool.and_eq_true, decide_eq_true_eq] at hok
      obtain ⟨hl100, hso⟩ := hok
      obtain ⟨S, hS⟩ := Option.isSome_iff_exists.1 hso
      have hlines := pl.sv_lines l S hS hfit
      obtain ⟨o, ho⟩ : ∃ o, pl.portOf l pr nm = o := ⟨_, rfl⟩
      have hpo := hp1 hfit hl100 (fun s hs => (hlines s hs).n20) (by omega) (by omega)
      have hsp := fun W => sporti_sp l pr nm o W S hS hlines hl100 (by omega) (by omega) ho
      rw [hPB, hNB] at hsp
      rw [ho] at hpo
      have HPO := Lib.hid hpo
      have HSP := Lib.hid hsp
      clear hp1 hfa hPs hNs hNd hPB hNB hbp hbn hfit hq hq1 hq3 hlo hw2 hl100 hso hS hlines ho hpo hsp
      rcases o with _ | z
      all_goals
        go_enter Try.func3, Try.ntmps3
        go_wp2_with (first
          | (go_at_call 12; refine (HWK.out _).mono ?_; rintro e w9 ⟨rfl, hb9⟩; have HB9 := Lib.hid (HB8.out.trans (hb9.mono HB8.out.size)); clear hb9)
          | (go_at_call 14; refine (HPO.out _ HB7.out).mono ?_; rintro e w8 ⟨rfl, hb8⟩; have HB8 := Lib.hid (HB7.out.trans (hb8.out.mono HB7.out.size)); clear hb8)
          | (go_at_call 13; refine (HSP.out _).mono ?_; rintro e w7 ⟨rfl, hb7⟩; have HB7 := Lib.hid (HB6.out.trans (hb7.out.mono HB6.out.size)); clear hb7)
          | (go_at_call 10; have hx0 := HB5; refine (HPP.out _).mono ?_; rintro e w6 ⟨rfl, hb6⟩; have HB6 := Lib.hid (HB5.out.trans (hb6.out.mono HB5.out.size)); clear hb6)
          | (go_at_call 11; refine (HLW.out _).mono ?_; rintro e w5 ⟨rfl, hb5⟩; have HB5 := Lib.hid (HB4.out.trans (hb5.out.mono HB4.out.size)); clear hb5)
          | (go_at_call 10; refine (HPN.out _).mono ?_; rintro e w4 ⟨rfl, hb4⟩; have HB4 := Lib.hid (HB3.out.trans (hb4.out.mono HB3.out.size)); clear hb4)
          | (go_at_call 9; refine (HSV.out _ HB2.out).mono ?_; rintro e w3 ⟨T, rfl, HT, hb3⟩; have hTe := HT.out trivial; subst hTe; have HB3 := Lib.hid (HB2.out.trans (hb3.out.mono HB2.out.size)); clear hb3)
          | (go_at_call 8; refine (HF1.out _ (Below.refl _ _)).mono ?_; rintro e w2 ⟨rfl, hb2⟩; have HB2 := Lib.hid hb2; clear hb2))
        go_ret
        exact ⟨rfl, HB9.out⟩
  · have hbeq : ((⟨(pl.low nm).toArray⟩ : ByteArray).toList == NB.toList) = false := by
      rw [beq_eq_false_iff_ne, Lib.toList_data, Lib.toList_data, hNd]
      exact hlo
    obtain ⟨LB, hLB⟩ : ∃ LB : ByteArray, (⟨(pl.low nm).toArray⟩ : ByteArray) = LB := ⟨_, rfl⟩
    rw [hLB] at HLW hbeq
    clear hp1 hfa hPs hNs hNd hPB hNB hbp hbn hfit hq hq1 hq3 hlo hLB hw2
    go_enter Try.func3, Try.ntmps3
    go_wp2_with (first
      | (go_at_call 12; refine (HWK.out _).mono ?_; rintro e w8 ⟨rfl, hb8⟩; have HB8 := Lib.hid (HB5.out.trans (hb8.mono HB5.out.size)); clear hb8)
      | (go_at_call 11; refine (HLW.out _).mono ?_; rintro e w5 ⟨rfl, hb5⟩; have HB5 := Lib.hid (HB4.out.trans (hb5.out.mono HB4.out.size)); clear hb5)
      | (go_at_call 10; refine (HPN.out _).mono ?_; rintro e w4 ⟨rfl, hb4⟩; have HB4 := Lib.hid (HB3.out.trans (hb4.out.mono HB3.out.size)); clear hb4)
      | (go_at_call 9; refine (HSV.out _ HB2.out).mono ?_; rintro e w3 ⟨T, rfl, HT, hb3⟩; have HB3 := Lib.hid (HB2.out.trans (hb3.out.mono HB2.out.size)); clear hb3)
      | (go_at_call 8; refine (HF1.out _ (Below.refl _ _)).mono ?_; rintro e w2 ⟨rfl, hb2⟩; have HB2 := Lib.hid hb2; clear hb2))
    go_ret
    exact ⟨rfl, HB8.out⟩

end Go.Proofs.Ytabeklpllphiaaa
