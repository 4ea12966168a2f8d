/-
  WORDS FOR ARGUMENTS: sources and criteria as they came in; WALKS: zzFits6 .. zzFits9.
-/
import Derived.Test.YtabeklpllphiaaaPlNs2
namespace Go.Proofs.Ytabeklpllphiaaa
open Go.RowKit

/-- The slice value v reads as these criteria. -/
def RdK (w : World) (v : Value) (l : List Crit) : Prop :=
  ∃ a cap, v = .slice a l.length cap ∧ ∀ k c, l[k]? = some c → ∃ g o, a = some ⟨g, o, none⟩ ∧ g < w.heap.size ∧ w.cell? ⟨g, o + k * 3, none⟩ = some (.bool c.1) ∧ w.cell? ⟨g, o + k * 3 + 1, none⟩ = some (pl.strV c.2.1) ∧ w.cell? ⟨g, o + k * 3 + 2, none⟩ = some (pl.strV c.2.2)
theorem RdK.below {w w' : World} {v : Value} {l : List Crit} (h : RdK w v l) (hb : Below w.heap.size w w') : RdK w' v l := by
  obtain ⟨a, cap, hv, h3⟩ := h
  refine ⟨a, cap, hv, fun k c hk => ?_⟩
  obtain ⟨g, o, ha, hg, h0, h1, h2⟩ := h3 k c hk
  have := hb.size
  exact ⟨g, o, ha, by omega, by rw [below_cell hb g _ hg]; exact h0, by rw [below_cell hb g _ hg]; exact h1, by rw [below_cell hb g _ hg]; exact h2⟩
/-- The slice value v reads as these sources. -/
def RdN (w : World) (v : Value) (l : List Src) : Prop :=
  ∃ a cap, v = .slice a l.length cap ∧ ∀ k s, l[k]? = some s → ∃ g o vn, a = some ⟨g, o, none⟩ ∧ g < w.heap.size ∧ w.cell? ⟨g, o + k * 2, none⟩ = some (pl.strV s.1) ∧ w.cell? ⟨g, o + k * 2 + 1, none⟩ = some vn ∧ RdK w vn s.2
theorem RdN.below {w w' : World} {v : Value} {l : List Src} (h : RdN w v l) (hb : Below w.heap.size w w') : RdN w' v l := by
  obtain ⟨a, cap, hv, h3⟩ := h
  refine ⟨a, cap, hv, fun k c hk => ?_⟩
  obtain ⟨g, o, vn, ha, hg, h0, h1, h2⟩ := h3 k c hk
  have := hb.size
  exact ⟨g, o, vn, ha, by omega, by rw [below_cell hb g _ hg]; exact h0, by rw [below_cell hb g _ hg]; exact h1, h2.below hb⟩

def pl.fits9 (c : Crit) : Bool := decide (c.2.1.length ≤ 2147483647) && decide (c.2.2.length ≤ 2147483647)
def pl.fits8 (l : List Crit) : Bool := decide (l.length ≤ 2147483647) && l.all pl.fits9
def pl.fits7 (s : Src) : Bool := decide (s.1.length ≤ 2147483647) && pl.fits8 s.2
def pl.fits6 (l : List Src) : Bool := decide (l.length ≤ 2147483647) && l.all pl.fits7
theorem FitC.of (c : Crit) (h : pl.fits9 c = true) : FitC c := by
  unfold pl.fits9 at h
  rw [Bool.and_eq_true, decide_eq_true_eq, decide_eq_true_eq] at h
  exact h
theorem FitN.of (s : Src) (h : pl.fits7 s = true) : FitN s := by
  unfold pl.fits7 pl.fits8 at h
  rw [Bool.and_eq_true, Bool.and_eq_true, decide_eq_true_eq, decide_eq_true_eq, List.all_eq_true] at h
  exact ⟨h.1, h.2.1, fun c hc => FitC.of c (h.2.2 c hc)⟩
theorem FitN.all (l : List Src) (h : pl.fits6 l = true) : ∀ s ∈ l, FitN s := by
  unfold pl.fits6 at h
  rw [Bool.and_eq_true, List.all_eq_true] at h
  exact fun s hs => FitN.of s (h.2 s hs)

set_option maxHeartbeats 1000000 in
theorem fits9_sp (c : Crit) (w : World) :
    Calls Try.prog 43 #[.agg #[.bool c.1, pl.strV c.2.1, pl.strV c.2.2]] w fun e w' => e = .returned (.bool (pl.fits9 c)) ∧ Below w.heap.size w w' := by
  obtain ⟨n, p, r⟩ := c
  have hps : (⟨p.toArray⟩ : ByteArray).size = p.length := by rfl
  have hrs : (⟨r.toArray⟩ : ByteArray).size = r.length := by rfl
  unfold pl.strV
  by_cases hb : 2147483647 < p.length
  · have hF : pl.fits9 (n, p, r) = false := by unfold pl.fits9; rw [decide_eq_false (p := (n, p, r).2.1.length ≤ 2147483647) (by show ¬ p.length ≤ _; omega)]; rfl
    have HF := Lib.hid hF
    have hpI : 2147483647 < ((⟨p.toArray⟩ : ByteArray).size : Int) := by rw [hps]; omega
    clear hF hps hrs
    go_enter Try.func43, Try.ntmps43
    go_wp2_with fail
    go_ret
    exact ⟨by rw [HF.out]; rfl, (Below.refl _ _).alloc (Nat.le_refl _) _⟩
  · have hpI : ¬ (2147483647 < ((⟨p.toArray⟩ : ByteArray).size : Int)) := by rw [hps]; omega
    by_cases hbr : 2147483647 < r.length
    · have hF : pl.fits9 (n, p, r) = false := by unfold pl.fits9; rw [decide_eq_false (p := (n, p, r).2.2.length ≤ 2147483647) (by show ¬ r.length ≤ _; omega)]; simp
      have HF := Lib.hid hF
      have hrI : 2147483647 < ((⟨r.toArray⟩ : ByteArray).size : Int) := by rw [hrs]; omega
      clear hF hps hrs
      go_enter Try.func43, Try.ntmps43
      go_wp2_with fail
      go_ret
      exact ⟨by rw [HF.out]; rfl, (Below.refl _ _).alloc (Nat.le_refl _) _⟩
    · have hF : pl.fits9 (n, p, r) = true := by unfold pl.fits9; rw [decide_eq_true (p := (n, p, r).2.1.length ≤ 2147483647) (by show p.length ≤ _; omega), decide_eq_true (p := (n, p, r).2.2.length ≤ 2147483647) (by show r.length ≤ _; omega)]; rfl
      have HF := Lib.hid hF
      have hrI : ¬ (2147483647 < ((⟨r.toArray⟩ : ByteArray).size : Int)) := by rw [hrs]; omega
      clear hF hps hrs
      go_enter Try.func43, Try.ntmps43
      go_wp2_with fail
      go_ret
      exact ⟨by rw [HF.out]; rfl, (Below.refl _ _).alloc (Nat.le_refl _) _⟩

set_option maxHeartbeats 1000000 in
theorem fits8_sp (v : Value) (l : List Crit) (w : World) (hv : RdK w v l) :
    Calls Try.prog 34 #[v] w fun e w' => e = .returned (.bool (pl.fits8 l)) ∧ Below w.heap.size w w' := by
  obtain ⟨a, cap, rfl, hc⟩ := hv
  by_cases hbig : 2147483647 < l.length
  · have hF : pl.fits8 l = false := by unfold pl.fits8; rw [decide_eq_false (by omega)]; rfl
    have HF := Lib.hid hF
    clear hF hc
    go_enter Try.func34, Try.ntmps34
    go_wp2_with fail
    go_ret
    exact ⟨by rw [HF.out]; rfl, Below.refl _ _⟩
  · have HC := Lib.hid hc
    have hF : pl.fits8 l = l.all pl.fits9 := by unfold pl.fits8; rw [decide_eq_true (by omega)]; rfl
    have HF := Lib.hid hF
    clear hc hF
    go_enter Try.func34, Try.ntmps34
    go_wp2_with fail
    go_loopw [10] (fun i wr => ∃ k : Nat, k ≤ l.length ∧ i = .int .i64 k ∧ Hid ((l.take k).all pl.fits9 = true) ∧ Below w.heap.size w wr) (fun i _ => l.length - (intOf i).toNat)
    case atStart => exact ⟨0, Nat.zero_le _, rfl, Lib.hid rfl, Below.refl _ _⟩
    case round =>
      obtain ⟨k, hk, rfl, HA, hb⟩ := hrel
      by_cases hlt : k < l.length
      · obtain ⟨p, hp⟩ : ∃ p, l[k]? = some p := ⟨_, List.getElem?_eq_getElem hlt⟩
        obtain ⟨g, o, rfl, hg, hcell, hcell2, hcell3⟩ := HC.out k p hp
        have hc1 : wr.cell? ⟨g, o + k * 3, none⟩ = some (.bool p.1) := by rw [below_cell hb _ _ hg]; exact hcell
        have hc2 : wr.cell? ⟨g, o + k * 3 + 1, none⟩ = some (pl.strV p.2.1) := by rw [below_cell hb _ _ hg]; exact hcell2
        have hc3 : wr.cell? ⟨g, o + k * 3 + 2, none⟩ = some (pl.strV p.2.2) := by rw [below_cell hb _ _ hg]; exact hcell3
        have hf2 := fun W => fits9_sp p W
        unfold pl.strV at hc2 hc3 hf2
        have H2 := Lib.hid hf2
        have HP := Lib.hid hp
        obtain ⟨r, hr⟩ : ∃ r, pl.fits9 p = r := ⟨_, rfl⟩
        have HRR := Lib.hid hr
        have HB := Lib.hid hb
        clear hr hp hf2 hcell hcell2 hcell3
        rcases r with _ | _
        all_goals
          go_wp2_with (go_at_call 43; have HB1 := Lib.hid (HB.out.alloc HB.out.size (Obj.cells #[.bool p.1, .string ⟨p.2.1.toArray⟩, .string ⟨p.2.2.toArray⟩] 54)); refine (H2.out _).mono ?_; rintro e w2 ⟨rfl, hb2⟩; have HB2 := Lib.hid (HB1.out.trans (hb2.mono HB1.out.size)); clear hb2; rw [HRR.out])
        · have hno := pl.all_no l pl.fits9 k p HP.out HRR.out
          go_ret
          exact ⟨by rw [HF.out, hno]; rfl, HB2.out⟩
        · have hys := pl.all_take l pl.fits9 k p HP.out HA.out HRR.out
          have HYS := Lib.hid hys
          clear hys
          go_roundw
          case rel => exact ⟨k + 1, by omega, by go_num, HYS, HB2.out⟩
          case measure => simp [intOf]; omega
      · have hfin := HA.out
        rw [List.take_of_length_le (by omega)] at hfin
        have HFIN := Lib.hid hfin
        clear hfin
        go_wp2_with fail
        go_ret
        exact ⟨by rw [HF.out, HFIN.out]; rfl, hb⟩

set_option maxHeartbeats 1000000 in
theorem fits7_sp (vn : Value) (h : Src) (w : World) (hv : RdK w vn h.2) :
    Calls Try.prog 22 #[.agg #[pl.strV h.1, vn]] w fun e w' => e = .returned (.bool (pl.fits7 h)) ∧ Below w.heap.size w w' := by
  obtain ⟨p, ns⟩ := h
  have hps : (⟨p.toArray⟩ : ByteArray).size = p.length := by rfl
  have h3 := fun W (hW : Below w.heap.size w W) => fits8_sp vn ns W (hv.below hW)
  have H3 := Lib.hid h3
  obtain ⟨a, cap, rfl, hvv⟩ := hv
  clear h3 hvv
  unfold pl.strV
  by_cases hb : 2147483647 < p.length
  · have hF : pl.fits7 (p, ns) = false := by unfold pl.fits7; rw [decide_eq_false (by show ¬ p.length ≤ _; omega)]; rfl
    have HF := Lib.hid hF
    have hpI : 2147483647 < ((⟨p.toArray⟩ : ByteArray).size : Int) := by rw [hps]; omega
    clear hF hps
    go_enter Try.func22, Try.ntmps22
    go_wp2_with fail
    go_ret
    exact ⟨by rw [HF.out]; rfl, (Below.refl _ _).alloc (Nat.le_refl _) _⟩
  · have hF : pl.fits7 (p, ns) = pl.fits8 ns := by unfold pl.fits7; rw [decide_eq_true (by show p.length ≤ _; omega)]; rfl
    have HF := Lib.hid hF
    have hpI : ¬ (2147483647 < ((⟨p.toArray⟩ : ByteArray).size : Int)) := by rw [hps]; omega
    clear hF hps
    obtain ⟨r, hr⟩ : ∃ r, pl.fits8 ns = r := ⟨_, rfl⟩
    have HRR := Lib.hid hr
    clear hr
    rcases r with _ | _
    all_goals
      go_enter Try.func22, Try.ntmps22
      go_wp2_with (go_at_call 34; have HB1 := Lib.hid ((Below.refl _ _).alloc (Nat.le_refl w.heap.size) (Obj.cells #[.string ⟨p.toArray⟩, .slice a ns.length cap] 51)); refine (H3.out _ HB1.out).mono ?_; rintro e w2 ⟨rfl, hb2⟩; have HB2 := Lib.hid (HB1.out.trans (hb2.mono HB1.out.size)); clear hb2; rw [HRR.out])
      go_ret
      exact ⟨by rw [HF.out, HRR.out]; rfl, HB2.out⟩

set_option maxHeartbeats 1000000 in
theorem fits6_sp (v : Value) (l : List Src) (w : World) (hv : RdN w v l) :
    Calls Try.prog 19 #[v] w fun e w' => e = .returned (.bool (pl.fits6 l)) ∧ Below w.heap.size w w' := by
  obtain ⟨a, cap, rfl, hc⟩ := hv
  by_cases hbig : 2147483647 < l.length
  · have hF : pl.fits6 l = false := by unfold pl.fits6; rw [decide_eq_false (by omega)]; rfl
    have HF := Lib.hid hF
    clear hF hc
    go_enter Try.func19, Try.ntmps19
    go_wp2_with fail
    go_ret
    exact ⟨by rw [HF.out]; rfl, Below.refl _ _⟩
  · have HC := Lib.hid hc
    have hF : pl.fits6 l = l.all pl.fits7 := by unfold pl.fits6; rw [decide_eq_true (by omega)]; rfl
    have HF := Lib.hid hF
    clear hc hF
    go_enter Try.func19, Try.ntmps19
    go_wp2_with fail
    go_loopw [10] (fun i wr => ∃ k : Nat, k ≤ l.length ∧ i = .int .i64 k ∧ Hid ((l.take k).all pl.fits7 = true) ∧ Below w.heap.size w wr) (fun i _ => l.length - (intOf i).toNat)
    case atStart => exact ⟨0, Nat.zero_le _, rfl, Lib.hid rfl, Below.refl _ _⟩
    case round =>
      obtain ⟨k, hk, rfl, HA, hb⟩ := hrel
      by_cases hlt : k < l.length
      · obtain ⟨p, hp⟩ : ∃ p, l[k]? = some p := ⟨_, List.getElem?_eq_getElem hlt⟩
        obtain ⟨g, o, vn, rfl, hg, hcell, hcell2, hrd⟩ := HC.out k p hp
        have hc1 : wr.cell? ⟨g, o + k * 2, none⟩ = some (pl.strV p.1) := by rw [below_cell hb _ _ hg]; exact hcell
        have hc2 : wr.cell? ⟨g, o + k * 2 + 1, none⟩ = some vn := by rw [below_cell hb _ _ hg]; exact hcell2
        have hf2 := fun W (hW : Below w.heap.size w W) => fits7_sp vn p W (hrd.below hW)
        obtain ⟨an, cn, rfl, hrr⟩ := hrd
        unfold pl.strV at hc1 hf2
        have H2 := Lib.hid hf2
        have HP := Lib.hid hp
        obtain ⟨r, hr⟩ : ∃ r, pl.fits7 p = r := ⟨_, rfl⟩
        have HRR := Lib.hid hr
        have HB := Lib.hid hb
        clear hr hp hf2 hcell hcell2 hrr
        rcases r with _ | _
        all_goals
          go_wp2_with (go_at_call 22; have HB1 := Lib.hid (HB.out.alloc HB.out.size (Obj.cells #[.string ⟨p.1.toArray⟩, .slice an p.2.length cn] 51)); refine (H2.out _ HB1.out).mono ?_; rintro e w2 ⟨rfl, hb2⟩; have HB2 := Lib.hid (HB1.out.trans (hb2.mono HB1.out.size)); clear hb2; rw [HRR.out])
        · have hno := pl.all_no l pl.fits7 k p HP.out HRR.out
          go_ret
          exact ⟨by rw [HF.out, hno]; rfl, HB2.out⟩
        · have hys := pl.all_take l pl.fits7 k p HP.out HA.out HRR.out
          have HYS := Lib.hid hys
          clear hys
          go_roundw
          case rel => exact ⟨k + 1, by omega, by go_num, HYS, HB2.out⟩
          case measure => simp [intOf]; omega
      · have hfin := HA.out
        rw [List.take_of_length_le (by omega)] at hfin
        have HFIN := Lib.hid hfin
        clear hfin
        go_wp2_with fail
        go_ret
        exact ⟨by rw [HF.out, HFIN.out]; rfl, hb⟩

end Go.Proofs.Ytabeklpllphiaaa
