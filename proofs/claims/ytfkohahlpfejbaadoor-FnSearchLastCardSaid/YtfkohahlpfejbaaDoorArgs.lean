/-
  WORDS FOR ARGUMENTS: slices of strings, of hosts, as they came in; WALKS: zzFits.
-/
import Derived.Test.YtfkohahlpfejbaaDoorNH1
namespace Go.Proofs.YtfkohahlpfejbaaDoor
open Go.RowKit

/-- The slice value v reads as the strings l. -/
def RdS (w : World) (v : Value) (l : List (List UInt8)) : Prop :=
  ∃ a cap, v = .slice a l.length cap ∧ l.length ≤ cap ∧ (a = none → cap = 0) ∧ ∀ k p, l[k]? = some p → ∃ g o, a = some ⟨g, o, none⟩ ∧ g < w.heap.size ∧ w.cell? ⟨g, o + k, none⟩ = some (pl.strV p)

theorem RdS.below {w w' : World} {v : Value} {l : List (List UInt8)} (h : RdS w v l) (hb : Below w.heap.size w w') : RdS w' v l := by
  obtain ⟨a, cap, hv, h1, h0, h3⟩ := h
  refine ⟨a, cap, hv, h1, h0, fun k b hk => ?_⟩
  obtain ⟨g, o, ha, hg, hc⟩ := h3 k b hk
  have := hb.size
  exact ⟨g, o, ha, by omega, by rw [below_cell hb g _ hg]; exact hc⟩
theorem RdS.of_strs {w : World} {B : Nat} {v : Value} {l : List (List UInt8)} (h : Strs w B v l) : RdS w v l := by
  have h0 := h
  obtain ⟨a, cap, rfl, h2⟩ := h.form
  refine ⟨a, cap, rfl, ?_, ?_, fun k p hk => ?_⟩
  · rcases h0.2 with ⟨hv, hn⟩ | ⟨g, cap', cur, hv, _, _, hle, _⟩
    · injection hv with _ e1 e2; omega
    · injection hv with _ e1 e2; omega
  · intro ha
    rcases h0.2 with ⟨hv, hn⟩ | ⟨g, cap', cur, hv, _⟩
    · injection hv with _ e1 e2
    · injection hv with e0; rw [ha] at e0; cases e0
  · obtain ⟨g, ha, hg, _, hc⟩ := h2 k p hk
    exact ⟨g, 0, ha, hg, by rw [Nat.zero_add]; exact hc⟩

abbrev HostL := List (List UInt8 × List (List UInt8))

/-- The slice value v reads as these hosts. -/
def RdH (w : World) (v : Value) (l : HostL) : Prop :=
  ∃ a cap, v = .slice a l.length cap ∧ ∀ k h, l[k]? = some h → ∃ g o vn, a = some ⟨g, o, none⟩ ∧ g < w.heap.size ∧ w.cell? ⟨g, o + k * 2, none⟩ = some (pl.strV h.1) ∧ w.cell? ⟨g, o + k * 2 + 1, none⟩ = some vn ∧ RdS w vn h.2

theorem RdH.below {w w' : World} {v : Value} {l : HostL} (h : RdH w v l) (hb : Below w.heap.size w w') : RdH w' v l := by
  obtain ⟨a, cap, hv, h3⟩ := h
  refine ⟨a, cap, hv, fun k b hk => ?_⟩
  obtain ⟨g, o, vn, ha, hg, hc, hd, hr⟩ := h3 k b hk
  have := hb.size
  exact ⟨g, o, vn, ha, by omega, by rw [below_cell hb g _ hg]; exact hc, by rw [below_cell hb g _ hg]; exact hd, hr.below hb⟩

def pl.fits3 (l : List (List UInt8)) : Bool := decide (l.length ≤ 2147483647) && l.all (fun p => decide (p.length ≤ 2147483647))
def pl.fits2 (h : List UInt8 × List (List UInt8)) : Bool := decide (h.1.length ≤ 2147483647) && pl.fits3 h.2
def pl.fits1 (l : HostL) : Bool := decide (l.length ≤ 2147483647) && l.all pl.fits2

theorem pl.all_no {α : Type} (l : List α) (f : α → Bool) (k : Nat) (x : α) (hx : l[k]? = some x) (h : f x = false) : l.all f = false := by
  rw [List.all_eq_false]
  exact ⟨x, List.mem_of_getElem? hx, by simp [h]⟩
theorem pl.all_take {α : Type} (l : List α) (f : α → Bool) (k : Nat) (x : α) (hx : l[k]? = some x) (h : (l.take k).all f = true) (h2 : f x = true) : (l.take (k + 1)).all f = true := by
  obtain ⟨hk, rfl⟩ := List.getElem?_eq_some_iff.1 hx
  rw [List.take_succ_eq_append_getElem hk, List.all_append, h]
  simp [h2]

set_option maxHeartbeats 1000000 in
theorem fits3_sp (v : Value) (l : List (List UInt8)) (w : World) (hv : RdS w v l) :
    Calls Tryd.prog 58 #[v] w fun e w' => e = .returned (.bool (pl.fits3 l)) ∧ Below w.heap.size w w' := by
  obtain ⟨a, cap, rfl, _, _, hc⟩ := hv
  by_cases hbig : 2147483647 < l.length
  · have hF : pl.fits3 l = false := by unfold pl.fits3; rw [decide_eq_false (by omega)]; rfl
    have HF := Lib.hid hF
    clear hF hc
    go_enter Tryd.func58, Tryd.ntmps58
    go_wp2_with fail
    go_ret
    exact ⟨by rw [HF.out]; rfl, Below.refl _ _⟩
  · have HC := Lib.hid hc
    have hF : pl.fits3 l = l.all (fun p => decide (p.length ≤ 2147483647)) := by unfold pl.fits3; rw [decide_eq_true (by omega)]; rfl
    have HF := Lib.hid hF
    clear hc hF
    go_enter Tryd.func58, Tryd.ntmps58
    go_wp2_with fail
    go_loopw [10] (fun i wr => ∃ k : Nat, k ≤ l.length ∧ i = .int .i64 k ∧ Hid ((l.take k).all (fun p => decide (p.length ≤ 2147483647)) = true) ∧ wr = w) (fun i _ => l.length - (intOf i).toNat)
    case atStart => exact ⟨0, Nat.zero_le _, rfl, Lib.hid rfl, rfl⟩
    case round =>
      obtain ⟨k, hk, rfl, HA, rfl⟩ := hrel
      by_cases hlt : k < l.length
      · obtain ⟨p, hp⟩ : ∃ p, l[k]? = some p := ⟨_, List.getElem?_eq_getElem hlt⟩
        obtain ⟨g, o, rfl, hg, hcell⟩ := HC.out k p hp
        have hps : (⟨p.toArray⟩ : ByteArray).size = p.length := by rfl
        by_cases hpl : 2147483647 < p.length
        · have hno : l.all (fun p => decide (p.length ≤ 2147483647)) = false := pl.all_no _ _ k p hp (by simp; omega)
          have HNO := Lib.hid hno
          have hpI : 2147483647 < ((⟨p.toArray⟩ : ByteArray).size : Int) := by rw [hps]; omega
          unfold pl.strV at hcell
          have HP := Lib.hid hp
          clear hno hp hps
          go_wp2_with fail
          go_ret
          exact ⟨by rw [HF.out, HNO.out]; rfl, Below.refl _ _⟩
        · have hys := pl.all_take l (fun p => decide (p.length ≤ 2147483647)) k p hp HA.out (by simp; omega)
          have HYS := Lib.hid hys
          have hpI : ¬ (2147483647 < ((⟨p.toArray⟩ : ByteArray).size : Int)) := by rw [hps]; omega
          unfold pl.strV at hcell
          have HP := Lib.hid hp
          clear hys hp hps
          go_wp2_with fail
          go_roundw
          case rel => exact ⟨k + 1, by omega, by go_num, HYS, by simp⟩
          case measure => simp [intOf]; omega
      · have hfin := HA.out
        rw [List.take_of_length_le (by omega)] at hfin
        have HFIN := Lib.hid hfin
        clear hfin
        go_wp2_with fail
        go_ret
        exact ⟨by rw [HF.out, HFIN.out]; rfl, Below.refl _ _⟩

set_option maxHeartbeats 1000000 in
theorem fits2_sp (vn : Value) (h : List UInt8 × List (List UInt8)) (w : World) (hv : RdS w vn h.2) :
    Calls Tryd.prog 42 #[.agg #[pl.strV h.1, vn]] w fun e w' => e = .returned (.bool (pl.fits2 h)) ∧ Below w.heap.size w w' := by
  obtain ⟨p, ns⟩ := h
  have hps : (⟨p.toArray⟩ : ByteArray).size = p.length := by rfl
  have h3 := fun W (hW : Below w.heap.size w W) => fits3_sp vn ns W (hv.below hW)
  have H3 := Lib.hid h3
  obtain ⟨a, cap, rfl, _, _, _⟩ := hv
  clear h3
  unfold pl.strV
  by_cases hb : 2147483647 < p.length
  · have hF : pl.fits2 (p, ns) = false := by unfold pl.fits2; rw [decide_eq_false (by show ¬ p.length ≤ _; omega)]; rfl
    have HF := Lib.hid hF
    have hpI : 2147483647 < ((⟨p.toArray⟩ : ByteArray).size : Int) := by rw [hps]; omega
    clear hF hps
    go_enter Tryd.func42, Tryd.ntmps42
    go_wp2_with fail
    go_ret
    exact ⟨by rw [HF.out]; rfl, (Below.refl _ _).alloc (Nat.le_refl _) _⟩
  · have hF : pl.fits2 (p, ns) = pl.fits3 ns := by unfold pl.fits2; rw [decide_eq_true (by show p.length ≤ _; omega)]; rfl
    have HF := Lib.hid hF
    have hpI : ¬ (2147483647 < ((⟨p.toArray⟩ : ByteArray).size : Int)) := by rw [hps]; omega
    clear hF hps
    obtain ⟨r, hr⟩ : ∃ r, pl.fits3 ns = r := ⟨_, rfl⟩
    have HRR := Lib.hid hr
    clear hr
    rcases r with _ | _
    all_goals
      go_enter Tryd.func42, Tryd.ntmps42
      go_wp2_with (go_at_call 58; have HB1 := Lib.hid ((Below.refl _ _).alloc (Nat.le_refl w.heap.size) (Obj.cells #[.string ⟨p.toArray⟩, .slice a ns.length cap] 68)); refine (H3.out _ HB1.out).mono ?_; rintro e w2 ⟨rfl, hb2⟩; have HB2 := Lib.hid (HB1.out.trans (hb2.mono HB1.out.size)); clear hb2; rw [HRR.out])
      go_ret
      exact ⟨by rw [HF.out, HRR.out]; rfl, HB2.out⟩

set_option maxHeartbeats 1000000 in
theorem fits1_sp (v : Value) (l : HostL) (w : World) (hv : RdH w v l) :
    Calls Tryd.prog 13 #[v] w fun e w' => e = .returned (.bool (pl.fits1 l)) ∧ Below w.heap.size w w' := by
  obtain ⟨a, cap, rfl, hc⟩ := hv
  by_cases hbig : 2147483647 < l.length
  · have hF : pl.fits1 l = false := by unfold pl.fits1; rw [decide_eq_false (by omega)]; rfl
    have HF := Lib.hid hF
    clear hF hc
    go_enter Tryd.func13, Tryd.ntmps13
    go_wp2_with fail
    go_ret
    exact ⟨by rw [HF.out]; rfl, Below.refl _ _⟩
  · have HC := Lib.hid hc
    have hF : pl.fits1 l = l.all pl.fits2 := by unfold pl.fits1; rw [decide_eq_true (by omega)]; rfl
    have HF := Lib.hid hF
    clear hc hF
    go_enter Tryd.func13, Tryd.ntmps13
    go_wp2_with fail
    go_loopw [10] (fun i wr => ∃ k : Nat, k ≤ l.length ∧ i = .int .i64 k ∧ Hid ((l.take k).all pl.fits2 = true) ∧ Below w.heap.size w wr) (fun i _ => l.length - (intOf i).toNat)
    case atStart => exact ⟨0, Nat.zero_le _, rfl, Lib.hid rfl, Below.refl _ _⟩
    case round =>
      obtain ⟨k, hk, rfl, HA, hb⟩ := hrel
      by_cases hlt : k < l.length
      · obtain ⟨p, hp⟩ : ∃ p, l[k]? = some p := ⟨_, List.getElem?_eq_getElem hlt⟩
        obtain ⟨g, o, vn, rfl, hg, hcell, hcell2, hrd⟩ := HC.out k p hp
        have hc1 : wr.cell? ⟨g, o + k * 2, none⟩ = some (pl.strV p.1) := by rw [below_cell hb _ _ hg]; exact hcell
        have hc2 : wr.cell? ⟨g, o + k * 2 + 1, none⟩ = some vn := by rw [below_cell hb _ _ hg]; exact hcell2
        have hf2 := fun W (hW : Below w.heap.size w W) => fits2_sp vn p W (hrd.below hW)
        obtain ⟨an, cn, rfl, _⟩ := hrd
        unfold pl.strV at hc1 hf2
        have H2 := Lib.hid hf2
        have HP := Lib.hid hp
        obtain ⟨r, hr⟩ : ∃ r, pl.fits2 p = r := ⟨_, rfl⟩
        have HRR := Lib.hid hr
        have HB := Lib.hid hb
        clear hr hp hf2 hcell hcell2
        rcases r with _ | _
        all_goals
          go_wp2_with (go_at_call 42; have HB1 := Lib.hid (HB.out.alloc HB.out.size (Obj.cells #[.string ⟨p.1.toArray⟩, .slice an p.2.length cn] 68)); refine (H2.out _ HB1.out).mono ?_; rintro e w2 ⟨rfl, hb2⟩; have HB2 := Lib.hid (HB1.out.trans (hb2.mono HB1.out.size)); clear hb2; rw [HRR.out])
        · have hno := pl.all_no l pl.fits2 k p HP.out HRR.out
          go_ret
          exact ⟨by rw [HF.out, hno]; rfl, HB2.out⟩
        · have hys := pl.all_take l pl.fits2 k p HP.out HA.out HRR.out
          have HYS := Lib.hid hys
          clear hys
          go_roundw
          case rel => exact ⟨k + 1, by omega, by go_num, HYS, HB2.out⟩
          case measure => simp [intOf]; omega
      · have hfin := HA.out
        rw [List.take_of_length_le (by omega)] at hfin
        have HFIN := Lib.hid hfin
        clear hfin
        go_wp2_with fail
        go_ret
        exact ⟨by rw [HF.out, HFIN.out]; rfl, hb⟩

end Go.Proofs.YtfkohahlpfejbaaDoor
