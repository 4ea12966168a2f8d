/-
  WORDS FOR SERVICES, and the walks of zzFits4, zzFits5.
-/
import Derived.Test.YtabeklpllphiaaaArgs
import Derived.Laws.AppendOwnNone
namespace Go.Proofs.Ytabeklpllphiaaa
open Go.RowKit

theorem low_is (p : List UInt8) (hs : p.length ≤ 2147483647) (w : World) :
    Calls Try.prog 11 #[.string ⟨p.toArray⟩] w fun e w' => e = .returned (.string ⟨(pl.low p).toArray⟩) ∧ Hid (Below w.heap.size w w') :=
  (low_sp ⟨p.toArray⟩ w (by show p.length ≤ _; omega)).mono fun e w' ⟨h1, h2⟩ => ⟨h1, Lib.hid h2⟩
theorem pl.low_len (p : List UInt8) : (pl.low p).length = p.length := by simp [pl.low]
theorem plain_is (p : List UInt8) (o : Bool) (hs : p.length ≤ 2147483648) (ho : pl.plain p = o) (w : World) :
    Calls Try.prog 10 #[.string ⟨p.toArray⟩] w fun e w' => e = .returned (.bool o) ∧ Hid (Below w.heap.size w w') := by
  refine (plain_sp ⟨p.toArray⟩ w (by show p.length ≤ _; omega)).mono fun e w' ⟨he, hb⟩ => ⟨?_, Lib.hid hb⟩
  rw [he, ← ho]
theorem app_ba (a b : ByteArray) : (a ++ b).data.toList = a.data.toList ++ b.data.toList := by simp [ByteArray.data_append]
theorem pl.take_at {α : Type} (l : List α) (k : Nat) (x : α) (h : l[k]? = some x) : l.take (k + 1) = l.take k ++ [x] := by
  obtain ⟨hk, rfl⟩ := List.getElem?_eq_some_iff.1 h
  rw [List.take_succ_eq_append_getElem hk]

/-- a service: name, port, protocol, aliases -/
abbrev Svc := List UInt8 × Int × List UInt8 × List (List UInt8)
abbrev SvcL := List Svc
abbrev Key := List UInt8

/-- The slice value v reads as these services. -/
def RdV (w : World) (v : Value) (l : SvcL) : Prop :=
  ∃ a cap, v = .slice a l.length cap ∧ ∀ k h, l[k]? = some h → ∃ g o vn, a = some ⟨g, o, none⟩ ∧ g < w.heap.size ∧ w.cell? ⟨g, o + k * 4, none⟩ = some (pl.strV h.1) ∧ w.cell? ⟨g, o + k * 4 + 1, none⟩ = some (.int .i64 h.2.1) ∧ w.cell? ⟨g, o + k * 4 + 2, none⟩ = some (pl.strV h.2.2.1) ∧ w.cell? ⟨g, o + k * 4 + 3, none⟩ = some vn ∧ RdS w vn h.2.2.2
theorem RdV.below {w w' : World} {v : Value} {l : SvcL} (h : RdV w v l) (hb : Below w.heap.size w w') : RdV w' v l := by
  obtain ⟨a, cap, hv, h3⟩ := h
  refine ⟨a, cap, hv, fun k b hk => ?_⟩
  obtain ⟨g, o, vn, ha, hg, hc, hd, he, hf, hr⟩ := h3 k b hk
  have := hb.size
  exact ⟨g, o, vn, ha, by omega, by rw [below_cell hb g _ hg]; exact hc, by rw [below_cell hb g _ hg]; exact hd, by rw [below_cell hb g _ hg]; exact he, by rw [below_cell hb g _ hg]; exact hf, hr.below hb⟩

def pl.fits5 (h : Svc) : Bool := decide (h.1.length ≤ 2147483647) && decide (h.2.2.1.length ≤ 2147483647) && pl.fits3 h.2.2.2
def pl.fits4 (l : SvcL) : Bool := decide (l.length ≤ 2147483647) && l.all pl.fits5

set_option maxHeartbeats 1000000 in
theorem fits5_sp (vn : Value) (h : Svc) (w : World) (hv : RdS w vn h.2.2.2) :
    Calls Try.prog 24 #[.agg #[pl.strV h.1, .int .i64 h.2.1, pl.strV h.2.2.1, vn]] w fun e w' => e = .returned (.bool (pl.fits5 h)) ∧ Below w.heap.size w w' := by
  obtain ⟨p, i, r, ns⟩ := h
  have hps : (⟨p.toArray⟩ : ByteArray).size = p.length := by rfl
  have hrs : (⟨r.toArray⟩ : ByteArray).size = r.length := by rfl
  have h3 := fun W (hW : Below w.heap.size w W) => fits3_sp vn ns W (hv.below hW)
  have H3 := Lib.hid h3
  obtain ⟨a, cap, rfl, _, _, _⟩ := hv
  clear h3
  unfold pl.strV
  by_cases hb : 2147483647 < p.length
  · have hF : pl.fits5 (p, i, r, ns) = false := by unfold pl.fits5; rw [decide_eq_false (by show ¬ p.length ≤ _; omega)]; rfl
    have HF := Lib.hid hF
    have hpI : 2147483647 < ((⟨p.toArray⟩ : ByteArray).size : Int) := by rw [hps]; omega
    clear hF hps hrs
    go_enter Try.func24, Try.ntmps24
    go_wp2_with fail
    go_ret
    exact ⟨by rw [HF.out]; rfl, (Below.refl _ _).alloc (Nat.le_refl _) _⟩
  · by_cases hbr : 2147483647 < r.length
    · have hF : pl.fits5 (p, i, r, ns) = false := by unfold pl.fits5; rw [decide_eq_false (p := (p, i, r, ns).2.2.1.length ≤ 2147483647) (by show ¬ r.length ≤ _; omega)]; simp
      have HF := Lib.hid hF
      have hpI : ¬ (2147483647 < ((⟨p.toArray⟩ : ByteArray).size : Int)) := by rw [hps]; omega
      have hrI : 2147483647 < ((⟨r.toArray⟩ : ByteArray).size : Int) := by rw [hrs]; omega
      clear hF hps hrs
      go_enter Try.func24, Try.ntmps24
      go_wp2_with fail
      go_ret
      exact ⟨by rw [HF.out]; rfl, (Below.refl _ _).alloc (Nat.le_refl _) _⟩
    · have hF : pl.fits5 (p, i, r, ns) = pl.fits3 ns := by unfold pl.fits5; rw [decide_eq_true (p := (p, i, r, ns).1.length ≤ 2147483647) (by show p.length ≤ _; omega), decide_eq_true (p := (p, i, r, ns).2.2.1.length ≤ 2147483647) (by show r.length ≤ _; omega)]; rfl
      have HF := Lib.hid hF
      have hpI : ¬ (2147483647 < ((⟨p.toArray⟩ : ByteArray).size : Int)) := by rw [hps]; omega
      have hrI : ¬ (2147483647 < ((⟨r.toArray⟩ : ByteArray).size : Int)) := by rw [hrs]; omega
      clear hF hps hrs
      obtain ⟨q, hq⟩ : ∃ q, pl.fits3 ns = q := ⟨_, rfl⟩
      have HRR := Lib.hid hq
      clear hq
      rcases q with _ | _
      all_goals
        go_enter Try.func24, Try.ntmps24
        go_wp2_with (go_at_call 35; have HB1 := Lib.hid ((Below.refl _ _).alloc (Nat.le_refl w.heap.size) (Obj.cells #[.string ⟨p.toArray⟩, .int .i64 i, .string ⟨r.toArray⟩, .slice a ns.length cap] 61)); refine (H3.out _ HB1.out).mono ?_; rintro e w2 ⟨rfl, hb2⟩; have HB2 := Lib.hid (HB1.out.trans (hb2.mono HB1.out.size)); clear hb2; rw [HRR.out])
        go_ret
        exact ⟨by rw [HF.out, HRR.out]; rfl, HB2.out⟩

set_option maxHeartbeats 1000000 in
theorem fits4_sp (v : Value) (l : SvcL) (w : World) (hv : RdV w v l) :
    Calls Try.prog 8 #[v] w fun e w' => e = .returned (.bool (pl.fits4 l)) ∧ Below w.heap.size w w' := by
  obtain ⟨a, cap, rfl, hc⟩ := hv
  by_cases hbig : 2147483647 < l.length
  · have hF : pl.fits4 l = false := by unfold pl.fits4; rw [decide_eq_false (by omega)]; rfl
    have HF := Lib.hid hF
    clear hF hc
    go_enter Try.func8, Try.ntmps8
    go_wp2_with fail
    go_ret
    exact ⟨by rw [HF.out]; rfl, Below.refl _ _⟩
  · have HC := Lib.hid hc
    have hF : pl.fits4 l = l.all pl.fits5 := by unfold pl.fits4; rw [decide_eq_true (by omega)]; rfl
    have HF := Lib.hid hF
    clear hc hF
    go_enter Try.func8, Try.ntmps8
    go_wp2_with fail
    go_loopw [10] (fun i wr => ∃ k : Nat, k ≤ l.length ∧ i = .int .i64 k ∧ Hid ((l.take k).all pl.fits5 = true) ∧ Below w.heap.size w wr) (fun i _ => l.length - (intOf i).toNat)
    case atStart => exact ⟨0, Nat.zero_le _, rfl, Lib.hid rfl, Below.refl _ _⟩
    case round =>
      obtain ⟨k, hk, rfl, HA, hb⟩ := hrel
      by_cases hlt : k < l.length
      · obtain ⟨p, hp⟩ : ∃ p, l[k]? = some p := ⟨_, List.getElem?_eq_getElem hlt⟩
        obtain ⟨g, o, vn, rfl, hg, hcell, hcell2, hcell3, hcell4, hrd⟩ := HC.out k p hp
        have hc1 : wr.cell? ⟨g, o + k * 4, none⟩ = some (pl.strV p.1) := by rw [below_cell hb _ _ hg]; exact hcell
        have hc2 : wr.cell? ⟨g, o + k * 4 + 1, none⟩ = some (.int .i64 p.2.1) := by rw [below_cell hb _ _ hg]; exact hcell2
        have hc3 : wr.cell? ⟨g, o + k * 4 + 2, none⟩ = some (pl.strV p.2.2.1) := by rw [below_cell hb _ _ hg]; exact hcell3
        have hc4 : wr.cell? ⟨g, o + k * 4 + 3, none⟩ = some vn := by rw [below_cell hb _ _ hg]; exact hcell4
        have hf2 := fun W (hW : Below w.heap.size w W) => fits5_sp vn p W (hrd.below hW)
        obtain ⟨an, cn, rfl, _⟩ := hrd
        unfold pl.strV at hc1 hc3 hf2
        have H2 := Lib.hid hf2
        have HP := Lib.hid hp
        obtain ⟨r, hr⟩ : ∃ r, pl.fits5 p = r := ⟨_, rfl⟩
        have HRR := Lib.hid hr
        have HB := Lib.hid hb
        clear hr hp hf2 hcell hcell2 hcell3 hcell4
        rcases r with _ | _
        all_goals
          go_wp2_with (go_at_call 24; have HB1 := Lib.hid (HB.out.alloc HB.out.size (Obj.cells #[.string ⟨p.1.toArray⟩, .int .i64 p.2.1, .string ⟨p.2.2.1.toArray⟩, .slice an p.2.2.2.length cn] 61)); refine (H2.out _ HB1.out).mono ?_; rintro e w2 ⟨rfl, hb2⟩; have HB2 := Lib.hid (HB1.out.trans (hb2.mono HB1.out.size)); clear hb2; rw [HRR.out])
        · have hno := pl.all_no l pl.fits5 k p HP.out HRR.out
          go_ret
          exact ⟨by rw [HF.out, hno]; rfl, HB2.out⟩
        · have hys := pl.all_take l pl.fits5 k p HP.out HA.out HRR.out
          have HYS := Lib.hid hys
          clear hys
          go_roundw
          case rel => exact ⟨k + 1, by omega, by go_num, HYS, HB2.out⟩
          case measure => simp [intOf]; omega
      · have hfin := HA.out
        rw [List.take_of_length_le (by omega)] at hfin
        have HFIN := Lib.hid hfin
        clear hfin
        go_wp2_with fail
        go_ret
        exact ⟨by rw [HF.out, HFIN.out]; rfl, hb⟩

end Go.Proofs.Ytabeklpllphiaaa
