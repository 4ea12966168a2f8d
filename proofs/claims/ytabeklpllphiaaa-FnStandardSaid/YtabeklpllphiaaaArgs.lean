/-
  WORDS FOR ARGUMENTS: slices of strings, of hosts, as they came in; WALKS: zzFits.
-/
import Derived.Test.YtabeklpllphiaaaNS1
namespace Go.Proofs.Ytabeklpllphiaaa
open Go.RowKit

/-- The slice value v reads as the strings l. -/
def RdS (w : World) (v : Value) (l : List (List UInt8)) : Prop :=
  ∃ a cap, v = .slice a l.length cap ∧ l.length ≤ cap ∧ (a = none → cap = 0) ∧ ∀ k p, l[k]? = some p → ∃ g o, a = some ⟨g, o, none⟩ ∧ g < w.heap.size ∧ w.cell? ⟨g, o + k, none⟩ = some (pl.strV p)

theorem RdS.below {w w' : World} {v : Value} {l : List (List UInt8)} (h : RdS w v l) (hb : Below w.heap.size w w') : RdS w' v l := by
  obtain ⟨a, cap, hv, h1, h0, h3⟩ := h
  refine ⟨a, cap, hv, h1, h0, fun k b hk => ?_⟩
  obtain ⟨g, o, ha, hg, hc⟩ := h3 k b hk
  have := hb.size
  exact ⟨g, o, ha, by omega, by rw [below_cell hb g _ hg]; exact hc⟩
theorem RdS.of_strs {w : World} {B : Nat} {v : Value} {l : List (List UInt8)} (h : Strs w B v l) : RdS w v l := by
  have h0 := h
  obtain ⟨a, cap, rfl, h2⟩ := h.form
  refine ⟨a, cap, rfl, ?_, ?_, fun k p hk => ?_⟩
  · rcases h0.2 with ⟨hv, hn⟩ | ⟨g, cap', cur, hv, _, _, hle, _⟩
    · injection hv with _ e1 e2; omega
    · injection hv with _ e1 e2; omega
  · intro ha
    rcases h0.2 with ⟨hv, hn⟩ | ⟨g, cap', cur, hv, _⟩
    · injection hv with _ e1 e2
    · injection hv with e0; rw [ha] at e0; cases e0
  · obtain ⟨g, ha, hg, _, hc⟩ := h2 k p hk
    exact ⟨g, 0, ha, hg, by rw [Nat.zero_add]; exact hc⟩

abbrev HostL := List (List UInt8 × List (List UInt8))

/-- The slice value v reads as these hosts. -/
def RdH (w : World) (v : Value) (l : HostL) : Prop :=
  ∃ a cap, v = .slice a l.length cap ∧ ∀ k h, l[k]? = some h → ∃ g o vn, a = some ⟨g, o, none⟩ ∧ g < w.heap.size ∧ w.cell? ⟨g, o + k * 2, none⟩ = some (pl.strV h.1) ∧ w.cell? ⟨g, o + k * 2 + 1, none⟩ = some vn ∧ RdS w vn h.2

theorem RdH.below {w w' : World} {v : Value} {l : HostL} (h : RdH w v l) (hb : Below w.heap.size w w') : RdH w' v l := by
  obtain ⟨a, cap, hv, h3⟩ := h
  refine ⟨a, cap, hv, fun k b hk => ?_⟩
  obtain ⟨g, o, vn, ha, hg, hc, hd, hr⟩ := h3 k b hk
  have := hb.size
  exact ⟨g, o, vn, ha, by omega, by rw [below_cell hb g _ hg]; exact hc, by rw [below_cell hb g _ hg]; exact hd, hr.below hb⟩

def pl.fits3 (l : List (List UInt8)) : Bool := decide (l.length ≤ 2147483647) && l.all (fun p => decide (p.length ≤ 2147483647))
def pl.fits2 (h : List UInt8 × List (List UInt8)) : Bool := decide (h.1.length ≤ 2147483647) && pl.fits3 h.2
def pl.fits1 (l : HostL) : Bool := decide (l.length ≤ 2147483647) && l.all pl.fits2

theorem pl.all_no {α : Type} (l : List α) (f : α → Bool) (k : Nat) (x : α) (hx : l[k]? = some x) (h : f x = false) : l.all f = false := by
  rw [List.all_eq_false]
  exact ⟨x, List.mem_of_getElem? hx, by simp [h]⟩
theorem pl.all_take {α : Type} (l : List α) (f : α → Bool) (k : Nat) (x : α) (hx : l[k]? = some x) (h : (l.take k).all f = true) (h2 : f x = true) : (l.take (k + 1)).all f = true := by
  obtain ⟨hk, rfl⟩ := List.getElem?_eq_some_iff.1 hx
  rw [List.take_succ_eq_append_getElem hk, List.all_append, h]
  simp [h2]

set_option maxHeartbeats 1000000 in
theorem fits3_sp (v : Value) (l : List (List UInt8)) (w : World) (hv : RdS w v l) :
    Calls Try.prog 35 #[v] w fun e w' => e = .returned (.bool (pl.fits3 l)) ∧ Below w.heap.size w w' := by
  obtain ⟨a, cap, rfl, _, _, hc⟩ := hv
  by_cases hbig : 2147483647 < l.length
  · have hF : pl.fits3 l = false := by unfold pl.fits3; rw [decide_eq_false (by omega)]; rfl
    have HF := Lib.hid hF
    clear hF hc
    go_enter Try.func35, Try.ntmps35
    go_wp2_with fail
    go_ret
    exact ⟨by rw [HF.out]; rfl, Below.refl _ _⟩
  · have HC := Lib.hid hc
    have hF : pl.fits3 l = l.all (fun p => decide (p.length ≤ 2147483647)) := by unfold pl.fits3; rw [decide_eq_true (by omega)]; rfl
    have HF := Lib.hid hF
    clear hc hF
    go_enter Try.func35, Try.ntmps35
    go_wp2_with fail
    go_loopw [10] (fun i wr => ∃ k : Nat, k ≤ l.length ∧ i = .int .i64 k ∧ Hid ((l.take k).all (fun p => decide (p.length ≤ 2147483647)) = true) ∧ wr = w) (fun i _ => l.length - (intOf i).toNat)
    case atStart => exact ⟨0, Nat.zero_le _, rfl, Lib.hid rfl, rfl⟩
    case round =>
      obtain ⟨k, hk, rfl, HA, rfl⟩ := hrel
      by_cases hlt : k < l.length
      · obtain ⟨p, hp⟩ : ∃ p, l[k]? = some p := ⟨_, List.getElem?_eq_getElem hlt⟩
        obtain ⟨g, o, rfl, hg, hcell⟩ := HC.out k p hp
        have hps : (⟨p.toArray⟩ : ByteArray).size = p.length := by rfl
        by_cases hpl : 2147483647 < p.length
        · have hno : l.all (fun p => decide (p.length ≤ 2147483647)) = false := pl.all_no _ _ k p hp (by simp; omega)
          have HNO := Lib.hid hno
          have hpI : 2147483647 < ((⟨p.toArray⟩ : ByteArray).size : Int) := by rw [hps]; omega
          unfold pl.strV at hcell
          have HP := Lib.hid hp
          clear hno hp hps
          go_wp2_with fail
          go_ret
          exact ⟨by rw [HF.out, HNO.out]; rfl, Below.refl _ _⟩
        · have hys := pl.all_take l (fun p => decide (p.length ≤ 2147483647)) k p hp HA.out (by simp; omega)
          have HYS := Lib.hid hys
          have hpI : ¬ (2147483647 < ((⟨p.toArray⟩ : ByteArray).size : Int)) := by rw [hps]; omega
          unfold pl.strV at hcell
          have HP := Lib.hid hp
          clear hys hp hps
          go_wp2_with fail
          go_roundw
          case rel => exact ⟨k + 1, by omega, by go_num, HYS, by simp⟩
          case measure => simp [intOf]; omega
      · have hfin := HA.out
        rw [List.take_of_length_le (by omega)] at hfin
        have HFIN := Lib.hid hfin
        clear hfin
        go_wp2_with fail
        go_ret
        exact ⟨by rw [HF.out, HFIN.out]; rfl, Below.refl _ _⟩

end Go.Proofs.Ytabeklpllphiaaa
