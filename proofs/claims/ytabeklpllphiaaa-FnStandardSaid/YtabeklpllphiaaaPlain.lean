/-
  WALK: spec.Plain.
-/
import Derived.Test.YtabeklpllphiaaaLow
import Derived.Test.YtabeklpllphiaaaPlIsN
import Derived.Deep.DeepCutAuto
import Derived.Deep.DeepMust
namespace Go.Proofs.Ytabeklpllphiaaa
open Go.RowKit

def pl.alnB (x : UInt8) : Bool := (decide (97 ≤ x.toNat) && decide (x.toNat ≤ 122)) || (decide (48 ≤ x.toNat) && decide (x.toNat ≤ 57))
def pl.plB (n k : Nat) (x : UInt8) : Bool := pl.alnB x || (decide (x.toNat = 45 ∨ x.toNat = 46) && decide (k ≠ 0) && decide (k + 1 ≠ n))
/-- a plain name -/
def pl.plain (l : List UInt8) : Bool := decide (l ≠ []) && (List.range l.length).all (fun k => pl.plB l.length k (pl.lowB (l.getD k 0)))

theorem pl.aln_cases (x : UInt8) :
    (Hid (pl.alnB x = true) ∧ 97 ≤ (x.toNat : Int) ∧ (x.toNat : Int) ≤ 122) ∨ (Hid (pl.alnB x = true) ∧ ¬ (97 ≤ (x.toNat : Int)) ∧ 48 ≤ (x.toNat : Int) ∧ (x.toNat : Int) ≤ 57) ∨
    (Hid (pl.alnB x = false) ∧ 97 ≤ (x.toNat : Int) ∧ ¬ ((x.toNat : Int) ≤ 122) ∧ 48 ≤ (x.toNat : Int) ∧ ¬ ((x.toNat : Int) ≤ 57)) ∨ (Hid (pl.alnB x = false) ∧ ¬ (97 ≤ (x.toNat : Int)) ∧ ¬ (48 ≤ (x.toNat : Int))) ∨ (Hid (pl.alnB x = false) ∧ ¬ (97 ≤ (x.toNat : Int)) ∧ 48 ≤ (x.toNat : Int) ∧ ¬ ((x.toNat : Int) ≤ 57)) := by
  by_cases h1 : 97 ≤ x.toNat
  · by_cases h2 : x.toNat ≤ 122
    · exact .inl ⟨Lib.hid (by simp [pl.alnB, h1, h2]), by omega, by omega⟩
    · exact .inr (.inr (.inl ⟨Lib.hid (by simp [pl.alnB, h2]; omega), by omega, by omega, by omega, by omega⟩))
  · by_cases h3 : 48 ≤ x.toNat
    · by_cases h4 : x.toNat ≤ 57
      · exact .inr (.inl ⟨Lib.hid (by simp [pl.alnB, h3, h4]), by omega, by omega, by omega⟩)
      · exact .inr (.inr (.inr (.inr ⟨Lib.hid (by simp [pl.alnB, h1, h4]), by omega, by omega, by omega⟩)))
    · exact .inr (.inr (.inr (.inl ⟨Lib.hid (by simp [pl.alnB, h1, h3]), by omega, by omega⟩)))

theorem pl.plain_no (l : List UInt8) (k : Nat) (hk : k < l.length) (h : pl.plB l.length k (pl.lowB l[k]) = false) : pl.plain l = false := by
  unfold pl.plain
  have : (List.range l.length).all (fun k => pl.plB l.length k (pl.lowB (l.getD k 0))) = false := by
    rw [List.all_eq_false]
    refine ⟨k, List.mem_range.2 hk, ?_⟩
    rw [List.getD_eq_getElem?_getD, List.getElem?_eq_getElem hk]
    simp [h]
  rw [this, Bool.and_false]
theorem pl.plain_not (s : ByteArray) (k : Nat) (x : UInt8) (hk : k < s.size) (hx : pl.lowB s[k] = x) (h : pl.plB s.size k x = false) : pl.plain s.data.toList = false := by
  have hl : s.data.toList.length = s.size := by simp
  subst hx
  rw [← hl] at h
  exact pl.plain_no s.data.toList k (by omega) h
theorem pl.plain_yes (l : List UInt8) (hn : l ≠ []) (h : ∀ k (hk : k < l.length), pl.plB l.length k (pl.lowB l[k]) = true) : pl.plain l = true := by
  unfold pl.plain
  rw [Bool.and_eq_true, List.all_eq_true]
  refine ⟨by simpa using hn, fun k hk => ?_⟩
  have hk := List.mem_range.1 hk
  rw [List.getD_eq_getElem?_getD, List.getElem?_eq_getElem hk]
  exact h k hk

set_option maxHeartbeats 2000000 in
theorem plain_sp (s : ByteArray) (w : World) (hs : s.size ≤ 17592186044416) :
    Calls Try.prog 10 #[.string s] w fun e w' => e = .returned (.bool (pl.plain s.data.toList)) ∧ Below w.heap.size w w' := by
  have hl : s.data.toList.length = s.size := by simp
  have HLEN := Lib.hid hl
  clear hl
  go_enter Try.func10, Try.ntmps10
  go_wp2_with fail
  go_loopw [8] (fun i wr => ∃ k : Nat, k ≤ s.size ∧ i = .int .i64 k ∧ Hid (∀ j (h : j < s.size), j < k → pl.plB s.size j (pl.lowB s[j]) = true) ∧ Below w.heap.size w wr) (fun i _ => s.size - (intOf i).toNat)
  case atStart => exact ⟨0, Nat.zero_le _, rfl, Lib.hid (fun j _ h => by omega), Below.refl _ _⟩
  case round =>
    obtain ⟨k, hk, rfl, HA, hb⟩ := hrel
    by_cases hlt : k < s.size
    · obtain ⟨x, hx⟩ : ∃ x, pl.lowB s[k] = x := ⟨_, rfl⟩
      have hlow := pl.low_one s k hlt
      rw [hx] at hlow
      have HX := Lib.hid hx
      have hsz : (s.extract k (k + 1)).size ≤ 17592186044416 := by simp; omega
      clear hx
      have hx0 : ∀ h, (⟨#[x]⟩ : ByteArray)[0]'h = x := fun _ => rfl
      go_upto_region 5 with (go_at_call 11; go_must (refine (low_sp _ _ hsz).mono ?_); rintro e w2 ⟨rfl, hb2⟩; rw [hlow])
      clear hlow hx0
      have hby := UInt8.toNat_lt x
      go_cut [5] (fun v wx => ∃ E : Bool, v = .bool E ∧ w2 = wx ∧ Hid (E = pl.alnB x))
      case first =>
        rcases pl.aln_cases x with ⟨hs, _, _⟩ | ⟨hs, _, _, _⟩ | ⟨hs, _, _, _, _⟩ | ⟨hs, _, _⟩ | ⟨hs, _, _, _⟩
        all_goals go_wp2
        all_goals go_meet
        all_goals exact ⟨_, rfl, rfl, Lib.hid (by rw [hs.out])⟩
      case rest =>
        obtain ⟨E, rfl, rfl, HE⟩ := hcut
        have hb3 := hb.trans (hb2.mono hb.size)
        have HYES : pl.plB s.size k x = true → ∀ j (h : j < s.size), j < k + 1 → pl.plB s.size j (pl.lowB s[j]) = true := fun hp j h hj => by
          by_cases hjk : j = k
          · subst hjk; rw [HX.out]; exact hp
          · exact HA.out j h (by omega)
        have HNO : pl.plB s.size k x = false → pl.plain s.data.toList = false := pl.plain_not s k x hlt HX.out
        have HY := Lib.hid HYES
        have HN := Lib.hid HNO
        clear HYES HNO
        rcases E with _ | _
        · have HP : pl.plB s.size k x = (decide (x.toNat = 45 ∨ x.toNat = 46) && decide (k ≠ 0) && decide (k + 1 ≠ s.size)) := by unfold pl.plB; rw [← HE.out]; rfl
          have HPH := Lib.hid HP
          clear HP
          rcases e1 : ((x.toNat : Int) != 45) with _ | _
          · have hx45 : x.toNat = 45 := by simp at e1; omega
            have HX45 := Lib.hid hx45
            clear hx45
            rcases e3 : ((k : Int) == 0) with _ | _
            · rcases e4 : ((k : Int) == (s.size : Int) - 1) with _ | _
              · have hp : pl.plB s.size k x = true := by
                  rw [HPH.out]; simp at e3 e4; simp [HX45.out, e3]; omega
                have HPT := Lib.hid hp
                clear hp
                go_wp2
                go_roundw
                case rel => exact ⟨k + 1, by omega, by go_num, Lib.hid (HY.out HPT.out), hb3⟩
                case measure => simp [intOf]; omega
              · have hp : pl.plB s.size k x = false := by
                  rw [HPH.out]; simp at e4; simp; omega
                have hr := HN.out hp
                have HR := Lib.hid hr
                clear hp hr
                go_wp2
                go_ret
                exact ⟨by rw [HR.out]; rfl, hb3⟩
            · have hp : pl.plB s.size k x = false := by
                rw [HPH.out]; simp at e3; simp; omega
              have hr := HN.out hp
              have HR := Lib.hid hr
              clear hp hr
              go_wp2
              go_ret
              exact ⟨by rw [HR.out]; rfl, hb3⟩
          · rcases e2 : ((x.toNat : Int) != 46) with _ | _
            · have hx46 : x.toNat = 46 := by simp at e2; omega
              have HX46 := Lib.hid hx46
              clear hx46
              rcases e3 : ((k : Int) == 0) with _ | _
              · rcases e4 : ((k : Int) == (s.size : Int) - 1) with _ | _
                · have hp : pl.plB s.size k x = true := by
                    rw [HPH.out]; simp at e3 e4; simp [HX46.out, e3]; omega
                  have HPT := Lib.hid hp
                  clear hp
                  go_wp2
                  go_roundw
                  case rel => exact ⟨k + 1, by omega, by go_num, Lib.hid (HY.out HPT.out), hb3⟩
                  case measure => simp [intOf]; omega
                · have hp : pl.plB s.size k x = false := by
                    rw [HPH.out]; simp at e4; simp; omega
                  have hr := HN.out hp
                  have HR := Lib.hid hr
                  clear hp hr
                  go_wp2
                  go_ret
                  exact ⟨by rw [HR.out]; rfl, hb3⟩
              · have hp : pl.plB s.size k x = false := by
                  rw [HPH.out]; simp at e3; simp; omega
                have hr := HN.out hp
                have HR := Lib.hid hr
                clear hp hr
                go_wp2
                go_ret
                exact ⟨by rw [HR.out]; rfl, hb3⟩
            · have hp : pl.plB s.size k x = false := by
                rw [HPH.out]; simp at e1 e2; simp; omega
              have hr := HN.out hp
              have HR := Lib.hid hr
              clear hp hr
              go_wp2
              go_ret
              exact ⟨by rw [HR.out]; rfl, hb3⟩
        · go_wp2
          go_roundw
          case rel => exact ⟨k + 1, by omega, by go_num, Lib.hid (HY.out (by unfold pl.plB; rw [← HE.out]; rfl)), hb3⟩
          case measure => simp [intOf]; omega
    · have hfin : pl.plain s.data.toList = !s.toList.isEmpty := by
        rw [Lib.toList_data]
        by_cases h0 : s.data.toList = []
        · rw [h0]; rfl
        · rw [pl.plain_yes s.data.toList h0 (fun j hj => by
            have hj' : j < s.size := by rw [← HLEN.out]; exact hj
            have h := HA.out j hj' (by omega)
            rw [← HLEN.out] at h
            exact h)]
          cases hd : s.data.toList with
          | nil => exact absurd hd h0
          | cons a l => rfl
      have HF := Lib.hid hfin
      clear hfin
      go_wp2
      go_ret
      exact ⟨by rw [HF.out]; rfl, hb⟩

end Go.Proofs.Ytabeklpllphiaaa
