/-
  WALKS: IsName of the reference.
-/
import Derived.Test.YtlgohaoplbiedaaLow
import Derived.Test.YtlgohaoplbiedaaSplit
import Derived.Test.YtlgohaoplbiedaaPlIsN
import Derived.Deep.DeepCutAuto
namespace Go.Proofs.Ytlgohaoplbiedaa
open Go.RowKit

/-- what IsName returns of a name without the point at its end -/
def IsNameRes (L : ByteArray) : Ending :=
  .returned (.tuple #[.bool (pl.lenB L.data.toList && (pl.split 46 L.data.toList).all pl.okLab), .bool ((pl.split 46 L.data.toList).any (fun p => (p.map pl.lowB).any pl.sdB) || !(pl.lenB L.data.toList && (pl.split 46 L.data.toList).all pl.okLab))])

set_option maxRecDepth 100000 in
set_option maxHeartbeats 2000000 in
theorem isName_core (s L : ByteArray) (w : World) (hs : s.size ≤ 4398046511104) (hLs : L.size ≤ 4398046511104) (hd : (s.toList == [46]) = false)
    (hc : (s.size ≤ 0 ∧ s = L) ∨ (∃ h : 1 ≤ s.size, ((s[s.size - 1].toNat : Int) == 46) = false ∧ s = L) ∨ (∃ h : 1 ≤ s.size, ((s[s.size - 1].toNat : Int) == 46) = true ∧ s.extract 0 (s.size - 1) = L)) :
    Calls Try.prog 19 #[.string s] w fun e w' => e = IsNameRes L ∧ Below w.heap.size w w' := by
  have HC := Lib.hid hc
  clear hc
  go_enter Try.func19, Try.ntmps19
  go_upto_region 4 with (fail)
  go_cut [21] (fun v wx => ∃ B : Bool, v = .bool B ∧ w = wx ∧ ((B = false ∧ s = L) ∨ (B = true ∧ 1 ≤ s.size ∧ s.extract 0 (s.size - 1) = L)))
  case first =>
    rcases HC.out with ⟨hc1, hc2⟩ | ⟨h1, hc1, hc2⟩ | ⟨h1, hc1, hc2⟩
    all_goals have HE := Lib.hid hc2
    all_goals clear hc2
    · have hz : ¬ 0 < (s.size : Int) := by omega
      clear hc1
      go_wp2
      go_meet
      case rel => exact ⟨_, rfl, rfl, Or.inl ⟨rfl, HE.out⟩⟩
    · go_wp2
      go_meet
      case rel => exact ⟨_, rfl, rfl, Or.inl ⟨by first | rfl | exact hc1, HE.out⟩⟩
    · go_wp2
      go_meet
      case rel => exact ⟨_, rfl, rfl, Or.inr ⟨by first | rfl | exact hc1, h1, HE.out⟩⟩
  case rest =>
    obtain ⟨B, rfl, rfl, hB⟩ := hcut
    clear HC
    go_upto_if 21 with (fail)
    go_cut [0] (fun v wx => v = .string L ∧ w = wx)
    case first =>
      rcases hB with ⟨rfl, rfl⟩ | ⟨rfl, h1, hB⟩
      · go_wp2
        go_meet
        case rel => exact ⟨rfl, rfl⟩
      · go_wp2
        go_meet
        case rel => exact ⟨rfl, rfl⟩
    case rest =>
      obtain ⟨rfl, rfl⟩ := hcut
      clear hB
      go_upto_region 6 with (fail)
      go_cut [2] (fun v wx => v = .bool (pl.lenB L.data.toList) ∧ w = wx)
      case first =>
        have hl : L.data.toList.length = L.size := by simp
        go_wp2
        all_goals go_meet
        all_goals exact ⟨congrArg Value.bool (by unfold pl.lenB; rw [hl, Bool.eq_iff_iff]; simp; omega), rfl⟩
      case rest =>
        obtain ⟨rfl, rfl⟩ := hcut
        go_wp2_with (go_at_call 40; go_must (refine (split_sp _ _ _ hLs).mono ?_); rintro e w' ⟨v, rfl, hS, hb⟩; obtain ⟨a, cap, rfl, hcell⟩ := hS.form)
        have hpl := pl.split_len 46 L
        go_loopw [2, 3, 37] (fun v2 v3 i wr => ∃ (k : Nat) (B2 B3 : Bool), k ≤ (pl.split 46 L.data.toList).length ∧ i = .int .i64 k ∧ v2 = .bool B2 ∧ v3 = .bool B3 ∧ Hid (B2 = (pl.lenB L.data.toList && ((pl.split 46 L.data.toList).take k).all pl.okLab)) ∧ Hid (B3 = ((pl.split 46 L.data.toList).take k).any (fun p => (p.map pl.lowB).any pl.sdB)) ∧ Below w.heap.size w wr ∧ Below w'.heap.size w' wr) (fun _ _ i _ => (pl.split 46 L.data.toList).length - (intOf i).toNat)
        case atStart => exact ⟨0, _, _, Nat.zero_le _, rfl, rfl, rfl, Lib.hid (by simp), Lib.hid (by simp), hb, Below.refl _ _⟩
        case round =>
          obtain ⟨k, B2, B3, hk, rfl, rfl, rfl, HB2, HB3, hbw, hbs⟩ := hrel
          by_cases hlt : k < (pl.split 46 L.data.toList).length
          · obtain ⟨M, hM⟩ : ∃ M : ByteArray, M.data.toList = (pl.split 46 L.data.toList)[k] := ⟨⟨(pl.split 46 L.data.toList)[k].toArray⟩, rfl⟩
            have hMk : (pl.split 46 L.data.toList)[k]? = some M.data.toList := by rw [hM]; exact List.getElem?_eq_getElem hlt
            obtain ⟨g, rfl, hg1, _, hc⟩ := hcell k _ hMk
            rw [pl.strV_of] at hc
            have hc1 := (hbs.cell (p := ⟨g, k, none⟩) hg1).trans hc
            have hMs : M.size ≤ 4398046511104 := by have := pl.split_size 46 L k M hMk; omega
            have HM := Lib.hid hMk
            have HC := Lib.hid hcell
            clear hM hMk hcell hc
            go_upto_region 10 with (fail)
            go_cut [2] (fun v wx => ∃ C2 : Bool, v = .bool C2 ∧ wr = wx ∧ Hid (C2 = (B2 && pl.headB M.data.toList)))
            case first =>
              clear hc1
              rcases B2 with _ | _
              · go_wp2
                go_meet
                case rel => exact ⟨_, rfl, rfl, Lib.hid rfl⟩
              by_cases h1 : M.size < 1
              · have HH := Lib.hid (pl.headB_short M h1)
                go_wp2
                go_meet
                case rel => exact ⟨_, rfl, rfl, Lib.hid (by rw [HH.out]; rfl)⟩
              by_cases h2 : 63 < M.size
              · have HH := Lib.hid (pl.headB_long M h2)
                go_wp2
                go_meet
                case rel => exact ⟨_, rfl, rfl, Lib.hid (by rw [HH.out]; rfl)⟩
              have HH := Lib.hid (pl.headB_mid M (by omega) (by omega))
              have h3 : 1 ≤ M.size := by omega
              rcases e1 : ((M[0].toNat : Int) != 45) with _ | _
              · rw [e1] at HH
                go_wp2
                go_meet
                case rel => exact ⟨_, rfl, rfl, Lib.hid (by rw [HH.out]; rfl)⟩
              rcases e2 : ((M[M.size - 1].toNat : Int) != 45) with _ | _
              all_goals
                rw [e1, e2] at HH
                go_wp2
                go_meet
                case rel => exact ⟨_, rfl, rfl, Lib.hid (by rw [HH.out]; rfl)⟩
            case rest =>
              obtain ⟨C2, rfl, rfl, HC2⟩ := hcut
              go_wp2_with fail
              obtain ⟨wo, rfl⟩ : ∃ wo : World, wo = wr := ⟨_, rfl⟩
              go_loopw [2, 3, 67] (fun v2 v3 i wr => ∃ (j : Nat) (D2 D3 : Bool), j ≤ M.size ∧ i = .int .i64 j ∧ v2 = .bool D2 ∧ v3 = .bool D3 ∧ Hid (D2 = (C2 && ((M.data.toList.take j).map pl.lowB).all pl.nbB)) ∧ Hid (D3 = (B3 || ((M.data.toList.take j).map pl.lowB).any pl.sdB)) ∧ Below w.heap.size w wr ∧ Below w'.heap.size w' wr) (fun _ _ i _ => M.size - (intOf i).toNat)
              case atStart => exact ⟨0, _, _, Nat.zero_le _, rfl, rfl, rfl, Lib.hid (by simp), Lib.hid (by simp), hbw, hbs⟩
              case round =>
                obtain ⟨j, D2, D3, hj, rfl, rfl, rfl, HD2, HD3, hbw2, hbs2⟩ := hrel
                by_cases hjl : j < M.size
                · obtain ⟨x, hx⟩ : ∃ x, pl.lowB M[j] = x := ⟨_, rfl⟩
                  have hlow := pl.low_one M j hjl
                  rw [hx] at hlow
                  have HX := Lib.hid hx
                  have hsz : (M.extract j (j + 1)).size ≤ 17592186044416 := by simp; omega
                  clear hx hc1
                  have hx0 : ∀ h, (⟨#[x]⟩ : ByteArray)[0]'h = x := fun _ => rfl
                  go_upto_region 15 with (go_at_call 41; go_must (refine (low_sp _ _ hsz).mono ?_); rintro e w2 ⟨rfl, hb2⟩; rw [hlow])
                  clear hlow hx0
                  have hby := UInt8.toNat_lt x
                  go_cut [3] (fun v wx => ∃ E3 : Bool, v = .bool E3 ∧ w2 = wx ∧ Hid (E3 = (D3 || pl.sdB x)))
                  case first =>
                    rcases D3 with _ | _
                    · rcases pl.sd_cases x with ⟨hs, _, _⟩ | ⟨hs, _, _⟩ | ⟨hs, _, _, _⟩ | ⟨hs, _, _, _⟩ | ⟨hs, _, _, _⟩
                      all_goals go_wp2
                      all_goals go_meet
                      all_goals exact ⟨_, rfl, rfl, Lib.hid (by rw [hs.out]; first | rfl | (simp; omega))⟩
                    · go_wp2
                      go_meet
                      case rel => exact ⟨_, rfl, rfl, Lib.hid rfl⟩
                  case rest =>
                    obtain ⟨E3, rfl, rfl, HE3⟩ := hcut
                    rcases D2 with _ | _
                    · go_wp2
                      go_roundw
                      case rel => exact ⟨j + 1, _, _, by omega, by go_num, rfl, rfl, Lib.hid (by rw [pl.all_take_succ _ _ _ hjl, HX.out, ← Bool.and_assoc, ← HD2.out]; rfl), Lib.hid (by rw [HE3.out, HD3.out, pl.any_take_succ _ _ _ hjl, HX.out, Bool.or_assoc]), hbw2.trans (hb2.mono hbw2.size), hbs2.trans (hb2.mono hbs2.size)⟩
                      case measure => simp [intOf]; omega
                    · rcases pl.nb_cases x with ⟨hs, _, _⟩ | ⟨hs, _, _⟩ | ⟨hs, _, _⟩ | ⟨hs, _, _, _, _⟩ | ⟨hs, _, _, _⟩ | ⟨hs, _, _, _, _⟩ | ⟨hs, _, _, _⟩
                      all_goals go_wp2
                      all_goals
                        go_roundw
                        case rel => exact ⟨j + 1, _, _, by omega, by go_num, rfl, rfl, Lib.hid (by rw [pl.all_take_succ _ _ _ hjl, HX.out, ← Bool.and_assoc, ← HD2.out, hs.out]; first | rfl | (simp; omega)), Lib.hid (by rw [HE3.out, HD3.out, pl.any_take_succ _ _ _ hjl, HX.out, Bool.or_assoc]), hbw2.trans (hb2.mono hbw2.size), hbs2.trans (hb2.mono hbs2.size)⟩
                        case measure => simp [intOf]; omega
                · rw [pl.take_all M j (by omega)] at HD2 HD3
                  go_wp2
                  go_roundw
                  case rel => exact ⟨k + 1, _, _, by omega, by go_num, rfl, rfl, Lib.hid (by rw [HD2.out, HC2.out, HB2.out, pl.take_snoc_of _ _ _ HM.out]; simp [pl.okLab, Bool.and_assoc]), Lib.hid (by rw [HD3.out, HB3.out, pl.take_snoc_of _ _ _ HM.out]; simp), hbw2, hbs2⟩
                  case measure => simp [intOf]; omega
          · have ek : ((pl.split 46 L.data.toList).take k) = pl.split 46 L.data.toList := List.take_of_length_le (by omega)
            rw [ek] at HB2 HB3
            have HC := Lib.hid hcell
            clear ek hcell
            rcases B2 with _ | _
            all_goals rcases B3 with _ | _
            all_goals go_wp2
            all_goals go_ret2
            all_goals exact ⟨by unfold IsNameRes; rw [← HB2.out, ← HB3.out]; rfl, hbw⟩

set_option maxRecDepth 100000 in
set_option maxHeartbeats 1000000 in
theorem isName_sp (s : ByteArray) (w : World) (hs : s.size ≤ 4398046511104) :
    Calls Try.prog 19 #[.string s] w fun e w' => e = .returned (.tuple #[.bool (pl.isN s.data.toList), .bool (pl.saN s.data.toList)]) ∧ Below w.heap.size w w' := by
  have hl : s.data.toList.length = s.size := by simp
  rcases hd : (s.toList == [46]) with _ | _
  · have hne : s.data.toList ≠ [46] := by
      intro e
      rw [Lib.toList_data, e] at hd
      exact absurd hd (by decide)
    have key : ∀ L : ByteArray, L.data.toList = pl.cutDot s.data.toList → IsNameRes L = .returned (.tuple #[.bool (pl.isN s.data.toList), .bool (pl.saN s.data.toList)]) := by
      intro L e
      unfold IsNameRes pl.saN pl.isN
      rw [if_neg hne, if_neg hne, e]
    by_cases h0 : s.size = 0
    · refine (isName_core s s w hs hs hd (Or.inl ⟨by omega, rfl⟩)).mono fun e w' ⟨he, hb⟩ => ⟨?_, hb⟩
      rw [he]
      apply key
      have : s.data.toList = [] := List.eq_nil_of_length_eq_zero (by omega)
      rw [this]; rfl
    · have h1 : 1 ≤ s.size := by omega
      by_cases h2 : s.data.toList.getLast? = some 46
      · have hx : (s.extract 0 (s.size - 1)).data.toList = pl.cutDot s.data.toList := by
          rw [pl.cutDot, if_pos h2, Lib.extract_data, List.dropLast_eq_take, hl]
          simp
        have hxs : (s.extract 0 (s.size - 1)).size ≤ 4398046511104 := by simp; omega
        refine (isName_core s _ w hs hxs hd (Or.inr (Or.inr ⟨h1, pl.last_eq s h1 h2, rfl⟩))).mono fun e w' ⟨he, hb⟩ => ⟨?_, hb⟩
        rw [he]
        exact key _ hx
      · have hx := pl.last_ne s h1 h2
        have hx2 : ((s[s.size - 1].toNat : Int) == 46) = false := by
          rw [bne_iff_ne] at hx
          rw [beq_eq_false_iff_ne]; exact hx
        refine (isName_core s s w hs hs hd (Or.inr (Or.inl ⟨h1, hx2, rfl⟩))).mono fun e w' ⟨he, hb⟩ => ⟨?_, hb⟩
        rw [he]
        apply key
        rw [pl.cutDot, if_neg h2]
  · have he : s.data.toList = [46] := by
      have := beq_iff_eq.1 hd
      rwa [Lib.toList_data] at this
    have hE := Lib.hid (show pl.isN s.data.toList = true by unfold pl.isN; rw [if_pos he])
    have hF := Lib.hid (show pl.saN s.data.toList = true by unfold pl.saN; rw [if_pos he])
    clear he hl
    go_enter Try.func19, Try.ntmps19
    go_wp2
    go_ret2
    exact ⟨by rw [hE.out, hF.out]; rfl, Below.refl _ _⟩

end Go.Proofs.Ytlgohaoplbiedaa
