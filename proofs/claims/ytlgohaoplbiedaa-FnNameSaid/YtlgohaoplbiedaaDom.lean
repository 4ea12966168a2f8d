/-
  WALKS: isDomainName.
-/
import Derived.Test.YtlgohaoplbiedaaIdx
import Derived.Test.YtlgohaoplbiedaaPlName
namespace Go.Proofs.Ytlgohaoplbiedaa
open Go.RowKit

set_option maxRecDepth 100000 in
set_option maxHeartbeats 2000000 in
theorem dom_loop (s : ByteArray) (w : World) (h1 : 1 ≤ s.size) (h2 : s.size ≤ 254) (hd : (s.toList == [46]) = false) (hc : s.size < 254 ∨ (s.size = 254 ∧ s.data.toList.getLast? = some 46)) :
    Calls Try.prog 54 #[.string s] w fun e w' => e = .returned (.bool (pl.domB s.data.toList)) ∧ w = w' := by
  have hne : s.data.toList ≠ [46] := by
    intro e
    rw [Lib.toList_data, e] at hd
    exact absurd hd (by decide)
  have hdom := Lib.hid (show pl.domB s.data.toList = (match pl.runD s.data.toList with | none => false | some st => if st.1 = 45 ∨ 63 < st.2.2 then false else st.2.1) by
    have hl : s.data.toList.length = s.size := by simp
    have hn : ¬ (s.data.toList.length = 0 ∨ 254 < s.data.toList.length ∨ (s.data.toList.length = 254 ∧ s.data.toList.getLast? ≠ some 46)) := by
      rintro (h | h | ⟨h, h3⟩)
      · omega
      · omega
      · rcases hc with hc | ⟨_, hc⟩
        · omega
        · exact h3 hc
    unfold pl.domB
    rw [if_neg hne, if_neg hn]
    rfl)
  have hz1 : ((s.size : Int) == 0) = false := by rw [beq_eq_false_iff_ne]; omega
  have hz2 : ¬ 254 < (s.size : Int) := by omega
  have HNE := Lib.hid hne
  clear hne
  have hcc : ((s.size : Int) == 254) = false ∨ (((s.size : Int) == 254) = true ∧ ((s[s.size - 1].toNat : Int) != 46) = false) := by
    rcases hc with hc | ⟨h, hc⟩
    · left; rw [beq_eq_false_iff_ne]; omega
    · right
      refine ⟨by rw [beq_iff_eq]; omega, ?_⟩
      rw [pl.last_get s h1] at hc
      injection hc with hc
      rw [hc]; rfl
  clear hc
  rcases hcc with hcc | ⟨hcc, hcd⟩
  all_goals
    go_enter Try.func54, Try.ntmps54
    go_wp2
  all_goals
    go_loop [4, 5, 6, 7] (fun la nn p i => ∃ (k : Nat) (a : Int) (b : Bool) (q : Nat), k ≤ s.size ∧ i = .int .i64 k ∧ la = .int .u8 a ∧ nn = .bool b ∧ p = .int .i64 q ∧ q ≤ k ∧ 0 ≤ a ∧ a < 256 ∧ pl.runD (s.data.toList.take k) = some (a, b, q)) (fun _ _ _ i => s.size - (intOf i).toNat)
    case atStart => exact ⟨0, 46, false, 0, Nat.zero_le _, rfl, rfl, rfl, rfl, Nat.le_refl _, by omega, by omega, rfl⟩
    case round =>
      obtain ⟨k, a, b, q, hk, rfl, rfl, rfl, rfl, hq, ha1, ha2, hr⟩ := hrel
      have HR := Lib.hid hr
      clear hr
      by_cases hlt : k < s.size
      · obtain ⟨x, hx⟩ : ∃ x, s[k] = x := ⟨_, rfl⟩
        have hby := UInt8.toNat_lt x
        rcases pl.stepD_cases x a b q with ⟨hst, _, _⟩ | ⟨hst, _, _⟩ | ⟨hst, _⟩ | ⟨hst, _, _⟩ | ⟨hst, _, _⟩ | ⟨hst, _, _, _, _, _⟩ | ⟨hst, _, _⟩ | ⟨hst, _, _⟩ | ⟨hst, _, _, _⟩ | ⟨hst, _, _, _, _⟩ | ⟨hst, _, _, _, _, _⟩ | ⟨hst, _⟩ | ⟨hst, _⟩ | ⟨hst, _, _, _⟩ | ⟨hst, _, _, _⟩ | ⟨hst, _⟩ | ⟨hst, _, _, _, _⟩
        · go_wp2
          go_round
          case rel => exact ⟨k + 1, x.toNat, true, q + 1, by omega, by go_num, rfl, rfl, by first | rfl | go_num, by omega, by omega, by omega, by rw [pl.runD_succ s k hlt, HR.out, hx]; exact hst.out⟩
          case measure => simp [intOf]; omega
        · go_wp2
          go_round
          case rel => exact ⟨k + 1, x.toNat, true, q + 1, by omega, by go_num, rfl, rfl, by first | rfl | go_num, by omega, by omega, by omega, by rw [pl.runD_succ s k hlt, HR.out, hx]; exact hst.out⟩
          case measure => simp [intOf]; omega
        · go_wp2
          go_round
          case rel => exact ⟨k + 1, 95, true, q + 1, by omega, by go_num, rfl, rfl, by first | rfl | go_num, by omega, by omega, by omega, by rw [pl.runD_succ s k hlt, HR.out, hx]; exact hst.out⟩
          case measure => simp [intOf]; omega
        · go_wp2
          go_round
          case rel => exact ⟨k + 1, x.toNat, b, q + 1, by omega, by go_num, rfl, rfl, by first | rfl | go_num, by omega, by omega, by omega, by rw [pl.runD_succ s k hlt, HR.out, hx]; exact hst.out⟩
          case measure => simp [intOf]; omega
        · go_wp2
          go_round
          case rel => exact ⟨k + 1, 45, true, q + 1, by omega, by go_num, rfl, rfl, by first | rfl | go_num, by omega, by omega, by omega, by rw [pl.runD_succ s k hlt, HR.out, hx]; exact hst.out⟩
          case measure => simp [intOf]; omega
        · go_wp2
          go_round
          case rel => exact ⟨k + 1, 46, b, 0, by omega, by go_num, rfl, rfl, by first | rfl | go_num, by omega, by omega, by omega, by rw [pl.runD_succ s k hlt, HR.out, hx]; exact hst.out⟩
          case measure => simp [intOf]; omega
        · go_wp2
          go_ret
          exact ⟨ret_bool (pl.domB_dead _ HNE.out (pl.runD_dead s k hlt _ HR.out (by rw [hx]; exact hst.out))).symm, rfl⟩
        · go_wp2
          go_ret
          exact ⟨ret_bool (pl.domB_dead _ HNE.out (pl.runD_dead s k hlt _ HR.out (by rw [hx]; exact hst.out))).symm, rfl⟩
        · go_wp2
          go_ret
          exact ⟨ret_bool (pl.domB_dead _ HNE.out (pl.runD_dead s k hlt _ HR.out (by rw [hx]; exact hst.out))).symm, rfl⟩
        · go_wp2
          go_ret
          exact ⟨ret_bool (pl.domB_dead _ HNE.out (pl.runD_dead s k hlt _ HR.out (by rw [hx]; exact hst.out))).symm, rfl⟩
        · go_wp2
          go_ret
          exact ⟨ret_bool (pl.domB_dead _ HNE.out (pl.runD_dead s k hlt _ HR.out (by rw [hx]; exact hst.out))).symm, rfl⟩
        · go_wp2
          go_ret
          exact ⟨ret_bool (pl.domB_dead _ HNE.out (pl.runD_dead s k hlt _ HR.out (by rw [hx]; exact hst.out))).symm, rfl⟩
        · go_wp2
          go_ret
          exact ⟨ret_bool (pl.domB_dead _ HNE.out (pl.runD_dead s k hlt _ HR.out (by rw [hx]; exact hst.out))).symm, rfl⟩
        · go_wp2
          go_ret
          exact ⟨ret_bool (pl.domB_dead _ HNE.out (pl.runD_dead s k hlt _ HR.out (by rw [hx]; exact hst.out))).symm, rfl⟩
        · go_wp2
          go_ret
          exact ⟨ret_bool (pl.domB_dead _ HNE.out (pl.runD_dead s k hlt _ HR.out (by rw [hx]; exact hst.out))).symm, rfl⟩
        · go_wp2
          go_ret
          exact ⟨ret_bool (pl.domB_dead _ HNE.out (pl.runD_dead s k hlt _ HR.out (by rw [hx]; exact hst.out))).symm, rfl⟩
        · go_wp2
          go_ret
          exact ⟨ret_bool (pl.domB_dead _ HNE.out (pl.runD_dead s k hlt _ HR.out (by rw [hx]; exact hst.out))).symm, rfl⟩
      · have ek := pl.take_all s k (by omega)
        rw [ek] at HR
        have hd2 := hdom.out
        rw [HR.out] at hd2
        have HD := Lib.hid hd2
        clear hdom ek hd2
        rcases h : ((a == 45) : Bool) with _ | _
        all_goals rcases (show 63 < q ∨ q ≤ 63 by omega) with g | g
        all_goals have H := Lib.hid h
        all_goals go_wp2
        all_goals go_ret
        all_goals have h3 := H.out
        all_goals simp only [beq_iff_eq, beq_eq_false_iff_ne] at h3
        all_goals first | exact ⟨ret_bool (HD.out.trans (pl.fin_no a b q (by omega))).symm, rfl⟩ | exact ⟨ret_bool (HD.out.trans (pl.fin_yes a b q (by omega))).symm, rfl⟩

set_option maxRecDepth 100000 in
set_option maxHeartbeats 1000000 in
theorem dom_any (s : ByteArray) (w : World) (hs : s.size ≤ 17592186044416) :
    Calls Try.prog 54 #[.string s] w fun e w' => e = .returned (.bool (pl.domB s.data.toList)) ∧ w = w' := by
  have hl : s.data.toList.length = s.size := by simp
  rcases hd : (s.toList == [46]) with _ | _
  · have hne : s.data.toList ≠ [46] := by
      intro e
      rw [Lib.toList_data, e] at hd
      exact absurd hd (by decide)
    by_cases h0 : s.size = 0
    · have hE := Lib.hid (show pl.domB s.data.toList = false by
        unfold pl.domB
        rw [if_neg hne, if_pos (Or.inl (by omega))])
      have hz : ((s.size : Int) == 0) = true := by rw [beq_iff_eq]; omega
      clear hne h0
      go_enter Try.func54, Try.ntmps54
      go_wp2
      go_ret
      exact ⟨ret_bool (by rw [← hE.out]), rfl⟩
    by_cases h1 : 254 < s.size
    · have hE := Lib.hid (show pl.domB s.data.toList = false by
        unfold pl.domB
        rw [if_neg hne, if_pos (Or.inr (Or.inl (by omega)))])
      have hz : ((s.size : Int) == 0) = false := by rw [beq_eq_false_iff_ne]; omega
      clear hne h0
      go_enter Try.func54, Try.ntmps54
      go_wp2
      all_goals go_ret
      all_goals exact ⟨ret_bool hE.out.symm, rfl⟩
    by_cases h2 : s.size < 254 ∨ (s.size = 254 ∧ s.data.toList.getLast? = some 46)
    · exact dom_loop s w (by omega) (by omega) hd h2
    · have h3 : s.size = 254 := by omega
      have h4 : s.data.toList.getLast? ≠ some 46 := fun e => h2 (Or.inr ⟨h3, e⟩)
      have hE := Lib.hid (show pl.domB s.data.toList = false by
        unfold pl.domB
        rw [if_neg hne, if_pos (Or.inr (Or.inr ⟨by omega, h4⟩))])
      have hz4 : 1 ≤ s.size := by omega
      have h5 := pl.last_ne s hz4 h4
      have hz : ((s.size : Int) == 0) = false := by rw [beq_eq_false_iff_ne]; omega
      have hz2 : ((s.size : Int) == 254) = true := by rw [beq_iff_eq]; omega
      have hz3 : ¬ 254 < (s.size : Int) := by omega
      clear hne h0 h1 h2 h4 h3
      go_enter Try.func54, Try.ntmps54
      go_wp2
      all_goals go_ret
      all_goals exact ⟨ret_bool hE.out.symm, rfl⟩
  · have he : s.data.toList = [46] := by
      have := beq_iff_eq.1 hd
      rwa [Lib.toList_data] at this
    have hE := Lib.hid (show pl.domB s.data.toList = true by
      unfold pl.domB
      rw [if_pos he])
    clear he
    go_enter Try.func54, Try.ntmps54
    go_wp2
    go_ret
    exact ⟨ret_bool hE.out.symm, rfl⟩

end Go.Proofs.Ytlgohaoplbiedaa
