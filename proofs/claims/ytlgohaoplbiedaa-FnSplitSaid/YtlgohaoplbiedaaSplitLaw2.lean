/-
  WALKS: HostPort as one contract; the laws FnSplit, FnSplitJoined.
-/
import Derived.Test.YtlgohaoplbiedaaSplitLaws
namespace Go.Proofs.Ytlgohaoplbiedaa
open Go.RowKit

theorem hp_sp (s : ByteArray) (w : World) (hs : s.size ≤ 17592186044416) :
    Calls Try.prog 21 #[.string s] w fun e w' => e = .returned (.tuple #[.string ⟨(pl.hostPort s.data.toList).1.toArray⟩, .string ⟨(pl.hostPort s.data.toList).2.1.toArray⟩, .bool (pl.hostPort s.data.toList).2.2]) ∧ ∃ n, w' = w.drewN n := by
  have hl : s.data.toList.length = s.size := by simp
  by_cases h91 : s.data.toList.head? = some 91
  · have hpos : 0 < s.size := by
      cases hc : s.data.toList with
      | nil => rw [hc] at h91; simp at h91
      | cons a b => rw [hc] at hl; simp at hl; omega
    have h1 := pl.ne_empty s (by omega)
    have h2 : ((s[0].toNat : Int) == 91) = true := by
      rw [pl.head_get s (by omega)] at h91
      injection h91 with h91
      rw [h91]; rfl
    have hex : (s.extract 1 s.size).data.toList = s.data.toList.drop 1 := by rw [pl.ext_drop]
    obtain ⟨c, hc⟩ : ∃ c, pl.cutS (s.data.toList.drop 1) 93 = c := ⟨_, rfl⟩
    have hsz := pl.cutS_size (s.data.toList.drop 1) 93
    rw [hc] at hsz
    have hdl : (s.data.toList.drop 1).length ≤ s.size := by rw [List.length_drop]; omega
    have HC : Hid (pl.cutS (s.extract 1 s.size).data.toList 93 = ((⟨c.1.toArray⟩ : ByteArray).data.toList, (⟨c.2.1.toArray⟩ : ByteArray).data.toList, c.2.2)) := by rw [hex, hc]; rfl
    have hA : (⟨c.1.toArray⟩ : ByteArray).size ≤ 17592186044416 := by rw [pl.size_mk]; omega
    have hB : (⟨c.2.1.toArray⟩ : ByteArray).size ≤ 17592186044416 := by rw [pl.size_mk]; omega
    have hext : ((⟨c.2.1.toArray⟩ : ByteArray).extract 1 (⟨c.2.1.toArray⟩ : ByteArray).size).data.toList = c.2.1.drop 1 := by rw [pl.ext_drop]
    unfold pl.hostPort
    rw [if_pos h91, hc]
    by_cases k1 : c.2.2 = false
    · rw [if_pos k1]
      exact hps_br s ⟨c.1.toArray⟩ ⟨c.2.1.toArray⟩ _ _ _ w hs hA hB hpos h1 h2 HC (Lib.hid rfl) (Lib.hid rfl) (Or.inl k1)
    · have k1' : c.2.2 = true := by simpa using k1
      rw [if_neg k1]
      by_cases k2 : c.2.1 = []
      · rw [if_pos k2]
        refine hps_br s ⟨c.1.toArray⟩ ⟨c.2.1.toArray⟩ _ _ _ w hs hA hB hpos h1 h2 HC (Lib.hid rfl) (Lib.hid rfl) (Or.inr (Or.inl ⟨k1', ?_⟩))
        rw [Lib.toList_data, k2]; rfl
      · rw [if_neg k2]
        have k2' : (⟨c.2.1.toArray⟩ : ByteArray).toList.isEmpty = false := pl.ne_empty _ (by rw [pl.size_mk]; have := List.length_pos_iff.2 k2; omega)
        have k2p : 0 < (⟨c.2.1.toArray⟩ : ByteArray).size := by rw [pl.size_mk]; exact List.length_pos_iff.2 k2
        have hhd : c.2.1.head? = some ((⟨c.2.1.toArray⟩ : ByteArray)[0]) := pl.head_get ⟨c.2.1.toArray⟩ (by omega)
        by_cases k3 : c.2.1.head? ≠ some 58
        · rw [if_pos k3]
          refine hps_br s ⟨c.1.toArray⟩ ⟨c.2.1.toArray⟩ _ _ _ w hs hA hB hpos h1 h2 HC (Lib.hid rfl) (Lib.hid rfl) (Or.inr (Or.inr (Or.inl ⟨k1', k2', k2p, ?_⟩)))
          rw [bne_iff_ne]
          intro e
          apply k3
          rw [hhd]
          congr 1
          apply UInt8.toNat_inj.1
          have : (58 : UInt8).toNat = 58 := rfl
          omega
        · have k3' : ((((⟨c.2.1.toArray⟩ : ByteArray)[0]).toNat : Int) != 58) = false := by
            have k4 : c.2.1.head? = some 58 := by
              cases hcc : c.2.1.head? with
              | none => rw [hcc] at hhd; cases hhd
              | some z => rw [hcc] at k3; simpa using k3
            rw [hhd] at k4
            injection k4 with k4
            rw [k4]; rfl
          rw [if_neg k3]
          by_cases k5 : pl.has c.1 [91] = true
          · rw [if_pos k5]
            exact hps_br s ⟨c.1.toArray⟩ ⟨c.2.1.toArray⟩ _ _ _ w hs hA hB hpos h1 h2 HC (Lib.hid rfl) (Lib.hid rfl) (Or.inr (Or.inr (Or.inr ⟨k1', k2', ⟨k2p, k3'⟩, Or.inl k5⟩)))
          · rw [if_neg k5]
            have k5' : pl.has c.1 [91] = false := by simpa using k5
            by_cases k6 : pl.has (c.2.1.drop 1) [58, 91, 93] = true
            · rw [if_pos k6]
              exact hps_br s ⟨c.1.toArray⟩ ⟨c.2.1.toArray⟩ _ _ _ w hs hA hB hpos h1 h2 HC (Lib.hid rfl) (Lib.hid rfl) (Or.inr (Or.inr (Or.inr ⟨k1', k2', ⟨k2p, k3'⟩, Or.inr ⟨k5', by rw [hext]; exact k6⟩⟩)))
            · rw [if_neg k6]
              have k6' : pl.has (c.2.1.drop 1) [58, 91, 93] = false := by simpa using k6
              rw [k1'] at HC
              refine (hps_ok s ⟨c.1.toArray⟩ ⟨c.2.1.toArray⟩ w hs hA hB hpos h1 h2 HC (Lib.hid k5') (Lib.hid (by rw [hext]; exact k6')) k2' k2p k3').mono fun e w' ⟨he, hw⟩ => ⟨?_, hw⟩
              rw [he, pl.ext_drop]
  · obtain ⟨c, hc⟩ : ∃ c, pl.cutS s.data.toList 58 = c := ⟨_, rfl⟩
    have hsz := pl.cutS_size s.data.toList 58
    rw [hc] at hsz
    have HC : Hid (pl.cutS s.data.toList 58 = ((⟨c.1.toArray⟩ : ByteArray).data.toList, (⟨c.2.1.toArray⟩ : ByteArray).data.toList, c.2.2)) := by rw [hc]; rfl
    have hA : (⟨c.1.toArray⟩ : ByteArray).size ≤ 17592186044416 := by rw [pl.size_mk]; omega
    have hB : (⟨c.2.1.toArray⟩ : ByteArray).size ≤ 17592186044416 := by rw [pl.size_mk]; omega
    unfold pl.hostPort
    rw [if_neg h91, hc]
    refine hps_plain s ⟨c.1.toArray⟩ ⟨c.2.1.toArray⟩ _ _ _ w hs hA hB ?_ HC (Lib.hid rfl) (Lib.hid rfl)
    by_cases h0 : s.size = 0
    · left
      rw [Lib.toList_data, List.eq_nil_of_length_eq_zero (by omega : s.data.toList.length = 0)]; rfl
    · right
      refine ⟨by omega, pl.ne_empty s h0, ?_⟩
      rw [beq_eq_false_iff_ne]
      intro e
      apply h91
      rw [pl.head_get s (by omega)]
      congr 1
      apply UInt8.toNat_inj.1
      have : (91 : UInt8).toNat = 91 := rfl
      omega

set_option maxHeartbeats 1000000 in
theorem walk_FnSplit (a0 : ByteArray) (w : World) (_ : a0.size ≤ maxLen) :
    Calls Try.prog 6 #[.string a0] w fun e w' => e = .returned (.bool true) ∧ Below w.heap.size w w' := by
  by_cases hbig : a0.size ≤ 2147483647
  · have key : ((resHP a0.data.toList).2.2 = false ∧ (pl.hostPort a0.data.toList).2.2 = false) ∨ (∃ x y, resHP a0.data.toList = (x, y, true) ∧ pl.hostPort a0.data.toList = (x, y, true)) := by
      rcases pl.split_law a0.data.toList with ⟨h1, h2⟩ | ⟨x, h1, h2⟩
      · left; refine ⟨?_, h2⟩; unfold resHP; rw [h1]
      · right; refine ⟨x.1, x.2, ?_, h2⟩; unfold resHP; rw [h1]
    rcases key with ⟨h1, h2⟩ | ⟨x, y, h1, h2⟩
    all_goals
      go_enter Try.func6, Try.ntmps6
      go_wp2_with (first | (go_at_call 21; refine (hp_sp _ _ (by omega)).mono ?_; rintro e w' ⟨rfl, n, rfl⟩) | (go_at_call 22; refine (shp_impl _ _ (by omega)).mono ?_; rintro e w1 ⟨rfl, hb1⟩) | (go_at_call 23; refine (works_any _).mono ?_; rintro e w2 ⟨rfl, hb2⟩))
    all_goals go_ret
    all_goals exact ⟨rfl, (bel_d hb1).trans (hb2.mono (bel_d hb1).size)⟩
  · go_enter Try.func6, Try.ntmps6
    go_wp2_with fail
    go_ret
    exact ⟨rfl, Below.refl _ _⟩

set_option maxHeartbeats 1000000 in
theorem walk_FnSplitJoined (a0 a1 : ByteArray) (w : World) (_ : a0.size ≤ maxLen) (_ : a1.size ≤ maxLen) :
    Calls Try.prog 7 #[.string a0, .string a1] w fun e w' => e = .returned (.bool true) ∧ Below w.heap.size w w' := by
  by_cases hbig : a0.size ≤ 2147483647 ∧ a1.size ≤ 2147483647
  · obtain ⟨hb0, hb1⟩ := hbig
    rcases hx : pl.has a0.data.toList [91, 93] with _ | _
    · rcases hy : pl.has a1.data.toList [58, 91, 93] with _ | _
      · have hj : resHP (pl.joined a0.data.toList a1.data.toList) = (a0.data.toList, a1.data.toList, true) := by
          unfold resHP; rw [pl.join_law _ _ hx hy]
        have hjs : (⟨(pl.joined a0.data.toList a1.data.toList).toArray⟩ : ByteArray).size ≤ 17592186044416 := by
          have := pl.joined_len a0.data.toList a1.data.toList
          have l0 : a0.data.toList.length = a0.size := by simp
          have l1 : a1.data.toList.length = a1.size := by simp
          rw [pl.size_mk]; omega
        have HX := Lib.hid hx
        have HY := Lib.hid hy
        clear hx hy
        go_enter Try.func7, Try.ntmps7
        go_wp2_with (first | (go_at_call 24; ((with_reducible refine (has_val _ _ _ _ (by omega) (by simp [ByteArray.size]) HX.out).mono ?_); rintro e w' ⟨rfl, n, rfl⟩)) | (go_at_call 24; ((with_reducible refine (has_val _ _ _ _ (by omega) (by simp [ByteArray.size]) HY.out).mono ?_); rintro e w' ⟨rfl, n, rfl⟩)) | (go_at_call 17; refine (joinHP_impl _ _ _ (by omega) (by omega)).mono ?_; rintro e w' ⟨rfl, rfl⟩) | (go_at_call 22; refine (shp_impl _ _ hjs).mono ?_; rintro e w1 ⟨rfl, hb1⟩))
        go_ret
        exact ⟨rfl, bel_d hb1⟩
      · have HX := Lib.hid hx
        have HY := Lib.hid hy
        clear hx hy
        go_enter Try.func7, Try.ntmps7
        go_wp2_with (first | (go_at_call 24; ((with_reducible refine (has_val _ _ _ _ (by omega) (by simp [ByteArray.size]) HX.out).mono ?_); rintro e w' ⟨rfl, n, rfl⟩)) | (go_at_call 24; ((with_reducible refine (has_val _ _ _ _ (by omega) (by simp [ByteArray.size]) HY.out).mono ?_); rintro e w' ⟨rfl, n, rfl⟩)) | (go_at_call 23; refine (works_any _).mono ?_; rintro e w2 ⟨rfl, hb2⟩))
        go_ret
        exact ⟨rfl, bel_d hb2⟩
    · have HX := Lib.hid hx
      clear hx
      go_enter Try.func7, Try.ntmps7
      go_wp2_with (first | (go_at_call 24; ((with_reducible refine (has_val _ _ _ _ (by omega) (by simp [ByteArray.size]) HX.out).mono ?_); rintro e w' ⟨rfl, n, rfl⟩)) | (go_at_call 23; refine (works_any _).mono ?_; rintro e w2 ⟨rfl, hb2⟩))
      go_ret
      exact ⟨rfl, bel_d hb2⟩
  · go_enter Try.func7, Try.ntmps7
    go_wp2_with fail
    all_goals go_ret
    all_goals exact ⟨rfl, Below.refl _ _⟩

end Go.Proofs.Ytlgohaoplbiedaa
