/-
  WALKS: the statements' same; the law FnFields.
-/
import Derived.Test.YtlgohaoplbiedaaWords
import Derived.Test.YtlgohaoplbiedaaFields
namespace Go.Proofs.Ytlgohaoplbiedaa
open Go.RowKit

set_option maxHeartbeats 1000000 in
theorem same_any (va vb : Value) (la lb : List (List UInt8)) (B1 B2 : Nat) (w : World) (ha : Strs w B1 va la) (hb : Strs w B2 vb lb) (h1 : la.length ≤ 8796093022208) (h2 : lb.length ≤ 8796093022208) :
    Calls Try.prog 30 #[va, vb] w fun e w' => e = .returned (.bool (decide (la = lb))) ∧ ∃ n, w' = w.drewN n := by
  obtain ⟨a, ca, rfl, hca⟩ := ha.form
  obtain ⟨b, cb, rfl, hcb⟩ := hb.form
  by_cases hne : la.length = lb.length
  · have hb1 : ((la.length : Int) != (lb.length : Int)) = false := by rw [bne_eq_false_iff_eq]; omega
    have HNE := Lib.hid hne
    have h2' : lb.length ≤ 8796093022208 := h2
    clear hne
    have HA := Lib.hid hca
    have HB := Lib.hid hcb
    clear hca hcb ha hb
    go_enter Try.func30, Try.ntmps30
    go_wp2_with fail
    go_loopw [13] (fun i wr => ∃ k n : Nat, k ≤ la.length ∧ i = .int .i64 k ∧ wr = w.drewN n ∧ Hid (la.take k = lb.take k)) (fun i _ => la.length - (intOf i).toNat)
    case atStart => exact ⟨0, 0, Nat.zero_le _, rfl, rfl, Lib.hid rfl⟩
    case round =>
      obtain ⟨k, n, hk, rfl, rfl, HT⟩ := hrel
      by_cases hlt : k < la.length
      · have hlt2 : k < lb.length := by rw [← HNE.out]; exact hlt
        obtain ⟨L, hL⟩ : ∃ L : ByteArray, L.data.toList = la[k] := ⟨⟨la[k].toArray⟩, rfl⟩
        obtain ⟨M, hM⟩ : ∃ M : ByteArray, M.data.toList = lb[k] := ⟨⟨lb[k].toArray⟩, rfl⟩
        have hLk : la[k]? = some L.data.toList := by rw [hL]; exact List.getElem?_eq_getElem hlt
        have hMk : lb[k]? = some M.data.toList := by rw [hM]; exact List.getElem?_eq_getElem hlt2
        obtain ⟨g1, rfl, hg1, _, hc1⟩ := HA.out k _ hLk
        obtain ⟨g2, rfl, hg2, _, hc2⟩ := HB.out k _ hMk
        rw [pl.strV_of] at hc1 hc2
        have HLk := Lib.hid hLk
        have HMk := Lib.hid hMk
        have hi1 : (0 : Int) ≤ (k : Int) ∧ (k : Int) < (la.length : Int) := by omega
        have hi2 : (0 : Int) ≤ (k : Int) ∧ (k : Int) < (lb.length : Int) := by omega
        clear hL hM hLk hMk
        go_wp2_with fail
        go_quiet (fail)
        go_wp2
        · have h : (!L.toList == M.toList) = true := by assumption
          have hd : la ≠ lb := by
            intro e
            rw [e] at HLk
            have h3 := HLk.out.symm.trans HMk.out
            injection h3 with h3
            rw [Lib.toList_data, Lib.toList_data, h3] at h
            simp at h
          go_ret
          exact ⟨ret_bool (decide_eq_false hd).symm, _, World.drewN_drewN ..⟩
        · have h : (!L.toList == M.toList) = false := by assumption
          have hd : L.data.toList = M.data.toList := by
            rw [Lib.toList_data, Lib.toList_data] at h
            simpa using h
          go_roundw
          case rel => exact ⟨k + 1, _, by omega, by go_num, rfl, Lib.hid (by rw [pl.take_snoc_of la k _ HLk.out, pl.take_snoc_of lb k _ HMk.out, HT.out, hd])⟩
          case measure => simp [intOf]; omega
      · have hd : la = lb := by
          have := HT.out
          rwa [List.take_of_length_le (by omega), List.take_of_length_le (by rw [← HNE.out]; omega)] at this
        have HD := Lib.hid hd
        clear hd
        go_wp2_with fail
        go_ret
        exact ⟨ret_bool (decide_eq_true HD.out).symm, _, rfl⟩
  · have hb1 : ((la.length : Int) != (lb.length : Int)) = true := by rw [bne_iff_ne]; omega
    have hd : la ≠ lb := fun e => hne (by rw [e])
    have HD := Lib.hid hd
    clear hne hd hca hcb ha hb
    go_enter Try.func30, Try.ntmps30
    go_wp2_with fail
    go_ret
    exact ⟨ret_bool (decide_eq_false HD.out).symm, 0, rfl⟩

theorem fields_impl (s : ByteArray) (w : World) (hs : s.size ≤ 4398046511104) :
    Calls Try.prog 31 #[.string s] w fun e w' => ∃ v, e = .returned v ∧ Strs w' w.heap.size v (pl.words pl.ws s.data.toList) ∧ Below w.heap.size w w' := by
  go_enter Try.func31, Try.ntmps31
  go_wp2_with (first | (go_at_call 61; refine (fields_any _ _ hs).mono ?_; rintro e w' ⟨v, rfl, hS, hb⟩) | (go_at_call 48; go_in))
  go_ret
  exact ⟨_, rfl, hS, hb⟩

set_option maxHeartbeats 1000000 in
theorem walk_FnFields (a0 : ByteArray) (w : World) (_ : a0.size ≤ maxLen) :
    Calls Try.prog 12 #[.string a0] w fun e w' => e = .returned (.bool true) ∧ Below w.heap.size w w' := by
  by_cases hbig : a0.size ≤ 2147483647
  · have hwl := pl.words_len pl.ws a0.data.toList
    have hl : a0.data.toList.length = a0.size := by simp
    have hdd : decide (pl.words pl.ws a0.data.toList = pl.words pl.ws a0.data.toList) = true := decide_eq_true rfl
    go_enter Try.func12, Try.ntmps12
    go_wp2_with fail
    refine (fields_impl a0 w (by omega)).mono ?_
    rintro e w1 ⟨v1, rfl, hS1, hb1⟩
    go_wp2_with fail
    refine (words_sp a0 w1 (by omega)).mono ?_
    rintro e w2 ⟨v2, rfl, hS2, hb2⟩
    have hS3 := hS1.below hb2
    go_wp2_with fail
    refine (same_any v1 v2 _ _ _ _ w2 hS3 hS2 (by omega) (by omega)).mono ?_
    rintro e w3 ⟨rfl, n, rfl⟩
    go_wp2_with (go_at_call 23; refine (works_any _).mono ?_; rintro e w4 ⟨rfl, hb4⟩)
    go_ret
    have h5 := hb1.trans (hb2.mono hb1.size)
    exact ⟨rfl, h5.trans ((bel_d hb4).mono h5.size)⟩
  · go_enter Try.func12, Try.ntmps12
    go_wp2_with fail
    go_ret
    exact ⟨rfl, Below.refl _ _⟩

end Go.Proofs.Ytlgohaoplbiedaa
