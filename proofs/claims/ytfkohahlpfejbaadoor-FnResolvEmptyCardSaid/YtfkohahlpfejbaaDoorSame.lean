/-
  WALKS: the statements' same; the law FnFields.
-/
import Derived.Test.YtfkohahlpfejbaaDoorWords
import Derived.Test.YtfkohahlpfejbaaDoorFields
namespace Go.Proofs.YtfkohahlpfejbaaDoor
open Go.RowKit

set_option maxHeartbeats 1000000 in
theorem same_any (va vb : Value) (la lb : List (List UInt8)) (B1 B2 : Nat) (w : World) (ha : Strs w B1 va la) (hb : Strs w B2 vb lb) (h1 : la.length ≤ 8796093022208) (h2 : lb.length ≤ 8796093022208) :
    Calls Tryd.prog 17 #[va, vb] w fun e w' => e = .returned (.bool (decide (la = lb))) ∧ ∃ n, w' = w.drewN n := by
  obtain ⟨a, ca, rfl, hca⟩ := ha.form
  obtain ⟨b, cb, rfl, hcb⟩ := hb.form
  by_cases hne : la.length = lb.length
  · have hb1 : ((la.length : Int) != (lb.length : Int)) = false := by rw [bne_eq_false_iff_eq]; omega
    have HNE := Lib.hid hne
    have h2' : lb.length ≤ 8796093022208 := h2
    clear hne
    have HA := Lib.hid hca
    have HB := Lib.hid hcb
    clear hca hcb ha hb
    go_enter Tryd.func17, Tryd.ntmps17
    go_wp2_with fail
    go_loopw [13] (fun i wr => ∃ k n : Nat, k ≤ la.length ∧ i = .int .i64 k ∧ wr = w.drewN n ∧ Hid (la.take k = lb.take k)) (fun i _ => la.length - (intOf i).toNat)
    case atStart => exact ⟨0, 0, Nat.zero_le _, rfl, rfl, Lib.hid rfl⟩
    case round =>
      obtain ⟨k, n, hk, rfl, rfl, HT⟩ := hrel
      by_cases hlt : k < la.length
      · have hlt2 : k < lb.length := by rw [← HNE.out]; exact hlt
        obtain ⟨L, hL⟩ : ∃ L : ByteArray, L.data.toList = la[k] := ⟨⟨la[k].toArray⟩, rfl⟩
        obtain ⟨M, hM⟩ : ∃ M : ByteArray, M.data.toList = lb[k] := ⟨⟨lb[k].toArray⟩, rfl⟩
        have hLk : la[k]? = some L.data.toList := by rw [hL]; exact List.getElem?_eq_getElem hlt
        have hMk : lb[k]? = some M.data.toList := by rw [hM]; exact List.getElem?_eq_getElem hlt2
        obtain ⟨g1, rfl, hg1, _, hc1⟩ := HA.out k _ hLk
        obtain ⟨g2, rfl, hg2, _, hc2⟩ := HB.out k _ hMk
        rw [pl.strV_of] at hc1 hc2
        have HLk := Lib.hid hLk
        have HMk := Lib.hid hMk
        have hi1 : (0 : Int) ≤ (k : Int) ∧ (k : Int) < (la.length : Int) := by omega
        have hi2 : (0 : Int) ≤ (k : Int) ∧ (k : Int) < (lb.length : Int) := by omega
        clear hL hM hLk hMk
        go_wp2_with fail
        go_quiet (fail)
        go_wp2
        · have h : (!L.toList == M.toList) = true := by assumption
          have hd : la ≠ lb := by
            intro e
            rw [e] at HLk
            have h3 := HLk.out.symm.trans HMk.out
            injection h3 with h3
            rw [Lib.toList_data, Lib.toList_data, h3] at h
            simp at h
          go_ret
          exact ⟨ret_bool (decide_eq_false hd).symm, _, World.drewN_drewN ..⟩
        · have h : (!L.toList == M.toList) = false := by assumption
          have hd : L.data.toList = M.data.toList := by
            rw [Lib.toList_data, Lib.toList_data] at h
            simpa using h
          go_roundw
          case rel => exact ⟨k + 1, _, by omega, by go_num, rfl, Lib.hid (by rw [pl.take_snoc_of la k _ HLk.out, pl.take_snoc_of lb k _ HMk.out, HT.out, hd])⟩
          case measure => simp [intOf]; omega
      · have hd : la = lb := by
          have := HT.out
          rwa [List.take_of_length_le (by omega), List.take_of_length_le (by rw [← HNE.out]; omega)] at this
        have HD := Lib.hid hd
        clear hd
        go_wp2_with fail
        go_ret
        exact ⟨ret_bool (decide_eq_true HD.out).symm, _, rfl⟩
  · have hb1 : ((la.length : Int) != (lb.length : Int)) = true := by rw [bne_iff_ne]; omega
    have hd : la ≠ lb := fun e => hne (by rw [e])
    have HD := Lib.hid hd
    clear hne hd hca hcb ha hb
    go_enter Tryd.func17, Tryd.ntmps17
    go_wp2_with fail
    go_ret
    exact ⟨ret_bool (decide_eq_false HD.out).symm, 0, rfl⟩

end Go.Proofs.YtfkohahlpfejbaaDoor
