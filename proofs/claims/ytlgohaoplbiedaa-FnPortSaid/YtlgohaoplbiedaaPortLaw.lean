/-
  WALK: the law FnPort.
-/
import Derived.Test.YtlgohaoplbiedaaPort
namespace Go.Proofs.Ytlgohaoplbiedaa
open Go.RowKit

set_option maxRecDepth 100000 in
set_option maxHeartbeats 2000000 in
/-- where the digits are to be looked at -/
theorem fnPort_main (s D : ByteArray) (w : World) (hs1 : 1 ≤ s.size) (hs9 : s.size ≤ 9) (hD1 : 1 ≤ D.size)
    (hc : (((s[0].toNat : Int) == 45) = true ∧ s.extract 1 s.size = D) ∨ (((s[0].toNat : Int) == 45) = false ∧ ((s[0].toNat : Int) == 43) = true ∧ s.extract 1 s.size = D) ∨
      (((s[0].toNat : Int) == 45) = false ∧ ((s[0].toNat : Int) == 43) = false ∧ D = s)) :
    Calls Try.prog 13 #[.string s] w fun e w' => e = .returned (.bool true) ∧ Below w.heap.size w w' := by
  have hD9 : D.size ≤ 9 := by
    rcases hc with ⟨_, h⟩ | ⟨_, _, h⟩ | ⟨_, _, h⟩
    · have := congrArg ByteArray.size h; simp at this; omega
    · have := congrArg ByteArray.size h; simp at this; omega
    · rw [h]; omega
  have hne := pl.ne_empty s (by omega)
  have hnd := pl.ne_empty D (by omega)
  have hpos : 0 < s.size := by omega
  have hdb : ∀ v, pl.decimal D.data.toList = some v → v ≤ 999999999 := fun v h => pl.decimal_bound _ v h
  have HDB := Lib.hid hdb
  clear hdb
  rcases hc with ⟨h1, hDe⟩ | ⟨h1, h2, hDe⟩ | ⟨h1, h2, rfl⟩
  · have h3 : ((s[0].toNat : Int) == 43) = false := by rw [beq_eq_false_iff_ne]; have := beq_iff_eq.1 h1; omega
    have HP := fun w v b hv => port_impl s D true w hs1 hD1 hD9 (Or.inr (Or.inl ⟨rfl, h3, h1, hDe⟩)) v b hv
    have HPP := Lib.hid HP
    clear HP
    go_enter Try.func13, Try.ntmps13
    go_wp2_with fail
    go_quiet (fail)
    go_wp2_with fail
    refine (dec_sp D _ (by omega)).mono ?_
    rintro e w' ⟨⟨v, hv, rfl⟩ | ⟨hn, n, rfl⟩, rfl⟩
    · have hvb := HDB.out v hv
      have HV := Lib.hid hv
      obtain ⟨V, hV⟩ : ∃ V : Int, (v : Int) = V := ⟨_, rfl⟩
      have hV0 : 0 ≤ V := by omega
      have hV1 : V ≤ 999999999 := by omega
      rw [hV]
      have HVV := Lib.hid hV
      clear hv hV hvb
      go_wp2_with (first | (go_at_call 33; refine (Calls.mono (HPP.out _ (-V) false (Or.inl ⟨v, HV.out, by rw [HVV.out]; rfl, rfl⟩))) ?_; rintro e w1 ⟨rfl, hb1⟩) | (go_at_call 23; refine (works_any _).mono ?_; rintro e w2 ⟨rfl, hb2⟩))
      go_ret
      exact ⟨rfl, (bel_d hb1).trans (hb2.mono (bel_d hb1).size)⟩
    · have HN := Lib.hid hn
      clear hn
      go_wp2_with (first | (go_at_call 33; refine (Calls.mono (HPP.out _ 0 true (Or.inr ⟨HN.out, rfl, rfl⟩))) ?_; rintro e w1 ⟨rfl, hb1⟩) | (go_at_call 23; refine (works_any _).mono ?_; rintro e w2 ⟨rfl, hb2⟩))
      go_ret
      exact ⟨rfl, (bel_d hb1).trans (hb2.mono (bel_d hb1).size)⟩
  · have h3 := h1
    have HP := fun w v b hv => port_impl s D false w hs1 hD1 hD9 (Or.inl ⟨rfl, h2, hDe⟩) v b hv
    have HPP := Lib.hid HP
    clear HP
    go_enter Try.func13, Try.ntmps13
    go_wp2_with fail
    go_quiet (fail)
    go_wp2_with fail
    refine (dec_sp D _ (by omega)).mono ?_
    rintro e w' ⟨⟨v, hv, rfl⟩ | ⟨hn, n, rfl⟩, rfl⟩
    · have hvb := HDB.out v hv
      have HV := Lib.hid hv
      obtain ⟨V, hV⟩ : ∃ V : Int, (v : Int) = V := ⟨_, rfl⟩
      have hV0 : 0 ≤ V := by omega
      have hV1 : V ≤ 999999999 := by omega
      rw [hV]
      have HVV := Lib.hid hV
      clear hv hV hvb
      go_wp2_with (first | (go_at_call 33; refine (Calls.mono (HPP.out _ (V) false (Or.inl ⟨v, HV.out, by rw [HVV.out]; rfl, rfl⟩))) ?_; rintro e w1 ⟨rfl, hb1⟩) | (go_at_call 23; refine (works_any _).mono ?_; rintro e w2 ⟨rfl, hb2⟩))
      go_ret
      exact ⟨rfl, (bel_d hb1).trans (hb2.mono (bel_d hb1).size)⟩
    · have HN := Lib.hid hn
      clear hn
      go_wp2_with (first | (go_at_call 33; refine (Calls.mono (HPP.out _ 0 true (Or.inr ⟨HN.out, rfl, rfl⟩))) ?_; rintro e w1 ⟨rfl, hb1⟩) | (go_at_call 23; refine (works_any _).mono ?_; rintro e w2 ⟨rfl, hb2⟩))
      go_ret
      exact ⟨rfl, (bel_d hb1).trans (hb2.mono (bel_d hb1).size)⟩
  · have h3 := h1
    have HP := fun w v b hv => port_impl D D false w hs1 hs1 hD9 (Or.inr (Or.inr ⟨rfl, h2, h1, rfl⟩)) v b hv
    have HPP := Lib.hid HP
    clear HP
    go_enter Try.func13, Try.ntmps13
    go_wp2_with fail
    refine (dec_sp D _ (by omega)).mono ?_
    rintro e w' ⟨⟨v, hv, rfl⟩ | ⟨hn, n, rfl⟩, rfl⟩
    · have hvb := HDB.out v hv
      have HV := Lib.hid hv
      obtain ⟨V, hV⟩ : ∃ V : Int, (v : Int) = V := ⟨_, rfl⟩
      have hV0 : 0 ≤ V := by omega
      have hV1 : V ≤ 999999999 := by omega
      rw [hV]
      have HVV := Lib.hid hV
      clear hv hV hvb
      go_wp2_with (first | (go_at_call 33; refine (Calls.mono (HPP.out _ (V) false (Or.inl ⟨v, HV.out, by rw [HVV.out]; rfl, rfl⟩))) ?_; rintro e w1 ⟨rfl, hb1⟩) | (go_at_call 23; refine (works_any _).mono ?_; rintro e w2 ⟨rfl, hb2⟩))
      go_ret
      exact ⟨rfl, hb1.trans (hb2.mono hb1.size)⟩
    · have HN := Lib.hid hn
      clear hn
      go_wp2_with (first | (go_at_call 33; refine (Calls.mono (HPP.out _ 0 true (Or.inr ⟨HN.out, rfl, rfl⟩))) ?_; rintro e w1 ⟨rfl, hb1⟩) | (go_at_call 23; refine (works_any _).mono ?_; rintro e w2 ⟨rfl, hb2⟩))
      go_ret
      exact ⟨rfl, hb1.trans (hb2.mono hb1.size)⟩

set_option maxRecDepth 100000 in
set_option maxHeartbeats 2000000 in
theorem walk_FnPort (a0 : ByteArray) (w : World) (_ : a0.size ≤ maxLen) :
    Calls Try.prog 13 #[.string a0] w fun e w' => e = .returned (.bool true) ∧ Below w.heap.size w w' := by
  by_cases hbig : a0.size ≤ 2147483647
  · by_cases h0 : a0.size = 0
    · have he := pl.emp_of a0 h0
      clear h0
      go_enter Try.func13, Try.ntmps13
      go_wp2_with (go_at_call 23; refine (works_any _).mono ?_; rintro e w2 ⟨rfl, hb2⟩)
      go_ret
      exact ⟨rfl, hb2⟩
    · have hpos : 0 < a0.size := by omega
      have hne := pl.ne_empty a0 h0
      obtain ⟨D, hD⟩ : ∃ D, a0.extract 1 a0.size = D := ⟨_, rfl⟩
      have hDs : D.size = a0.size - 1 := by rw [← hD]; simp
      rcases h1 : ((a0[0].toNat : Int) == 45) with _ | _
      · rcases h2 : ((a0[0].toNat : Int) == 43) with _ | _
        · by_cases h9 : a0.size ≤ 9
          · exact fnPort_main a0 a0 w hpos h9 hpos (Or.inr (Or.inr ⟨h1, h2, rfl⟩))
          · have h9' : 9 < (a0.size : Int) := by omega
            clear h9 hDs
            go_enter Try.func13, Try.ntmps13
            go_wp2_with (go_at_call 23; refine (works_any _).mono ?_; rintro e w2 ⟨rfl, hb2⟩)
            go_ret
            exact ⟨rfl, hb2⟩
        · by_cases hD0 : D.size = 0
          · have hed := pl.emp_of D hD0
            clear hD0 hDs
            go_enter Try.func13, Try.ntmps13
            go_wp2_with fail
            go_quiet (fail)
            go_wp2_with (go_at_call 23; refine (works_any _).mono ?_; rintro e w2 ⟨rfl, hb2⟩)
            go_ret
            exact ⟨rfl, bel_d hb2⟩
          · by_cases h9 : a0.size ≤ 9
            · exact fnPort_main a0 D w hpos h9 (by omega) (Or.inr (Or.inl ⟨h1, h2, hD⟩))
            · have h9' : 9 < (a0.size : Int) := by omega
              have hnd := pl.ne_empty D hD0
              clear h9 hDs
              go_enter Try.func13, Try.ntmps13
              go_wp2_with fail
              go_quiet (fail)
              go_wp2_with (go_at_call 23; refine (works_any _).mono ?_; rintro e w2 ⟨rfl, hb2⟩)
              go_ret
              exact ⟨rfl, bel_d hb2⟩
      · by_cases hD0 : D.size = 0
        · have hed := pl.emp_of D hD0
          clear hD0 hDs
          go_enter Try.func13, Try.ntmps13
          go_wp2_with fail
          go_quiet (fail)
          go_wp2_with (go_at_call 23; refine (works_any _).mono ?_; rintro e w2 ⟨rfl, hb2⟩)
          go_ret
          exact ⟨rfl, bel_d hb2⟩
        · by_cases h9 : a0.size ≤ 9
          · exact fnPort_main a0 D w hpos h9 (by omega) (Or.inl ⟨h1, hD⟩)
          · have h9' : 9 < (a0.size : Int) := by omega
            have hnd := pl.ne_empty D hD0
            clear h9 hDs
            go_enter Try.func13, Try.ntmps13
            go_wp2_with fail
            go_quiet (fail)
            go_wp2_with (go_at_call 23; refine (works_any _).mono ?_; rintro e w2 ⟨rfl, hb2⟩)
            go_ret
            exact ⟨rfl, bel_d hb2⟩
  · go_enter Try.func13, Try.ntmps13
    go_wp2_with fail
    go_ret
    exact ⟨rfl, Below.refl _ _⟩

end Go.Proofs.Ytlgohaoplbiedaa
