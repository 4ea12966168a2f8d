/-
  WALKS: the laws FnDecimal, FnHexadecimal.
-/
import Derived.Test.YtlgohaoplbiedaaHex
import Derived.Test.YtlgohaoplbiedaaHost2
import Derived.Test.YtlgohaoplbiedaaPlHostLaw
namespace Go.Proofs.Ytlgohaoplbiedaa
open Go.RowKit

theorem app_data (a b : ByteArray) : (a ++ b).data.toList = a.data.toList ++ b.data.toList := by simp [ByteArray.data_append]

theorem dtoi_val (s : ByteArray) (n i : Nat) (b : Bool) (w : World) (hs : s.size ≤ 17592186044416) (h : pl.dt s.data.toList 0 0 = (n, i, b)) :
    Calls Try.prog 27 #[.string s] w fun e w' => e = .returned (.tuple #[.int .i64 n, .int .i64 i, .bool b]) ∧ w = w' := by
  have := dtoi_impl s w hs
  rw [h] at this
  exact this
theorem xtoi_val (s : ByteArray) (n i : Nat) (b : Bool) (w : World) (hs : s.size ≤ 17592186044416) (h : pl.xt s.data.toList 0 0 = (n, i, b)) :
    Calls Try.prog 29 #[.string s] w fun e w' => e = .returned (.tuple #[.int .i64 n, .int .i64 i, .bool b]) ∧ w = w' := by
  have := xtoi_impl s w hs
  rw [h] at this
  exact this

set_option maxRecDepth 100000 in
set_option maxHeartbeats 1000000 in
theorem walk_FnDecimal (a0 a1 : ByteArray) (w : World) (_ : a0.size ≤ maxLen) (_ : a1.size ≤ maxLen) :
    Calls Try.prog 10 #[.string a0, .string a1] w fun e w' => e = .returned (.bool true) ∧ Below w.heap.size w w' := by
  by_cases hbig : a0.size ≤ 2147483647 ∧ a1.size ≤ 2147483647
  · obtain ⟨hb0, hb1⟩ := hbig
    have hAs : (a0 ++ a1).size ≤ 17592186044416 := by rw [ByteArray.size_append]; omega
    by_cases hr : ∀ b, a1.data.toList.head? = some b → pl.dg b = false
    · have hfact : a1.toList.isEmpty = true ∨ (∃ h : 0 < a1.size, a1.toList.isEmpty = false ∧ ((a1[0].toNat : Int) < (48 : Int) ∨ ((48 : Int) ≤ (a1[0].toNat : Int) ∧ (57 : Int) < (a1[0].toNat : Int)))) := by
        by_cases h0 : a1.size = 0
        · exact Or.inl (pl.emp_of a1 h0)
        · right
          refine ⟨by omega, pl.ne_empty a1 h0, ?_⟩
          have := hr _ (pl.head_get a1 (by omega))
          have hnd : ¬ ((48 : Int) ≤ (a1[0].toNat : Int) ∧ (a1[0].toNat : Int) ≤ (57 : Int)) := fun h => by rw [(pl.dg_int _).2 h] at this; cases this
          omega
      go_enter Try.func10, Try.ntmps10
      go_wp2_with fail
      refine (dec_sp a0 w (by omega)).mono ?_
      rintro e w' ⟨⟨v, hv, rfl⟩ | ⟨hn, n, rfl⟩, rfl⟩
      · by_cases hv2 : v < 16777215
        · have hl := pl.dec_law _ _ v hv hv2 hr
          rw [← app_data] at hl
          have hl2 : a0.data.toList.length = a0.size := by simp
          rw [hl2] at hl
          have HL := Lib.hid hl
          clear hl
          have HV := Lib.hid hv
          have HR := Lib.hid hr
          have hv3 : decide ((16777215 : Int) ≤ (v : Int)) = false := decide_eq_false (by omega)
          clear hv hr hl2 hv2
          rcases hfact with h1 | ⟨h2, h1, h3⟩
          · go_wp2_with (go_at_call 27; go_must (refine (dtoi_val _ v _ _ _ hAs HL.out).mono ?_); rintro e w' ⟨rfl, rfl⟩)
            go_ret
            exact ⟨rfl, Below.refl _ _⟩
          · obtain ⟨x, hx⟩ : ∃ x, a1[0] = x := ⟨_, rfl⟩
            rw [hx] at h3
            rcases h3 with h3 | ⟨h3, h4⟩
            all_goals
              go_wp2_with (go_at_call 27; go_must (refine (dtoi_val _ v _ _ _ hAs HL.out).mono ?_); rintro e w' ⟨rfl, rfl⟩)
              go_ret
              exact ⟨rfl, Below.refl _ _⟩
        · have hv3 : (16777215 : Int) ≤ (v : Int) := by omega
          clear hfact
          have HR := Lib.hid hr
          clear hr hv2
          go_wp2_with (go_at_call 23; refine (works_any _).mono ?_; rintro e w2 ⟨rfl, hb2⟩)
          go_ret
          exact ⟨rfl, hb2⟩
      · clear hfact
        have HR := Lib.hid hr
        clear hr
        go_wp2_with (go_at_call 23; refine (works_any _).mono ?_; rintro e w2 ⟨rfl, hb2⟩)
        go_ret
        exact ⟨rfl, hb2⟩
    · have hfact : ∃ h : 0 < a1.size, a1.toList.isEmpty = false ∧ ((48 : Int) ≤ (a1[0].toNat : Int) ∧ (a1[0].toNat : Int) ≤ (57 : Int)) := by
        by_cases h0 : a1.size = 0
        · exfalso; apply hr
          intro b hb
          rw [pl.nil_of a1 h0] at hb
          cases hb
        · refine ⟨by omega, pl.ne_empty a1 h0, ?_⟩
          rw [← pl.dg_int]
          cases hd : pl.dg a1[0] with
          | true => rfl
          | false =>
            exfalso; apply hr
            intro b hb
            rw [pl.head_get a1 (by omega)] at hb
            injection hb with hb
            rw [← hb]; exact hd
      clear hr
      obtain ⟨h2, h1, h3, h4⟩ := hfact
      obtain ⟨x, hx⟩ : ∃ x, a1[0] = x := ⟨_, rfl⟩
      rw [hx] at h3 h4
      go_enter Try.func10, Try.ntmps10
      go_wp2_with fail
      refine (dec_sp a0 w (by omega)).mono ?_
      rintro e w' ⟨⟨v, hv, rfl⟩ | ⟨hn, n, rfl⟩, rfl⟩
      · have HV := Lib.hid hv
        clear hv
        rcases (show (16777215 : Int) ≤ (v : Int) ∨ ¬ (16777215 : Int) ≤ (v : Int) by omega) with h5 | h5
        all_goals
          go_wp2_with (go_at_call 23; refine (works_any _).mono ?_; rintro e w2 ⟨rfl, hb2⟩)
          go_ret
          exact ⟨rfl, hb2⟩
      · go_wp2_with (go_at_call 23; refine (works_any _).mono ?_; rintro e w2 ⟨rfl, hb2⟩)
        go_ret
        exact ⟨rfl, hb2⟩
  · go_enter Try.func10, Try.ntmps10
    go_wp2_with fail
    all_goals go_ret
    all_goals exact ⟨rfl, Below.refl _ _⟩

theorem dig_val (b : UInt8) (d : Nat) (o : Bool) (w : World) (h1 : (pl.hexv b).getD 0 = d) (h2 : (pl.hexv b).isSome = o) :
    Calls Try.prog 28 #[.int .u8 b.toNat] w fun e w' => e = .returned (.tuple #[.int .i64 d, .bool o]) ∧ w = w' := by
  rw [← h1, ← h2]; exact dig_sp b w

set_option maxRecDepth 100000 in
set_option maxHeartbeats 1000000 in
theorem walk_FnHexadecimal (a0 a1 : ByteArray) (w : World) (_ : a0.size ≤ maxLen) (_ : a1.size ≤ maxLen) :
    Calls Try.prog 11 #[.string a0, .string a1] w fun e w' => e = .returned (.bool true) ∧ Below w.heap.size w w' := by
  by_cases hbig : a0.size ≤ 2147483647 ∧ a1.size ≤ 2147483647
  · obtain ⟨hb0, hb1⟩ := hbig
    have hAs : (a0 ++ a1).size ≤ 17592186044416 := by rw [ByteArray.size_append]; omega
    have hl0 : a0.data.toList.length = a0.size := by simp
    go_enter Try.func11, Try.ntmps11
    go_wp2_with fail
    go_loop [5, 24] (fun v i => ∃ k n : Nat, k ≤ a0.size ∧ k ≤ 5 ∧ n < 1048576 ∧ i = .int .i64 k ∧ v = .int .i64 n ∧ Hid ((a0.data.toList.take k).all pl.isHex = true) ∧ Hid (n = pl.hexV 0 (a0.data.toList.take k))) (fun _ i => a0.size - (intOf i).toNat)
    case atStart => exact ⟨0, 0, Nat.zero_le _, by omega, by omega, rfl, rfl, Lib.hid (by simp), Lib.hid rfl⟩
    case round =>
      obtain ⟨k, n, hk, hk5, hn, rfl, rfl, HA, HN⟩ := hrel
      by_cases hlt : k < a0.size
      · obtain ⟨x, hx⟩ : ∃ x, a0[k] = x := ⟨_, rfl⟩
        obtain ⟨d, hd⟩ : ∃ d, (pl.hexv x).getD 0 = d := ⟨_, rfl⟩
        have hd16 := pl.hexD_lt x
        rw [hd] at hd16
        have HD := Lib.hid hd
        rcases ho : (pl.hexv x).isSome with _ | _
        all_goals have HO := Lib.hid ho
        all_goals clear hd ho
        · go_wp2_with (first | (go_at_call 28; refine (dig_val x d _ _ HD.out HO.out).mono ?_; rintro e w' ⟨rfl, rfl⟩) | (go_at_call 23; refine (works_any _).mono ?_; rintro e w2 ⟨rfl, hb2⟩))
          go_ret
          exact ⟨rfl, hb2⟩
        · by_cases hk4 : k ≤ 4
          · have hnn := pl.hexV_lt (a0.data.toList.take (k + 1))
            have hlen : (a0.data.toList.take (k + 1)).length = k + 1 := by rw [List.length_take]; omega
            have hp : 16 ^ (k + 1) ≤ 16 ^ 5 := Nat.pow_le_pow_right (by omega) (by omega)
            have hp5 : (16 : Nat) ^ 5 = 1048576 := by decide
            have hv : pl.hexV 0 (a0.data.toList.take (k + 1)) = n * 16 + d := by rw [pl.take_succ a0 k hlt, pl.hexV_snoc, ← HN.out, hx, HD.out]
            rw [hlen, hv] at hnn
            have hlt2 : n * 16 + d < 1048576 := by omega
            have HV := Lib.hid hv
            have HL2 := Lib.hid hlt2
            clear hnn hlen hp hp5 hv hlt2
            go_wp2_with (first | (go_at_call 28; refine (dig_val x d _ _ HD.out HO.out).mono ?_; rintro e w' ⟨rfl, rfl⟩) | (go_at_call 23; refine (works_any _).mono ?_; rintro e w2 ⟨rfl, hb2⟩))
            go_round
            case rel => exact ⟨k + 1, n * 16 + d, by omega, by omega, HL2.out, by go_num, by go_num, Lib.hid (by rw [pl.take_succ a0 k hlt, List.all_append, HA.out]; simp [pl.isHex, hx, HO.out]), Lib.hid HV.out.symm⟩
            case measure => simp [intOf]; omega
          · go_wp2_with (first | (go_at_call 28; refine (dig_val x d _ _ HD.out HO.out).mono ?_; rintro e w' ⟨rfl, rfl⟩) | (go_at_call 23; refine (works_any _).mono ?_; rintro e w2 ⟨rfl, hb2⟩))
            go_ret
            exact ⟨rfl, hb2⟩
      · have ek := pl.take_all a0 k (by omega)
        rw [ek] at HA HN
        have hke : k = a0.size := by omega
        subst hke
        clear ek
        by_cases h0 : a0.size = 0
        · have he := pl.emp_of a0 h0
          clear h0
          go_wp2_with (go_at_call 23; refine (works_any _).mono ?_; rintro e w2 ⟨rfl, hb2⟩)
          go_ret
          exact ⟨rfl, hb2⟩
        · have he := pl.ne_empty a0 h0
          by_cases h1 : a1.size = 0
          · have he1 := pl.emp_of a1 h1
            have hl := pl.hex_law a0.data.toList a1.data.toList (pl.data_ne a0 h0) HA.out (by omega) (by rw [pl.nil_of a1 h1]; intro b hb; cases hb)
            rw [← app_data, hl0, ← HN.out] at hl
            have HL := Lib.hid hl
            clear hl h0 h1
            go_wp2_with (go_at_call 29; go_must (refine (xtoi_val _ n _ _ _ hAs HL.out).mono ?_); rintro e w' ⟨rfl, rfl⟩)
            go_ret
            exact ⟨rfl, Below.refl _ _⟩
          · have he1 := pl.ne_empty a1 h1
            have hpos : 0 < a1.size := by omega
            obtain ⟨y, hy⟩ : ∃ y, a1[0] = y := ⟨_, rfl⟩
            have hhd := pl.head_get a1 (by omega)
            rw [hy] at hhd
            obtain ⟨d, hd⟩ : ∃ d, (pl.hexv y).getD 0 = d := ⟨_, rfl⟩
            have HD := Lib.hid hd
            rcases ho : (pl.hexv y).isSome with _ | _
            all_goals have HO := Lib.hid ho
            · have hno : pl.hexv y = none := by simpa using ho
              have hl := pl.hex_law a0.data.toList a1.data.toList (pl.data_ne a0 h0) HA.out (by omega) (by rw [hhd]; intro b hb; injection hb with hb; rw [← hb]; exact hno)
              rw [← app_data, hl0, ← HN.out] at hl
              have HL := Lib.hid hl
              clear hl h0 h1 hd ho hno hhd
              go_wp2_with (first | (go_at_call 28; refine (dig_val y d _ _ HD.out HO.out).mono ?_; rintro e w' ⟨rfl, rfl⟩) | (go_at_call 29; go_must (refine (xtoi_val _ n _ _ _ hAs HL.out).mono ?_); rintro e w' ⟨rfl, rfl⟩))
              go_ret
              exact ⟨rfl, Below.refl _ _⟩
            · clear h0 h1 hd ho hhd
              go_wp2_with (first | (go_at_call 28; refine (dig_val y d _ _ HD.out HO.out).mono ?_; rintro e w' ⟨rfl, rfl⟩) | (go_at_call 23; refine (works_any _).mono ?_; rintro e w2 ⟨rfl, hb2⟩))
              go_ret
              exact ⟨rfl, hb2⟩
  · go_enter Try.func11, Try.ntmps11
    go_wp2_with fail
    all_goals go_ret
    all_goals exact ⟨rfl, Below.refl _ _⟩

end Go.Proofs.Ytlgohaoplbiedaa
