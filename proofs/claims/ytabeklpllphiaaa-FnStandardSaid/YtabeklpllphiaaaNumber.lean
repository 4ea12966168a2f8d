/-
  WALK: the reference's number.
-/
import Derived.Test.YtabeklpllphiaaaPlTxt
import Derived.Test.YtabeklpllphiaaaPlHostLaw
import Derived.Test.YtabeklpllphiaaaIdx
namespace Go.Proofs.Ytabeklpllphiaaa
open Go.RowKit

theorem pl.hx_ext (n : Nat) (h : n < 16) (S : ByteArray) : ((⟨#[48, 49, 50, 51, 52, 53, 54, 55, 56, 57, 97, 98, 99, 100, 101, 102]⟩ : ByteArray).extract n (n + 1) ++ S).data.toList = pl.hx n :: S.data.toList := by
  have := pl.hx_slice n h
  have e : (⟨#[48, 49, 50, 51, 52, 53, 54, 55, 56, 57, 97, 98, 99, 100, 101, 102]⟩ : ByteArray) = pl.hexd := rfl
  rw [e, ByteArray.data_append, Array.toList_append, this]
  rfl

theorem pow_half (m k b : Nat) (hb : 2 ≤ b) (hm : m < 2 ^ (64 - k)) (hk : k ≤ 64) (h : 0 < m ∨ k = 0) : k + 1 ≤ 64 ∧ m / b < 2 ^ (64 - (k + 1)) := by
  have hk1 : k + 1 ≤ 64 := by
    rcases h with h | h
    · rcases Nat.lt_or_ge k 64 with h' | h'
      · exact h'
      · rw [show 64 - k = 0 by omega, Nat.pow_zero] at hm
        omega
    · omega
  refine ⟨hk1, ?_⟩
  have h2 : m / b ≤ m / 2 := Nat.div_le_div_left hb (by omega)
  have e : 64 - k = 64 - (k + 1) + 1 := by omega
  rw [e, Nat.pow_succ] at hm
  omega

set_option maxHeartbeats 2000000 in
theorem num_10 (n : Nat) (w : World) (hn : n < 9223372036854775808) :
    Calls Try.prog 25 #[.int .i64 (n : Int), .int .i64 10] w fun e w' => e = .returned (.string ⟨(pl.num 10 n).toArray⟩) ∧ ∃ k, w' = w.drewN k := by
  go_enter Try.func25, Try.ntmps25
  go_wp2_with fail
  go_loopw [0, 5] (fun nv sv wr => ∃ (m k : Nat) (S : ByteArray), nv = .int .i64 m ∧ sv = .string S ∧ wr = w.drewN k ∧ m ≤ n ∧ Hid (pl.numHead 10 n m S.data.toList) ∧ S.size ≤ 64 ∧ Hid (m < 2 ^ (64 - S.size))) (fun nv sv _ => 2 * (intOf nv).toNat + (match sv with | .string S => (if S.size = 0 then 1 else 0) | _ => 0))
  case atStart => exact ⟨n, 0, _, rfl, rfl, rfl, Nat.le_refl _, Lib.hid (.inl ⟨rfl, rfl⟩), by simp [ByteArray.size], Lib.hid (by show n < 2 ^ 64; omega)⟩
  case round =>
    obtain ⟨m, k, S, rfl, rfl, rfl, hm, HH, hsz, HP⟩ := hrel
    have t1 : Int.tmod (m : Int) 10 = ((m % 10 : Nat) : Int) := by rw [Int.tmod_eq_emod_of_nonneg (by omega)]; omega
    have t2 : Int.tdiv (m : Int) 10 = ((m / 10 : Nat) : Int) := by rw [Int.tdiv_eq_ediv_of_nonneg (by omega)]; omega
    obtain ⟨q, hq⟩ : ∃ q, m / 10 = q := ⟨_, rfl⟩
    obtain ⟨r, hr⟩ : ∃ r, m % 10 = r := ⟨_, rfl⟩
    have hr16 : r < 16 := by omega
    have hqm : 2 * q ≤ m := by omega
    rw [hr] at t1
    rw [hq] at t2
    have HQ := Lib.hid hq
    have HR := Lib.hid hr
    clear hq hr
    by_cases hgo : 0 < m ∨ S.size = 0
    · have hst := pl.numHead_step 10 n m S.data.toList (by decide) (by omega) HH.out (by rcases hgo with h | h; exact .inl h; exact .inr (pl.nil_of S h))
      obtain ⟨hp1, hp2⟩ := pow_half m S.size 10 (by decide) HP.out hsz hgo
      rw [HQ.out, HR.out, ← pl.hx_ext r hr16 S] at hst
      rw [HQ.out] at hp2
      have HST := Lib.hid hst
      have HP2 := Lib.hid hp2
      have hsz2 : ((⟨#[48, 49, 50, 51, 52, 53, 54, 55, 56, 57, 97, 98, 99, 100, 101, 102]⟩ : ByteArray).extract r (r + 1) ++ S).size = S.size + 1 := by
        exact congrArg List.length (pl.hx_ext r hr16 S)
      have HS2 := Lib.hid hsz2
      clear hst hp2 hsz2
      rcases Nat.eq_zero_or_pos m with h0 | h0
      · subst h0
        have hs0 : S.size = 0 := by omega
        have he := pl.emp_of S hs0
        have HS0 := Lib.hid hs0
        have hq0 : q = 0 := by have := HQ.out; omega
        have hr0 : r = 0 := by have := HR.out; omega
        subst hq0
        subst hr0
        have HST2 : Hid (pl.numHead 10 n 0 ((⟨#[48, 49, 50, 51, 52, 53, 54, 55, 56, 57, 97, 98, 99, 100, 101, 102]⟩ : ByteArray).extract 0 1 ++ S).data.toList) := HST
        have HS3 : Hid (((⟨#[48, 49, 50, 51, 52, 53, 54, 55, 56, 57, 97, 98, 99, 100, 101, 102]⟩ : ByteArray).extract 0 1 ++ S).size = S.size + 1) := HS2
        clear hgo hs0
        go_wp2_with fail
        go_quiet (fail)
        go_wp2_with fail
        refine ⟨⟨0, _, _, rfl, rfl, rfl, by omega, HST2, by rw [HS3.out]; omega, Lib.hid (Nat.two_pow_pos _)⟩, ?_⟩
        show 2 * 0 + (if ((⟨#[48, 49, 50, 51, 52, 53, 54, 55, 56, 57, 97, 98, 99, 100, 101, 102]⟩ : ByteArray).extract 0 1 ++ S).size = 0 then 1 else 0) < 2 * 0 + (if S.size = 0 then 1 else 0)
        rw [if_neg (by rw [HS3.out]; omega), if_pos HS0.out]
        omega
      · have h0' : (0 : Int) < (m : Int) := by omega
        clear hgo
        go_wp2_with fail
        go_quiet (fail)
        go_wp2_with fail
        go_roundw
        case rel => exact ⟨q, _, _, by go_num, rfl, rfl, by omega, HST, by rw [HS2.out]; omega, Lib.hid (by rw [HS2.out]; exact HP2.out)⟩
        case measure =>
          show 2 * ((q : Int)).toNat + (if _ = 0 then 1 else 0) < 2 * ((m : Int)).toNat + (if S.size = 0 then 1 else 0)
          rw [if_neg (by rw [HS2.out]; omega)]
          omega
    · have h0 : m = 0 := by omega
      have hs0 : S.size ≠ 0 := by omega
      subst h0
      have he := pl.ne_empty S hs0
      have hend := pl.numHead_end 10 n S.data.toList HH.out (pl.data_ne S hs0)
      have HE := Lib.hid hend
      clear hgo hs0 hend
      go_wp2_with fail
      go_ret
      exact ⟨ret_str (by rw [← HE.out]), _, rfl⟩

set_option maxHeartbeats 2000000 in
theorem num_16 (n : Nat) (w : World) (hn : n < 9223372036854775808) :
    Calls Try.prog 25 #[.int .i64 (n : Int), .int .i64 16] w fun e w' => e = .returned (.string ⟨(pl.num 16 n).toArray⟩) ∧ ∃ k, w' = w.drewN k := by
  go_enter Try.func25, Try.ntmps25
  go_wp2_with fail
  go_loopw [0, 5] (fun nv sv wr => ∃ (m k : Nat) (S : ByteArray), nv = .int .i64 m ∧ sv = .string S ∧ wr = w.drewN k ∧ m ≤ n ∧ Hid (pl.numHead 16 n m S.data.toList) ∧ S.size ≤ 64 ∧ Hid (m < 2 ^ (64 - S.size))) (fun nv sv _ => 2 * (intOf nv).toNat + (match sv with | .string S => (if S.size = 0 then 1 else 0) | _ => 0))
  case atStart => exact ⟨n, 0, _, rfl, rfl, rfl, Nat.le_refl _, Lib.hid (.inl ⟨rfl, rfl⟩), by simp [ByteArray.size], Lib.hid (by show n < 2 ^ 64; omega)⟩
  case round =>
    obtain ⟨m, k, S, rfl, rfl, rfl, hm, HH, hsz, HP⟩ := hrel
    have t1 : Int.tmod (m : Int) 16 = ((m % 16 : Nat) : Int) := by rw [Int.tmod_eq_emod_of_nonneg (by omega)]; omega
    have t2 : Int.tdiv (m : Int) 16 = ((m / 16 : Nat) : Int) := by rw [Int.tdiv_eq_ediv_of_nonneg (by omega)]; omega
    obtain ⟨q, hq⟩ : ∃ q, m / 16 = q := ⟨_, rfl⟩
    obtain ⟨r, hr⟩ : ∃ r, m % 16 = r := ⟨_, rfl⟩
    have hr16 : r < 16 := by omega
    have hqm : 2 * q ≤ m := by omega
    rw [hr] at t1
    rw [hq] at t2
    have HQ := Lib.hid hq
    have HR := Lib.hid hr
    clear hq hr
    by_cases hgo : 0 < m ∨ S.size = 0
    · have hst := pl.numHead_step 16 n m S.data.toList (by decide) (by omega) HH.out (by rcases hgo with h | h; exact .inl h; exact .inr (pl.nil_of S h))
      obtain ⟨hp1, hp2⟩ := pow_half m S.size 16 (by decide) HP.out hsz hgo
      rw [HQ.out, HR.out, ← pl.hx_ext r hr16 S] at hst
      rw [HQ.out] at hp2
      have HST := Lib.hid hst
      have HP2 := Lib.hid hp2
      have hsz2 : ((⟨#[48, 49, 50, 51, 52, 53, 54, 55, 56, 57, 97, 98, 99, 100, 101, 102]⟩ : ByteArray).extract r (r + 1) ++ S).size = S.size + 1 := by
        exact congrArg List.length (pl.hx_ext r hr16 S)
      have HS2 := Lib.hid hsz2
      clear hst hp2 hsz2
      rcases Nat.eq_zero_or_pos m with h0 | h0
      · subst h0
        have hs0 : S.size = 0 := by omega
        have he := pl.emp_of S hs0
        have HS0 := Lib.hid hs0
        have hq0 : q = 0 := by have := HQ.out; omega
        have hr0 : r = 0 := by have := HR.out; omega
        subst hq0
        subst hr0
        have HST2 : Hid (pl.numHead 16 n 0 ((⟨#[48, 49, 50, 51, 52, 53, 54, 55, 56, 57, 97, 98, 99, 100, 101, 102]⟩ : ByteArray).extract 0 1 ++ S).data.toList) := HST
        have HS3 : Hid (((⟨#[48, 49, 50, 51, 52, 53, 54, 55, 56, 57, 97, 98, 99, 100, 101, 102]⟩ : ByteArray).extract 0 1 ++ S).size = S.size + 1) := HS2
        clear hgo hs0
        go_wp2_with fail
        go_quiet (fail)
        go_wp2_with fail
        refine ⟨⟨0, _, _, rfl, rfl, rfl, by omega, HST2, by rw [HS3.out]; omega, Lib.hid (Nat.two_pow_pos _)⟩, ?_⟩
        show 2 * 0 + (if ((⟨#[48, 49, 50, 51, 52, 53, 54, 55, 56, 57, 97, 98, 99, 100, 101, 102]⟩ : ByteArray).extract 0 1 ++ S).size = 0 then 1 else 0) < 2 * 0 + (if S.size = 0 then 1 else 0)
        rw [if_neg (by rw [HS3.out]; omega), if_pos HS0.out]
        omega
      · have h0' : (0 : Int) < (m : Int) := by omega
        clear hgo
        go_wp2_with fail
        go_quiet (fail)
        go_wp2_with fail
        go_roundw
        case rel => exact ⟨q, _, _, by go_num, rfl, rfl, by omega, HST, by rw [HS2.out]; omega, Lib.hid (by rw [HS2.out]; exact HP2.out)⟩
        case measure =>
          show 2 * ((q : Int)).toNat + (if _ = 0 then 1 else 0) < 2 * ((m : Int)).toNat + (if S.size = 0 then 1 else 0)
          rw [if_neg (by rw [HS2.out]; omega)]
          omega
    · have h0 : m = 0 := by omega
      have hs0 : S.size ≠ 0 := by omega
      subst h0
      have he := pl.ne_empty S hs0
      have hend := pl.numHead_end 16 n S.data.toList HH.out (pl.data_ne S hs0)
      have HE := Lib.hid hend
      clear hgo hs0 hend
      go_wp2_with fail
      go_ret
      exact ⟨ret_str (by rw [← HE.out]), _, rfl⟩

end Go.Proofs.Ytabeklpllphiaaa
