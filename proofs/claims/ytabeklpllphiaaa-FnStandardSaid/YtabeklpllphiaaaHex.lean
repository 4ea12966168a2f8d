/-
  WALKS: Digit, xtoi; the thin package's Dtoi and Xtoi.
-/
import Derived.Test.YtabeklpllphiaaaNum
namespace Go.Proofs.Ytabeklpllphiaaa
open Go.RowKit

/-- what Digit returns -/
theorem dig_sp (b : UInt8) (w : World) :
    Calls Try.prog 38 #[.int .u8 b.toNat] w fun e w' => e = .returned (.tuple #[.int .i64 ((pl.hexv b).getD 0 : Nat), .bool (pl.hexv b).isSome]) ∧ w = w' := by
  have hby := UInt8.toNat_lt b
  have HE := pl.hexv_cases b
  obtain ⟨x, hx⟩ : ∃ x : Int, (b.toNat : Int) = x := ⟨_, rfl⟩
  rw [hx] at HE ⊢
  have hx0 : 0 ≤ x := by omega
  have hx1 : x < 256 := by omega
  clear hx
  rcases HE with ⟨HE, h1, h2⟩ | ⟨HE, h1, h2⟩ | ⟨HE, h1, h2⟩ | ⟨HE, h1⟩ | ⟨HE, h1, h2⟩ | ⟨HE, h1, h2⟩ | ⟨HE, h1⟩
  all_goals
    go_enter Try.func38, Try.ntmps38
    go_wp2
    go_ret2
    exact ⟨ret_ib HE.1.out.symm HE.2.out.symm, rfl⟩

set_option maxRecDepth 100000 in
set_option maxHeartbeats 1000000 in
theorem xtoi_any (s : ByteArray) (w : World) (hs : s.size ≤ 17592186044416) :
    Calls Try.prog 50 #[.string s] w fun e w' => e = .returned (.tuple #[.int .i64 (pl.xt s.data.toList 0 0).1, .int .i64 (pl.xt s.data.toList 0 0).2.1, .bool (pl.xt s.data.toList 0 0).2.2]) ∧ w = w' := by
  have hl : s.data.toList.length = s.size := by simp
  go_enter Try.func50, Try.ntmps50
  go_wp2
  go_loop [2, 3] (fun v i => ∃ (k n : Nat), k ≤ s.size ∧ i = .int .i64 k ∧ v = .int .i64 n ∧ n < 16777215 ∧ Hid (pl.xt s.data.toList 0 0 = pl.xt (s.data.toList.drop k) n k)) (fun _ i => s.size - (intOf i).toNat)
  case atStart => exact ⟨0, 0, Nat.zero_le _, rfl, rfl, by omega, Lib.hid rfl⟩
  case round =>
    obtain ⟨k, n, hk, rfl, rfl, hn, HD⟩ := hrel
    by_cases hlt : k < s.size
    · obtain ⟨x, hx⟩ : ∃ x, s[k] = x := ⟨_, rfl⟩
      have hby := UInt8.toNat_lt x
      rw [pl.drop_cons' s k hlt, hx] at HD
      rcases pl.hexv_cases x with ⟨HE, h1, h2⟩ | ⟨HE, h1, h2⟩ | ⟨HE, h1, h2⟩ | ⟨HE, h1⟩ | ⟨HE, h1, h2⟩ | ⟨HE, h1, h2⟩ | ⟨HE, h1⟩
      case inr.inr.inr.inl | inr.inr.inr.inr.inl | inr.inr.inr.inr.inr.inl | inr.inr.inr.inr.inr.inr =>
        have hno : pl.hexv x = none := by have := HE.2.out; simpa using this
        have HR := Lib.hid (show pl.xt s.data.toList 0 0 = if k = 0 then (0, k, false) else (n, k, true) by rw [HD.out, pl.xt, hno])
        clear hno
        rcases hk0 : ((k : Int) == 0) with _ | _
        all_goals
          have H0 := Lib.hid hk0
          go_wp2
          go_ret3
          have h0 := H0.out
          simp only [beq_iff_eq, beq_eq_false_iff_ne] at h0
          first | (rw [HR.out, if_pos (by omega)]; exact ⟨rfl, rfl⟩) | (rw [HR.out, if_neg (by omega)]; exact ⟨rfl, rfl⟩)
      all_goals
        obtain ⟨d, hd⟩ := Option.isSome_iff_exists.1 HE.2.out
        have hdv := HE.1.out
        rw [hd, Option.getD_some] at hdv
        have HR := Lib.hid (show pl.xt s.data.toList 0 0 = if 16777215 ≤ n * 16 + d then (0, k, false) else pl.xt (s.data.toList.drop (k + 1)) (n * 16 + d) (k + 1) by rw [HD.out, pl.xt, hd])
        have HV := Lib.hid hdv
        clear hd hdv HE
        by_cases hbig : 16777215 ≤ n * 16 + d
        · rw [if_pos hbig] at HR
          have hbi : (16777215 : Int) ≤ (n : Int) * 16 + (d : Int) := by omega
          rw [HV.out] at hbi
          clear hbig
          go_wp2
          go_ret3
          rw [HR.out]
          exact ⟨rfl, rfl⟩
        · rw [if_neg hbig] at HR
          have hbi : ¬ (16777215 : Int) ≤ (n : Int) * 16 + (d : Int) := by omega
          have hbj := hbi
          rw [HV.out] at hbj
          go_wp2
          go_round
          case rel => exact ⟨k + 1, _, by omega, by go_num, by rw [← HV.out]; rfl, by omega, HR⟩
          case measure => simp [intOf]; omega
    · rw [List.drop_of_length_le (by omega)] at HD
      have HR := Lib.hid (show pl.xt s.data.toList 0 0 = if k = 0 then (0, k, false) else (n, k, true) by rw [HD.out, pl.xt])
      rcases hk0 : ((k : Int) == 0) with _ | _
      all_goals
        have H0 := Lib.hid hk0
        go_wp2
        go_ret3
        have h0 := H0.out
        simp only [beq_iff_eq, beq_eq_false_iff_ne] at h0
        first | (rw [HR.out, if_pos (by omega)]; exact ⟨rfl, rfl⟩) | (rw [HR.out, if_neg (by omega)]; exact ⟨rfl, rfl⟩)

end Go.Proofs.Ytabeklpllphiaaa
