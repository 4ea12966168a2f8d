/-
  WALKS: Decimal, dtoi, Digit, xtoi.
-/
import Derived.Test.YtabeklpllphiaaaIdx
import Derived.Test.YtabeklpllphiaaaPlNum
namespace Go.Proofs.Ytabeklpllphiaaa
open Go.RowKit

/-- what Decimal returns -/
def DecRes (l : List UInt8) (w : World) (e : Ending) (w' : World) : Prop :=
  ((∃ v : Nat, pl.decimal l = some v ∧ e = .returned (.tuple #[.int .i64 v, .bool true])) ∨ (pl.decimal l = none ∧ ∃ n : Int, e = .returned (.tuple #[.int .i64 n, .bool false]))) ∧ w = w'

theorem ret_ib {a c : Int} {x y : Bool} (h1 : a = c) (h2 : x = y) : Ending.returned (.tuple #[.int .i64 a, .bool x]) = .returned (.tuple #[.int .i64 c, .bool y]) := by rw [h1, h2]

theorem ret_iib {a b c d : Int} {x y : Bool} (h1 : a = c) (h2 : b = d) (h3 : x = y) : Ending.returned (.tuple #[.int .i64 a, .int .i64 b, .bool x]) = .returned (.tuple #[.int .i64 c, .int .i64 d, .bool y]) := by rw [h1, h2, h3]

set_option maxHeartbeats 1000000 in
theorem dtoi_any (s : ByteArray) (w : World) (hs : s.size ≤ 17592186044416) :
    Calls Try.prog 49 #[.string s] w fun e w' => e = .returned (.tuple #[.int .i64 (pl.dt s.data.toList 0 0).1, .int .i64 (pl.dt s.data.toList 0 0).2.1, .bool (pl.dt s.data.toList 0 0).2.2]) ∧ w = w' := by
  have hl : s.data.toList.length = s.size := by simp
  go_enter Try.func49, Try.ntmps49
  go_wp2
  go_loop [2, 3] (fun v i => ∃ (k n : Nat), k ≤ s.size ∧ i = .int .i64 k ∧ v = .int .i64 n ∧ n < 16777215 ∧ Hid (pl.dt s.data.toList 0 0 = pl.dt (s.data.toList.drop k) n k)) (fun _ i => s.size - (intOf i).toNat)
  case atStart => exact ⟨0, 0, Nat.zero_le _, rfl, rfl, by omega, Lib.hid rfl⟩
  case round =>
    obtain ⟨k, n, hk, rfl, rfl, hn, HD⟩ := hrel
    by_cases hlt : k < s.size
    · obtain ⟨x, hx⟩ : ∃ x, s[k] = x := ⟨_, rfl⟩
      have hby := UInt8.toNat_lt x
      rw [pl.drop_cons' s k hlt, hx] at HD
      rcases hd : pl.dg x with _ | _
      · have hnd : ¬ (48 ≤ (x.toNat : Int) ∧ (x.toNat : Int) ≤ 57) := fun h => by rw [(pl.dg_int x).2 h] at hd; cases hd
        have HE := Lib.hid (show pl.dt s.data.toList 0 0 = if k = 0 then (0, 0, false) else (n, k, true) by rw [HD.out, pl.dt, if_neg (by rw [hd]; simp)])
        clear hd
        rcases (show ¬ 48 ≤ (x.toNat : Int) ∨ (48 ≤ (x.toNat : Int) ∧ ¬ (x.toNat : Int) ≤ 57) by omega) with h | ⟨h, h'⟩
        all_goals
          clear hnd
          rcases hk0 : ((k : Int) == 0) with _ | _
        all_goals
          have H0 := Lib.hid hk0
          go_wp2
          go_ret3
          have h0 := H0.out
          simp only [beq_iff_eq, beq_eq_false_iff_ne] at h0
          first | (rw [HE.out, if_pos (by omega)]; exact ⟨rfl, rfl⟩) | (rw [HE.out, if_neg (by omega)]; exact ⟨rfl, rfl⟩)
      · obtain ⟨h1, h2⟩ := (pl.dg_int x).1 hd
        have HE := Lib.hid (show pl.dt s.data.toList 0 0 = if 16777215 ≤ n * 10 + (x.toNat - 48) then (16777215, k, false) else pl.dt (s.data.toList.drop (k + 1)) (n * 10 + (x.toNat - 48)) (k + 1) by rw [HD.out, pl.dt, if_pos hd])
        clear hd
        by_cases hbig : 16777215 ≤ n * 10 + (x.toNat - 48)
        · rw [if_pos hbig] at HE
          have hbi : (16777215 : Int) ≤ (n : Int) * 10 + ((x.toNat : Int) - 48) := by omega
          clear hbig
          go_wp2
          go_ret3
          rw [HE.out]
          exact ⟨rfl, rfl⟩
        · rw [if_neg hbig] at HE
          have hbi : ¬ (16777215 : Int) ≤ (n : Int) * 10 + ((x.toNat : Int) - 48) := by omega
          go_wp2
          go_round
          case rel => exact ⟨k + 1, _, by omega, by go_num, by rw [show (n : Int) * 10 + ((x.toNat : Int) - 48) = ((n * 10 + (x.toNat - 48) : Nat) : Int) by omega], by omega, HE⟩
          case measure => simp [intOf]; omega
    · rw [List.drop_of_length_le (by omega)] at HD
      have HE := Lib.hid (show pl.dt s.data.toList 0 0 = if k = 0 then (0, 0, false) else (n, k, true) by rw [HD.out, pl.dt])
      rcases hk0 : ((k : Int) == 0) with _ | _
      all_goals
        have H0 := Lib.hid hk0
        go_wp2
        go_ret3
        have h0 := H0.out
        simp only [beq_iff_eq, beq_eq_false_iff_ne] at h0
        first | (rw [HE.out, if_pos (by omega)]; exact ⟨rfl, rfl⟩) | (rw [HE.out, if_neg (by omega)]; exact ⟨rfl, rfl⟩)

end Go.Proofs.Ytabeklpllphiaaa
