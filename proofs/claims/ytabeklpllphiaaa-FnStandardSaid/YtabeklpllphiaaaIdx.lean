/-
  WALKS: indexByteString, JoinHostPort.
-/
import Derived.Test.YtabeklpllphiaaaRows
import Derived.Test.YtabeklpllphiaaaPl
import Derived.WalkKit
import Derived.Lib.Hide
import Derived.Outline
import Derived.BigQuiet
import Derived.Deep.QuietTactic
import Derived.WalkSpells
import Derived.WalkLawsBesides
namespace Go.Proofs.Ytabeklpllphiaaa
open Go.RowKit

theorem ret_int {k : IntKind} {a b : Int} (h : a = b) : Ending.returned (.int k a) = .returned (.int k b) := by rw [h]
theorem ret_bool {a b : Bool} (h : a = b) : Ending.returned (.bool a) = .returned (.bool b) := by rw [h]
theorem ret_str {a b : ByteArray} (h : a = b) : Ending.returned (.string a) = .returned (.string b) := by rw [h]

set_option maxHeartbeats 400000 in
theorem idx_any (s : ByteArray) (c : Int) (w : World) (hs : s.size ≤ maxLen) :
    Calls Try.prog 46 #[.string s, .int .u8 c] w fun e w' => e = .returned (.int .i64 (pl.idx s.data.toList c)) ∧ w = w' := by
  unfold maxLen at hs
  go_enter Try.func46, Try.ntmps46
  go_wp2
  go_loop [5] (fun i => ∃ k : Nat, k ≤ s.size ∧ i = .int .i64 k ∧ ∀ x ∈ s.data.toList.take k, pl.isB c x = false) (fun i => s.size - (intOf i).toNat)
  case atStart => exact ⟨0, Nat.zero_le _, rfl, by simp⟩
  case round =>
    obtain ⟨k, hk, rfl, hn⟩ := hrel
    have HN := Lib.hid hn
    clear hn
    by_cases hlt : k < s.size
    · go_wp2
      · go_ret
        exact ⟨ret_int (pl.idx_hit s c k hlt HN.out (by assumption)).symm, rfl⟩
      · go_round
        case rel => exact ⟨k + 1, by omega, by go_num, pl.none_succ s c k hlt HN.out (by assumption)⟩
        case measure => simp [intOf]; omega
    · go_wp2
      go_ret
      exact ⟨ret_int (pl.idx_miss _ _ (pl.none_all s c k (by omega) HN.out)).symm, rfl⟩

set_option maxHeartbeats 400000 in
theorem has_any (s t : ByteArray) (w : World) (hs : s.size ≤ 17592186044416) (ht : t.size ≤ 17592186044416) :
    Calls Try.prog 28 #[.string s, .string t] w fun e w' => e = .returned (.bool (pl.has s.data.toList t.data.toList)) ∧ ∃ n, w' = w.drewN n := by
  go_enter Try.func28, Try.ntmps28
  go_wp2
  go_loopw [9] (fun i wr => ∃ k n : Nat, k ≤ s.size ∧ i = .int .i64 k ∧ wr = w.drewN n ∧ ∀ x ∈ s.data.toList.take k, x ∉ t.data.toList) (fun i _ => s.size - (intOf i).toNat)
  case atStart => exact ⟨0, 0, Nat.zero_le _, rfl, rfl, by simp⟩
  case round =>
    obtain ⟨i, n, hi, rfl, rfl, hn⟩ := hrel
    have HN := Lib.hid hn
    clear hn
    by_cases hlt : i < s.size
    · go_wp2
      go_loopw [14] (fun j wr => ∃ k m : Nat, k ≤ t.size ∧ j = .int .i64 k ∧ wr = w.drewN m ∧ s[i] ∉ t.data.toList.take k) (fun i _ => t.size - (intOf i).toNat)
      case atStart => exact ⟨0, n, Nat.zero_le _, rfl, rfl, by simp⟩
      case round =>
        obtain ⟨k, m, hk, rfl, rfl, hn2⟩ := hrel
        have HN2 := Lib.hid hn2
        clear hn2
        by_cases hkt : k < t.size
        · have hi0 : (0:Int) ≤ (i : Int) ∧ (i : Int) < s.size := by omega
          have hk0 : (0:Int) ≤ (k : Int) ∧ (k : Int) < t.size := by omega
          go_wp2
          go_quiet (fail)
          go_wp2
          · go_ret
            exact ⟨ret_bool (pl.has_hit s t i k hlt hkt (by assumption)).symm, _, World.drewN_drewN ..⟩
          · go_roundw
            case rel => exact ⟨k + 1, _, by omega, by go_num, rfl, pl.nin_succ t _ k hkt HN2.out (by assumption)⟩
            case measure => simp [intOf]; omega
        · have ek := pl.take_all t k (by omega)
          have hni : s[i] ∉ t.data.toList := by rw [← ek]; exact HN2.out
          have HNI := Lib.hid hni
          clear hni ek
          go_wp2
          go_roundw
          case rel => exact ⟨i + 1, _, by omega, by go_num, rfl, pl.all_succ s _ i hlt HN.out HNI.out⟩
          case measure => simp [intOf]; omega
    · have ek := pl.take_all s i (by omega)
      have hno : pl.has s.data.toList t.data.toList = false := pl.has_no _ _ (by rw [← ek]; exact HN.out)
      have HNO := Lib.hid hno
      clear hno ek
      go_wp2
      go_ret
      exact ⟨ret_bool HNO.out.symm, _, rfl⟩

end Go.Proofs.Ytabeklpllphiaaa
