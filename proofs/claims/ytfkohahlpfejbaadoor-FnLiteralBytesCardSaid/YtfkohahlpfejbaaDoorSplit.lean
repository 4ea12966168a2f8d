/-
  WALKS: Split.
-/
import Derived.Test.YtfkohahlpfejbaaDoorIdx
import Derived.Test.YtfkohahlpfejbaaDoorMem
namespace Go.Proofs.YtfkohahlpfejbaaDoor
open Go.RowKit

set_option maxHeartbeats 400000 in
theorem split_sp (s : ByteArray) (c : Int) (w : World) (hs : s.size ≤ 4398046511104) :
    Calls Tryd.prog 61 #[.string s, .int .u8 c] w fun e w' => ∃ v, e = .returned v ∧ Strs w' w.heap.size v (pl.split c s.data.toList) ∧ Below w.heap.size w w' := by
  go_enter Tryd.func61, Tryd.ntmps61
  go_wp2_with fail
  go_loopw [5, 6, 10] (fun v f i wr => ∃ k fr : Nat, k ≤ s.size ∧ fr ≤ k ∧ i = .int .i64 k ∧ f = .int .i64 fr ∧ Strs wr w.heap.size v (pl.runS c (s.data.toList.take k)).1 ∧ (pl.runS c (s.data.toList.take k)).2 = (s.data.toList.take k).drop fr ∧ Below w.heap.size w wr) (fun _ _ i _ => s.size - (intOf i).toNat)
  case atStart => exact ⟨0, 0, Nat.zero_le _, Nat.le_refl _, rfl, rfl, World.ownsRow_nil _ _ _ _, rfl, Below.refl _ _⟩
  case round =>
    obtain ⟨k, fr, hk, hf, rfl, rfl, hown, hcur, hb⟩ := hrel
    have HC := Lib.hid hcur
    clear hcur
    by_cases hlt : k < s.size
    · have hle := pl.runS_len c (s.data.toList.take k)
      have hll : (s.data.toList.take k).length ≤ k := List.length_take_le _ _
      go_wp2_with (at_builtin; refine app_str (w := w) ((s.data.toList.take k).drop fr) rfl _ _ rfl rfl w.heap.size hown rfl (pl.extract_strV ..) (by omega) hb (Nat.le_refl _) ?_)
      · intro v' w' hown' hb' _
        have HS := pl.runS_succ c s k hlt
        have hc : (↑s[k].toNat == c) = true := by assumption
        rw [pl.stepS, if_pos (show pl.isB c s[k] = true from hc), HC.out] at HS
        have HS := Lib.hid HS
        clear hown hb hc
        go_wp2
        go_roundw
        case rel => exact ⟨k + 1, k + 1, by omega, Nat.le_refl _, by go_num, by go_num, by rw [HS.out]; exact hown', by rw [HS.out]; simp, hb'⟩
        case measure => simp [intOf]; omega
      · have HS := pl.runS_succ c s k hlt
        have hc : (↑s[k].toNat == c) = false := by assumption
        rw [pl.stepS, if_neg (by rw [pl.isB, hc]; simp), HC.out] at HS
        have HS := Lib.hid HS
        clear hc
        go_roundw
        case rel => exact ⟨k + 1, fr, by omega, by omega, by go_num, rfl, by rw [HS.out]; exact hown, by rw [HS.out, pl.take_drop_succ s fr k hf hlt], hb⟩
        case measure => simp [intOf]; omega
    · have hle := pl.runS_len c s.data.toList
      have hll : s.data.toList.length = s.size := by simp
      rw [pl.take_all s k (by omega)] at HC hown
      go_wp2_with (at_builtin; refine app_str (w := w) (s.data.toList.drop fr) rfl _ _ rfl rfl w.heap.size hown rfl (by rw [pl.extract_strV, ← hll, List.take_length]) (by omega) hb (Nat.le_refl _) ?_)
      intro v' w' hown' hb' _
      clear hown hb
      go_wp2
      go_ret
      exact ⟨_, rfl, by rw [pl.split, HC.out]; exact hown', hb'⟩

end Go.Proofs.YtfkohahlpfejbaaDoor
