/-
  WALKS: Cut, HostPort, the laws FnSplit, FnSplitJoined.
-/
import Derived.Test.YtfkohahlpfejbaaDoorHost2
import Derived.Test.YtfkohahlpfejbaaDoorPlHostLaw
namespace Go.Proofs.YtfkohahlpfejbaaDoor
open Go.RowKit

set_option maxHeartbeats 400000 in
theorem cut_sp (s : ByteArray) (c : Int) (w : World) (hs : s.size ≤ 17592186044416) :
    Calls Tryd.prog 52 #[.string s, .int .u8 c] w fun e w' => e = .returned (.tuple #[.string ⟨(pl.cutS s.data.toList c).1.toArray⟩, .string ⟨(pl.cutS s.data.toList c).2.1.toArray⟩, .bool (pl.cutS s.data.toList c).2.2]) ∧ ∃ n, w' = w.drewN n := by
  go_enter Tryd.func52, Tryd.ntmps52
  go_wp2
  go_loop [10] (fun i => ∃ k : Nat, k ≤ s.size ∧ i = .int .i64 k ∧ ∀ x ∈ s.data.toList.take k, pl.isB c x = false) (fun i => s.size - (intOf i).toNat)
  case atStart => exact ⟨0, Nat.zero_le _, rfl, by simp⟩
  case round =>
    obtain ⟨k, hk, rfl, hn⟩ := hrel
    have HN := Lib.hid hn
    clear hn
    by_cases hlt : k < s.size
    · go_wp2
      · have hc : (↑s[k].toNat == c) = true := by assumption
        have E := Lib.hid (pl.cutS_hit s c k hlt HN.out hc)
        go_quiet (fail)
        go_wp2
        go_ret3
        rw [E.out]
        exact ⟨ret_hp (pl.ext_take s k) (pl.ext_drop s (k + 1)) rfl, _, rfl⟩
      · go_round
        case rel => exact ⟨k + 1, by omega, by go_num, pl.none_succ s c k hlt HN.out (by assumption)⟩
        case measure => simp [intOf]; omega
    · have E := Lib.hid (pl.cutS_miss s.data.toList c (pl.none_all s c k (by omega) HN.out))
      go_wp2
      go_ret3
      rw [E.out]
      exact ⟨ret_hp (Lib.mk_data s).symm rfl rfl, 0, rfl⟩

theorem cut_val (s A B : ByteArray) (c : Int) (b : Bool) (w : World) (hs : s.size ≤ 17592186044416) (h : pl.cutS s.data.toList c = (A.data.toList, B.data.toList, b)) :
    Calls Tryd.prog 52 #[.string s, .int .u8 c] w fun e w' => e = .returned (.tuple #[.string A, .string B, .bool b]) ∧ ∃ n, w' = w.drewN n := by
  refine (cut_sp s c w hs).mono fun e w' ⟨he, hw⟩ => ⟨?_, hw⟩
  rw [he, h]

theorem has_val (s t : ByteArray) (b : Bool) (w : World) (hs : s.size ≤ 17592186044416) (ht : t.size ≤ 17592186044416) (h : pl.has s.data.toList t.data.toList = b) :
    Calls Tryd.prog 35 #[.string s, .string t] w fun e w' => e = .returned (.bool b) ∧ ∃ n, w' = w.drewN n := by
  rw [← h]; exact has_any s t w hs ht

/-- what HostPort returns -/
def HPsp (A B : ByteArray) (b : Bool) (w : World) (e : Ending) (w' : World) : Prop := e = .returned (.tuple #[.string A, .string B, .bool b]) ∧ ∃ n, w' = w.drewN n

end Go.Proofs.YtfkohahlpfejbaaDoor
