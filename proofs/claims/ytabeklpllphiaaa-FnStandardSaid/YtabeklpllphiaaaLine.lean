/-
  WALK: readLine.
-/
import Derived.Test.YtabeklpllphiaaaFields
import Derived.Test.YtabeklpllphiaaaPlHostLaw
namespace Go.Proofs.Ytabeklpllphiaaa
open Go.RowKit

def pl.lineK (l : List UInt8) : Nat := if pl.idx l 10 < 0 then l.length else (pl.idx l 10).toNat

theorem ret_sb {a b : ByteArray} {c : Bool} (h1 : a = b) : Ending.returned (.tuple #[.string a, .bool c]) = .returned (.tuple #[.string b, .bool c]) := by rw [h1]

set_option maxHeartbeats 400000 in
theorem rl_empty (g : Nat) (s : ByteArray) (w : World) (h : s.size = 0) (hc : w.cell? ⟨g, 0, none⟩ = some (.string s)) :
    Calls Try.prog 47 #[.pointer (some ⟨g, 0, none⟩)] w fun e w' => e = .returned (.tuple #[.string ⟨#[]⟩, .bool false]) ∧ w = w' := by
  go_enter Try.func47, Try.ntmps47
  go_wp2_with fail
  go_ret2
  exact ⟨rfl, rfl⟩

set_option maxHeartbeats 400000 in
theorem rl_any (g : Nat) (s : ByteArray) (w : World) (h : 0 < s.size) (hs : s.size ≤ 17592186044416) (hc : w.cell? ⟨g, 0, none⟩ = some (.string s)) (hf : w.frozen? ⟨g, 0, none⟩ = false) :
    Calls Try.prog 47 #[.pointer (some ⟨g, 0, none⟩)] w fun e w' =>
      e = .returned (.tuple #[.string ⟨(s.data.toList.take (pl.lineK s.data.toList)).toArray⟩, .bool true]) ∧ ∃ n, w' = (w.setCell ⟨g, 0, none⟩ (.string ⟨(s.data.toList.drop (pl.lineK s.data.toList + 1)).toArray⟩)).drewN n := by
  have hl : s.data.toList.length = s.size := by simp
  have h0 : ((s.size : Int) == 0) = false := by rw [beq_eq_false_iff_ne]; omega
  obtain ⟨I, hI⟩ : ∃ I, pl.idx s.data.toList 10 = I := ⟨_, rfl⟩
  by_cases h1 : I < 0
  · have hk : pl.lineK s.data.toList = s.size := by unfold pl.lineK; rw [hI, if_pos h1, hl]
    have HK := Lib.hid hk
    have HI := Lib.hid hI
    clear hk hl hI
    go_enter Try.func47, Try.ntmps47
    go_wp2_with (go_at_call 46; refine (idx_val' s 10 _ _ HI.out hs).mono ?_; rintro e w' ⟨rfl, rfl⟩)
    go_ret2
    have e1 : (⟨(List.take s.size s.data.toList).toArray⟩ : ByteArray) = s := pl.ba_ext (List.take_of_length_le (by simp))
    have e2 : (⟨(List.drop (s.size + 1) s.data.toList).toArray⟩ : ByteArray) = ⟨#[]⟩ := pl.ba_ext (by simp)
    rw [HK.out, e1, e2]
    exact ⟨rfl, 0, rfl⟩
  · obtain ⟨k, rfl⟩ : ∃ k : Nat, I = k := ⟨I.toNat, by omega⟩
    have hk : pl.lineK s.data.toList = k := by unfold pl.lineK; rw [hI, if_neg h1]; simp
    have hks := pl.idx_lt s.data.toList 10
    rw [hI, hl] at hks
    have hks' : (k : Int) < s.size := by omega
    have HK := Lib.hid hk
    have HI := Lib.hid hI
    clear hk hl hI h1 hks
    go_enter Try.func47, Try.ntmps47
    go_wp2_with (go_at_call 46; refine (idx_val' s 10 _ _ HI.out hs).mono ?_; rintro e w' ⟨rfl, rfl⟩)
    go_region
    go_wp2_with fail
    go_ret2
    rw [HK.out, ← pl.ext_take s k, ← pl.ext_drop s (k + 1)]
    exact ⟨rfl, 1, rfl⟩

end Go.Proofs.Ytabeklpllphiaaa
