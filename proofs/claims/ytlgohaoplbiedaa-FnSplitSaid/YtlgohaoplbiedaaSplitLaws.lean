/-
  WALKS: Cut, HostPort, the laws FnSplit, FnSplitJoined.
-/
import Derived.Test.YtlgohaoplbiedaaHost2
import Derived.Test.YtlgohaoplbiedaaPlHostLaw
namespace Go.Proofs.Ytlgohaoplbiedaa
open Go.RowKit

set_option maxHeartbeats 400000 in
theorem cut_sp (s : ByteArray) (c : Int) (w : World) (hs : s.size ≤ 17592186044416) :
    Calls Try.prog 43 #[.string s, .int .u8 c] w fun e w' => e = .returned (.tuple #[.string ⟨(pl.cutS s.data.toList c).1.toArray⟩, .string ⟨(pl.cutS s.data.toList c).2.1.toArray⟩, .bool (pl.cutS s.data.toList c).2.2]) ∧ ∃ n, w' = w.drewN n := by
  go_enter Try.func43, Try.ntmps43
  go_wp2
  go_loop [10] (fun i => ∃ k : Nat, k ≤ s.size ∧ i = .int .i64 k ∧ ∀ x ∈ s.data.toList.take k, pl.isB c x = false) (fun i => s.size - (intOf i).toNat)
  case atStart => exact ⟨0, Nat.zero_le _, rfl, by simp⟩
  case round =>
    obtain ⟨k, hk, rfl, hn⟩ := hrel
    have HN := Lib.hid hn
    clear hn
    by_cases hlt : k < s.size
    · go_wp2
      · have hc : (↑s[k].toNat == c) = true := by assumption
        have E := Lib.hid (pl.cutS_hit s c k hlt HN.out hc)
        go_quiet (fail)
        go_wp2
        go_ret3
        rw [E.out]
        exact ⟨ret_hp (pl.ext_take s k) (pl.ext_drop s (k + 1)) rfl, _, rfl⟩
      · go_round
        case rel => exact ⟨k + 1, by omega, by go_num, pl.none_succ s c k hlt HN.out (by assumption)⟩
        case measure => simp [intOf]; omega
    · have E := Lib.hid (pl.cutS_miss s.data.toList c (pl.none_all s c k (by omega) HN.out))
      go_wp2
      go_ret3
      rw [E.out]
      exact ⟨ret_hp (Lib.mk_data s).symm rfl rfl, 0, rfl⟩

theorem cut_val (s A B : ByteArray) (c : Int) (b : Bool) (w : World) (hs : s.size ≤ 17592186044416) (h : pl.cutS s.data.toList c = (A.data.toList, B.data.toList, b)) :
    Calls Try.prog 43 #[.string s, .int .u8 c] w fun e w' => e = .returned (.tuple #[.string A, .string B, .bool b]) ∧ ∃ n, w' = w.drewN n := by
  refine (cut_sp s c w hs).mono fun e w' ⟨he, hw⟩ => ⟨?_, hw⟩
  rw [he, h]

theorem has_val (s t : ByteArray) (b : Bool) (w : World) (hs : s.size ≤ 17592186044416) (ht : t.size ≤ 17592186044416) (h : pl.has s.data.toList t.data.toList = b) :
    Calls Try.prog 24 #[.string s, .string t] w fun e w' => e = .returned (.bool b) ∧ ∃ n, w' = w.drewN n := by
  rw [← h]; exact has_any s t w hs ht

/-- what HostPort returns -/
def HPsp (A B : ByteArray) (b : Bool) (w : World) (e : Ending) (w' : World) : Prop := e = .returned (.tuple #[.string A, .string B, .bool b]) ∧ ∃ n, w' = w.drewN n

set_option maxHeartbeats 1000000 in
theorem hps_plain (s A B : ByteArray) (b x y : Bool) (w : World) (hs : s.size ≤ 17592186044416) (hA : A.size ≤ 17592186044416) (hB : B.size ≤ 17592186044416)
    (h0 : s.toList.isEmpty = true ∨ (∃ h : 0 < s.size, s.toList.isEmpty = false ∧ ((s[0].toNat : Int) == 91) = false))
    (HC : Hid (pl.cutS s.data.toList 58 = (A.data.toList, B.data.toList, b))) (HX : Hid (pl.has A.data.toList [91, 93] = x)) (HY : Hid (pl.has B.data.toList [58, 91, 93] = y)) :
    Calls Try.prog 21 #[.string s] w (HPsp A B (b && !x && !y) w) := by
  rcases h0 with h1 | ⟨h2, h1, h3⟩
  all_goals rcases b with _ | _
  all_goals rcases x with _ | _
  all_goals rcases y with _ | _
  all_goals
    go_enter Try.func21, Try.ntmps21
    go_wp2_with (first | (go_at_call 43; ((with_reducible refine (cut_val _ _ _ _ _ _ (by first | omega | (simp; omega)) HC.out).mono ?_); rintro e w' ⟨rfl, n, rfl⟩)) | (go_at_call 24; ((with_reducible refine (has_val _ _ _ _ (by first | omega | (simp; omega)) (by simp [ByteArray.size]) HX.out).mono ?_); rintro e w' ⟨rfl, n, rfl⟩)) | (go_at_call 24; ((with_reducible refine (has_val _ _ _ _ (by first | omega | (simp; omega)) (by simp [ByteArray.size]) HY.out).mono ?_); rintro e w' ⟨rfl, n, rfl⟩)))
  all_goals go_ret3
  all_goals exact ⟨rfl, _, rfl⟩

set_option maxHeartbeats 1000000 in
theorem hps_br (s A B : ByteArray) (b x y : Bool) (w : World) (hs : s.size ≤ 17592186044416) (hA : A.size ≤ 17592186044416) (hB : B.size ≤ 17592186044416)
    (hpos : 0 < s.size) (h1 : s.toList.isEmpty = false) (h2 : ((s[0].toNat : Int) == 91) = true)
    (HC : Hid (pl.cutS (s.extract 1 s.size).data.toList 93 = (A.data.toList, B.data.toList, b))) (HX : Hid (pl.has A.data.toList [91] = x)) (HY : Hid (pl.has (B.extract 1 B.size).data.toList [58, 91, 93] = y))
    (hc : b = false ∨ (b = true ∧ B.toList.isEmpty = true) ∨ (b = true ∧ B.toList.isEmpty = false ∧ ∃ h : 0 < B.size, ((B[0].toNat : Int) != 58) = true) ∨ (b = true ∧ B.toList.isEmpty = false ∧ (∃ h : 0 < B.size, ((B[0].toNat : Int) != 58) = false) ∧ (x = true ∨ (x = false ∧ y = true)))) :
    Calls Try.prog 21 #[.string s] w (HPsp ⟨#[]⟩ ⟨#[]⟩ false w) := by
  rcases hc with rfl | ⟨rfl, h3⟩ | ⟨rfl, h3, h4, h5⟩ | ⟨rfl, h3, ⟨h4, h5⟩, rfl | ⟨rfl, rfl⟩⟩
  all_goals
    go_enter Try.func21, Try.ntmps21
    go_wp2_with (first | (go_at_call 43; ((with_reducible refine (cut_val _ _ _ _ _ _ (by first | omega | (simp; omega)) HC.out).mono ?_); rintro e w' ⟨rfl, n, rfl⟩)) | (go_at_call 24; ((with_reducible refine (has_val _ _ _ _ (by first | omega | (simp; omega)) (by simp [ByteArray.size]) HX.out).mono ?_); rintro e w' ⟨rfl, n, rfl⟩)) | (go_at_call 24; ((with_reducible refine (has_val _ _ _ _ (by first | omega | (simp; omega)) (by simp [ByteArray.size]) HY.out).mono ?_); rintro e w' ⟨rfl, n, rfl⟩)))
  all_goals go_ret3
  all_goals exact ⟨rfl, _, rfl⟩

set_option maxHeartbeats 1000000 in
theorem hps_ok (s A B : ByteArray) (w : World) (hs : s.size ≤ 17592186044416) (hA : A.size ≤ 17592186044416) (hB : B.size ≤ 17592186044416)
    (hpos : 0 < s.size) (h1 : s.toList.isEmpty = false) (h2 : ((s[0].toNat : Int) == 91) = true)
    (HC : Hid (pl.cutS (s.extract 1 s.size).data.toList 93 = (A.data.toList, B.data.toList, true))) (HX : Hid (pl.has A.data.toList [91] = false)) (HY : Hid (pl.has (B.extract 1 B.size).data.toList [58, 91, 93] = false))
    (h3 : B.toList.isEmpty = false) (h4 : 0 < B.size) (h5 : ((B[0].toNat : Int) != 58) = false) :
    Calls Try.prog 21 #[.string s] w (HPsp A (B.extract 1 B.size) true w) := by
  go_enter Try.func21, Try.ntmps21
  go_wp2_with (first | (go_at_call 43; ((with_reducible refine (cut_val _ _ _ _ _ _ (by first | omega | (simp; omega)) HC.out).mono ?_); rintro e w' ⟨rfl, n, rfl⟩)) | (go_at_call 24; ((with_reducible refine (has_val _ _ _ _ (by first | omega | (simp; omega)) (by simp [ByteArray.size]) HX.out).mono ?_); rintro e w' ⟨rfl, n, rfl⟩)) | (go_at_call 24; ((with_reducible refine (has_val _ _ _ _ (by first | omega | (simp; omega)) (by simp [ByteArray.size]) HY.out).mono ?_); rintro e w' ⟨rfl, n, rfl⟩)))
  go_quiet (fail)
  go_wp2
  go_ret3
  exact ⟨rfl, _, World.drewN_drewN ..⟩

end Go.Proofs.Ytlgohaoplbiedaa
