/-
  WALKS: lastIndexByteString, splitHostZone, SplitHostPort, works.
-/
import Derived.Test.YtabeklpllphiaaaIdx
import Derived.Test.YtabeklpllphiaaaPlHost
namespace Go.Proofs.Ytabeklpllphiaaa
open Go.RowKit

theorem ret_str2 {a b c d : ByteArray} (h1 : a = c) (h2 : b = d) : Ending.returned (.tuple #[.string a, .string b]) = .returned (.tuple #[.string c, .string d]) := by rw [h1, h2]

set_option maxHeartbeats 400000 in
theorem lidx_any (s : ByteArray) (c : Int) (w : World) (hs : s.size ≤ maxLen) :
    Calls Try.prog 45 #[.string s, .int .u8 c] w fun e w' => e = .returned (.int .i64 (pl.lidx s.data.toList c)) ∧ w = w' := by
  unfold maxLen at hs
  have hl : s.data.toList.length = s.size := by simp
  go_enter Try.func45, Try.ntmps45
  go_wp2
  go_loop [5] (fun i => ∃ k : Nat, k ≤ s.size ∧ i = .int .i64 ((k : Int) - 1) ∧ ∀ x ∈ s.data.toList.drop k, pl.isB c x = false) (fun i => (intOf i + 1).toNat)
  case atStart => exact ⟨s.size, Nat.le_refl _, by first | rfl | go_num, by rw [List.drop_of_length_le (by omega)]; simp⟩
  case round =>
    obtain ⟨k, hk, rfl, hn⟩ := hrel
    have HN := Lib.hid hn
    clear hn
    rcases k with _ | k
    · have hE := Lib.hid (pl.lidx_none s.data.toList c (by simpa using HN.out))
      go_wp2
      go_ret
      exact ⟨ret_int hE.out.symm, rfl⟩
    · have hlt : k < s.size := by omega
      have e1 : ((k + 1 : Nat) : Int) - 1 = (k : Int) := by omega
      rw [e1]
      go_wp2
      · go_ret
        exact ⟨ret_int (pl.lidx_hit s c k hlt (by assumption) HN.out).symm, rfl⟩
      · go_round
        case rel => exact ⟨k, by omega, by first | rfl | go_num, pl.none_pred s c k hlt HN.out (by assumption)⟩
        case measure => simp [intOf]

/-- an error of New -/
theorem new_err (s : ByteArray) (w : World) :
    Calls Try.prog 40 #[.string s] w fun e w' => ∃ ad, e = .returned (.iface 118 (.pointer (some ad))) ∧ Below w.heap.size w w' := by
  go_enter Try.func40, Try.ntmps40
  go_wp2
  go_ret
  exact ⟨_, rfl, (Below.refl _ _).alloc (Nat.le_refl _) _⟩

/-- what an error of an address returns -/
def ErrHP (w : World) (e : Ending) (w' : World) : Prop := ∃ ad, e = .returned (.tuple #[.string ⟨#[]⟩, .string ⟨#[]⟩, .iface 118 (.pointer (some ad))]) ∧ Below w.heap.size w w'

theorem addr_err (s t : ByteArray) (w : World) :
    Calls Try.prog 44 #[.string s, .string t] w (ErrHP w) := by
  go_enter Try.func44, Try.ntmps44
  go_wp2_with (go_at_call 40; refine (new_err _ _).mono ?_; rintro e w' ⟨ad, rfl, hb⟩)
  go_ret3
  exact ⟨_, rfl, hb⟩

set_option maxRecDepth 100000 in
set_option maxHeartbeats 1000000 in
/-- no colon -/
theorem shp_a (s : ByteArray) (w : World) (hs : s.size ≤ 17592186044416) (h1 : pl.lidx s.data.toList 58 < 0) :
    Calls Try.prog 36 #[.string s] w (ErrHP w) := by
  go_enter Try.func36, Try.ntmps36
  go_wp2_with (first | (go_at_call 45; refine (lidx_any _ _ _ (by unfold maxLen; omega)).mono ?_; rintro e w' ⟨rfl, rfl⟩) | (go_at_call 44; refine (addr_err _ _ _).mono ?_; rintro e w' ⟨ad, rfl, hb⟩))
  go_ret3
  exact ⟨_, rfl, hb⟩

theorem idx_val (s : ByteArray) (c : Int) (i : Int) (w : World) (h : pl.idx s.data.toList c = i) (hs : s.size ≤ 17592186044416) :
    Calls Try.prog 46 #[.string s, .int .u8 c] w fun e w' => e = .returned (.int .i64 i) ∧ w = w' := by
  rw [← h]; exact idx_any s c w (by unfold maxLen; omega)
theorem lidx_val (s : ByteArray) (c : Int) (i : Int) (w : World) (h : pl.lidx s.data.toList c = i) (hs : s.size ≤ 17592186044416) :
    Calls Try.prog 45 #[.string s, .int .u8 c] w fun e w' => e = .returned (.int .i64 i) ∧ w = w' := by
  rw [← h]; exact lidx_any s c w (by unfold maxLen; omega)

/-- what a host and a port return -/
def OkHP (h p : ByteArray) (w : World) (e : Ending) (w' : World) : Prop := e = .returned (.tuple #[.string h, .string p, .nilIface]) ∧ w = w'

set_option maxRecDepth 100000 in
set_option maxHeartbeats 1000000 in
/-- no closing bracket -/
theorem shp_b1 (s : ByteArray) (w : World) (hs : s.size ≤ 17592186044416) (i : Nat) (hi : i < s.size) (HI : Hid (pl.lidx s.data.toList 58 = (i : Int))) (hbr : (((s[0]'(by omega)).toNat : Int) == 91) = true) (q : Int) (hq : q < 0) (H1 : Hid (pl.idx s.data.toList 93 = q)) :
    Calls Try.prog 36 #[.string s] w (ErrHP w) := by
  have hpos : 0 < s.size := by omega
  go_enter Try.func36, Try.ntmps36
  go_wp2_with (first | (go_at_call 45; refine (lidx_val s 58 i w HI.out hs).mono ?_; rintro e w' ⟨rfl, rfl⟩) | (go_at_call 44; refine (addr_err _ _ _).mono ?_; rintro e w' ⟨ad, rfl, hb⟩) | (go_at_call 46; ((with_reducible refine (idx_val _ _ _ _ H1.out (by first | omega | (simp; omega))).mono ?_); rintro e w' ⟨rfl, rfl⟩)))
  all_goals go_ret3
  all_goals exact ⟨_, rfl, hb⟩

set_option maxRecDepth 100000 in
set_option maxHeartbeats 1000000 in
/-- nothing behind the closing bracket -/
theorem shp_b2 (s : ByteArray) (w : World) (hs : s.size ≤ 17592186044416) (i : Nat) (hi : i < s.size) (HI : Hid (pl.lidx s.data.toList 58 = (i : Int))) (hbr : (((s[0]'(by omega)).toNat : Int) == 91) = true) (q : Nat) (H1 : Hid (pl.idx s.data.toList 93 = (q : Int))) (hq : q + 1 = s.size) :
    Calls Try.prog 36 #[.string s] w (ErrHP w) := by
  have hpos : 0 < s.size := by omega
  have hq2 : (((q : Int) + 1) == (s.size : Int)) = true := by rw [beq_iff_eq]; omega
  have hq3 : q + 1 ≤ s.size := by omega
  clear hq
  go_enter Try.func36, Try.ntmps36
  go_wp2_with (first | (go_at_call 45; refine (lidx_val s 58 i w HI.out hs).mono ?_; rintro e w' ⟨rfl, rfl⟩) | (go_at_call 44; refine (addr_err _ _ _).mono ?_; rintro e w' ⟨ad, rfl, hb⟩) | (go_at_call 46; ((with_reducible refine (idx_val _ _ _ _ H1.out (by first | omega | (simp; omega))).mono ?_); rintro e w' ⟨rfl, rfl⟩)))
  all_goals go_ret3
  all_goals exact ⟨_, rfl, hb⟩

set_option maxRecDepth 100000 in
set_option maxHeartbeats 1000000 in
/-- something else behind the closing bracket -/
theorem shp_b3 (s : ByteArray) (w : World) (hs : s.size ≤ 17592186044416) (i : Nat) (hi : i < s.size) (HI : Hid (pl.lidx s.data.toList 58 = (i : Int))) (hbr : (((s[0]'(by omega)).toNat : Int) == 91) = true) (q : Nat) (H1 : Hid (pl.idx s.data.toList 93 = (q : Int))) (hq : q + 1 < s.size) (hqi : (((q : Int) + 1) == (i : Int)) = false) :
    Calls Try.prog 36 #[.string s] w (ErrHP w) := by
  have hpos : 0 < s.size := by omega
  have hq2 : (((q : Int) + 1) == (s.size : Int)) = false := by rw [beq_eq_false_iff_ne]; omega
  go_enter Try.func36, Try.ntmps36
  go_wp2_with (first | (go_at_call 45; refine (lidx_val s 58 i w HI.out hs).mono ?_; rintro e w' ⟨rfl, rfl⟩) | (go_at_call 44; refine (addr_err _ _ _).mono ?_; rintro e w' ⟨ad, rfl, hb⟩) | (go_at_call 46; ((with_reducible refine (idx_val _ _ _ _ H1.out (by first | omega | (simp; omega))).mono ?_); rintro e w' ⟨rfl, rfl⟩)))
  all_goals go_ret3
  all_goals exact ⟨_, rfl, hb⟩

set_option maxRecDepth 100000 in
set_option maxHeartbeats 1000000 in
/-- an opening bracket behind the first -/
theorem shp_b4 (s : ByteArray) (w : World) (hs : s.size ≤ 17592186044416) (i : Nat) (hi : i < s.size) (HI : Hid (pl.lidx s.data.toList 58 = (i : Int))) (hbr : (((s[0]'(by omega)).toNat : Int) == 91) = true) (q : Nat) (H1 : Hid (pl.idx s.data.toList 93 = (q : Int))) (hq : q + 1 < s.size) (hqi : (((q : Int) + 1) == (i : Int)) = true) (j2 : Int) (H2 : Hid (pl.idx (s.extract 1 s.size).data.toList 91 = j2)) (hj2 : 0 ≤ j2) :
    Calls Try.prog 36 #[.string s] w (ErrHP w) := by
  have hpos : 0 < s.size := by omega
  have hq2 : (((q : Int) + 1) == (s.size : Int)) = false := by rw [beq_eq_false_iff_ne]; omega
  have hq3 : 1 ≤ q := by
    rcases q with _ | q
    · exfalso
      have := pl.idx_at s 0 93 H1.out hpos
      rw [beq_iff_eq] at hbr
      omega
    · omega
  go_enter Try.func36, Try.ntmps36
  go_wp2_with (first | (go_at_call 45; refine (lidx_val s 58 i w HI.out hs).mono ?_; rintro e w' ⟨rfl, rfl⟩) | (go_at_call 44; refine (addr_err _ _ _).mono ?_; rintro e w' ⟨ad, rfl, hb⟩) | (go_at_call 46; ((with_reducible refine (idx_val _ _ _ _ H1.out (by first | omega | (simp; omega))).mono ?_); rintro e w' ⟨rfl, rfl⟩)) | (go_at_call 46; ((with_reducible refine (idx_val _ _ _ _ H2.out (by first | omega | (simp; omega))).mono ?_); rintro e w' ⟨rfl, rfl⟩)))
  all_goals go_ret3
  all_goals exact ⟨_, rfl, hb⟩

set_option maxRecDepth 100000 in
set_option maxHeartbeats 1000000 in
/-- a closing bracket behind the first -/
theorem shp_b5 (s : ByteArray) (w : World) (hs : s.size ≤ 17592186044416) (i : Nat) (hi : i < s.size) (HI : Hid (pl.lidx s.data.toList 58 = (i : Int))) (hbr : (((s[0]'(by omega)).toNat : Int) == 91) = true) (q : Nat) (H1 : Hid (pl.idx s.data.toList 93 = (q : Int))) (hq : q + 1 < s.size) (hqi : (((q : Int) + 1) == (i : Int)) = true) (j2 : Int) (H2 : Hid (pl.idx (s.extract 1 s.size).data.toList 91 = j2)) (hj2 : j2 < 0) (j3 : Int) (H3 : Hid (pl.idx (s.extract (q + 1) s.size).data.toList 93 = j3)) (hj3 : 0 ≤ j3) :
    Calls Try.prog 36 #[.string s] w (ErrHP w) := by
  have hpos : 0 < s.size := by omega
  have hq2 : (((q : Int) + 1) == (s.size : Int)) = false := by rw [beq_eq_false_iff_ne]; omega
  have hq3 : 1 ≤ q := by
    rcases q with _ | q
    · exfalso
      have := pl.idx_at s 0 93 H1.out hpos
      rw [beq_iff_eq] at hbr
      omega
    · omega
  go_enter Try.func36, Try.ntmps36
  go_wp2_with (first | (go_at_call 45; refine (lidx_val s 58 i w HI.out hs).mono ?_; rintro e w' ⟨rfl, rfl⟩) | (go_at_call 44; refine (addr_err _ _ _).mono ?_; rintro e w' ⟨ad, rfl, hb⟩) | (go_at_call 46; ((with_reducible refine (idx_val _ _ _ _ H1.out (by first | omega | (simp; omega))).mono ?_); rintro e w' ⟨rfl, rfl⟩)) | (go_at_call 46; ((with_reducible refine (idx_val _ _ _ _ H2.out (by first | omega | (simp; omega))).mono ?_); rintro e w' ⟨rfl, rfl⟩)) | (go_at_call 46; ((with_reducible refine (idx_val _ _ _ _ H3.out (by first | omega | (simp; omega))).mono ?_); rintro e w' ⟨rfl, rfl⟩)))
  all_goals go_ret3
  all_goals exact ⟨_, rfl, hb⟩

set_option maxRecDepth 100000 in
set_option maxHeartbeats 1000000 in
/-- a host in brackets -/
theorem shp_b6 (s : ByteArray) (w : World) (hs : s.size ≤ 17592186044416) (i : Nat) (hi : i < s.size) (HI : Hid (pl.lidx s.data.toList 58 = (i : Int))) (hbr : (((s[0]'(by omega)).toNat : Int) == 91) = true) (q : Nat) (H1 : Hid (pl.idx s.data.toList 93 = (q : Int))) (hq : q + 1 < s.size) (hqi : (((q : Int) + 1) == (i : Int)) = true) (j2 : Int) (H2 : Hid (pl.idx (s.extract 1 s.size).data.toList 91 = j2)) (hj2 : j2 < 0) (j3 : Int) (H3 : Hid (pl.idx (s.extract (q + 1) s.size).data.toList 93 = j3)) (hj3 : j3 < 0) :
    Calls Try.prog 36 #[.string s] w (OkHP (s.extract 1 q) (s.extract (i + 1) s.size) w) := by
  have hpos : 0 < s.size := by omega
  have hq2 : (((q : Int) + 1) == (s.size : Int)) = false := by rw [beq_eq_false_iff_ne]; omega
  have hq3 : 1 ≤ q := by
    rcases q with _ | q
    · exfalso
      have := pl.idx_at s 0 93 H1.out hpos
      rw [beq_iff_eq] at hbr
      omega
    · omega
  go_enter Try.func36, Try.ntmps36
  go_wp2_with (first | (go_at_call 45; refine (lidx_val s 58 i w HI.out hs).mono ?_; rintro e w' ⟨rfl, rfl⟩) | (go_at_call 44; refine (addr_err _ _ _).mono ?_; rintro e w' ⟨ad, rfl, hb⟩) | (go_at_call 46; ((with_reducible refine (idx_val _ _ _ _ H1.out (by first | omega | (simp; omega))).mono ?_); rintro e w' ⟨rfl, rfl⟩)) | (go_at_call 46; ((with_reducible refine (idx_val _ _ _ _ H2.out (by first | omega | (simp; omega))).mono ?_); rintro e w' ⟨rfl, rfl⟩)) | (go_at_call 46; ((with_reducible refine (idx_val _ _ _ _ H3.out (by first | omega | (simp; omega))).mono ?_); rintro e w' ⟨rfl, rfl⟩)))
  all_goals go_ret3
  all_goals exact ⟨rfl, rfl⟩

set_option maxRecDepth 100000 in
set_option maxHeartbeats 1000000 in
/-- two colons -/
theorem shp_c1 (s : ByteArray) (w : World) (hs : s.size ≤ 17592186044416) (i : Nat) (hi : i < s.size) (HI : Hid (pl.lidx s.data.toList 58 = (i : Int))) (hbr : (((s[0]'(by omega)).toNat : Int) == 91) = false) (k1 : Int) (H1 : Hid (pl.idx (s.extract 0 i).data.toList 58 = k1)) (h1 : 0 ≤ k1) :
    Calls Try.prog 36 #[.string s] w (ErrHP w) := by
  have hpos : 0 < s.size := by omega
  go_enter Try.func36, Try.ntmps36
  go_wp2_with (first | (go_at_call 45; refine (lidx_val s 58 i w HI.out hs).mono ?_; rintro e w' ⟨rfl, rfl⟩) | (go_at_call 44; refine (addr_err _ _ _).mono ?_; rintro e w' ⟨ad, rfl, hb⟩) | (go_at_call 46; ((with_reducible refine (idx_val _ _ _ _ H1.out (by first | omega | (simp; omega))).mono ?_); rintro e w' ⟨rfl, rfl⟩)))
  all_goals go_ret3
  all_goals exact ⟨_, rfl, hb⟩

set_option maxRecDepth 100000 in
set_option maxHeartbeats 1000000 in
/-- an opening bracket -/
theorem shp_c2 (s : ByteArray) (w : World) (hs : s.size ≤ 17592186044416) (i : Nat) (hi : i < s.size) (HI : Hid (pl.lidx s.data.toList 58 = (i : Int))) (hbr : (((s[0]'(by omega)).toNat : Int) == 91) = false) (k1 : Int) (H1 : Hid (pl.idx (s.extract 0 i).data.toList 58 = k1)) (h1 : k1 < 0) (k2 : Int) (H2 : Hid (pl.idx s.data.toList 91 = k2)) (h2 : 0 ≤ k2) :
    Calls Try.prog 36 #[.string s] w (ErrHP w) := by
  have hpos : 0 < s.size := by omega
  go_enter Try.func36, Try.ntmps36
  go_wp2_with (first | (go_at_call 45; refine (lidx_val s 58 i w HI.out hs).mono ?_; rintro e w' ⟨rfl, rfl⟩) | (go_at_call 44; refine (addr_err _ _ _).mono ?_; rintro e w' ⟨ad, rfl, hb⟩) | (go_at_call 46; ((with_reducible refine (idx_val _ _ _ _ H1.out (by first | omega | (simp; omega))).mono ?_); rintro e w' ⟨rfl, rfl⟩)) | (go_at_call 46; ((with_reducible refine (idx_val _ _ _ _ H2.out (by first | omega | (simp; omega))).mono ?_); rintro e w' ⟨rfl, rfl⟩)))
  all_goals go_ret3
  all_goals exact ⟨_, rfl, hb⟩

set_option maxRecDepth 100000 in
set_option maxHeartbeats 1000000 in
/-- a closing bracket -/
theorem shp_c3 (s : ByteArray) (w : World) (hs : s.size ≤ 17592186044416) (i : Nat) (hi : i < s.size) (HI : Hid (pl.lidx s.data.toList 58 = (i : Int))) (hbr : (((s[0]'(by omega)).toNat : Int) == 91) = false) (k1 : Int) (H1 : Hid (pl.idx (s.extract 0 i).data.toList 58 = k1)) (h1 : k1 < 0) (k2 : Int) (H2 : Hid (pl.idx s.data.toList 91 = k2)) (h2 : k2 < 0) (k3 : Int) (H3 : Hid (pl.idx s.data.toList 93 = k3)) (h3 : 0 ≤ k3) :
    Calls Try.prog 36 #[.string s] w (ErrHP w) := by
  have hpos : 0 < s.size := by omega
  go_enter Try.func36, Try.ntmps36
  go_wp2_with (first | (go_at_call 45; refine (lidx_val s 58 i w HI.out hs).mono ?_; rintro e w' ⟨rfl, rfl⟩) | (go_at_call 44; refine (addr_err _ _ _).mono ?_; rintro e w' ⟨ad, rfl, hb⟩) | (go_at_call 46; ((with_reducible refine (idx_val _ _ _ _ H1.out (by first | omega | (simp; omega))).mono ?_); rintro e w' ⟨rfl, rfl⟩)) | (go_at_call 46; ((with_reducible refine (idx_val _ _ _ _ H2.out (by first | omega | (simp; omega))).mono ?_); rintro e w' ⟨rfl, rfl⟩)) | (go_at_call 46; ((with_reducible refine (idx_val _ _ _ _ H3.out (by first | omega | (simp; omega))).mono ?_); rintro e w' ⟨rfl, rfl⟩)))
  all_goals go_ret3
  all_goals exact ⟨_, rfl, hb⟩

set_option maxRecDepth 100000 in
set_option maxHeartbeats 1000000 in
/-- a host without brackets -/
theorem shp_c4 (s : ByteArray) (w : World) (hs : s.size ≤ 17592186044416) (i : Nat) (hi : i < s.size) (HI : Hid (pl.lidx s.data.toList 58 = (i : Int))) (hbr : (((s[0]'(by omega)).toNat : Int) == 91) = false) (k1 : Int) (H1 : Hid (pl.idx (s.extract 0 i).data.toList 58 = k1)) (h1 : k1 < 0) (k2 : Int) (H2 : Hid (pl.idx s.data.toList 91 = k2)) (h2 : k2 < 0) (k3 : Int) (H3 : Hid (pl.idx s.data.toList 93 = k3)) (h3 : k3 < 0) :
    Calls Try.prog 36 #[.string s] w (OkHP (s.extract 0 i) (s.extract (i + 1) s.size) w) := by
  have hpos : 0 < s.size := by omega
  go_enter Try.func36, Try.ntmps36
  go_wp2_with (first | (go_at_call 45; refine (lidx_val s 58 i w HI.out hs).mono ?_; rintro e w' ⟨rfl, rfl⟩) | (go_at_call 44; refine (addr_err _ _ _).mono ?_; rintro e w' ⟨ad, rfl, hb⟩) | (go_at_call 46; ((with_reducible refine (idx_val _ _ _ _ H1.out (by first | omega | (simp; omega))).mono ?_); rintro e w' ⟨rfl, rfl⟩)) | (go_at_call 46; ((with_reducible refine (idx_val _ _ _ _ H2.out (by first | omega | (simp; omega))).mono ?_); rintro e w' ⟨rfl, rfl⟩)) | (go_at_call 46; ((with_reducible refine (idx_val _ _ _ _ H3.out (by first | omega | (simp; omega))).mono ?_); rintro e w' ⟨rfl, rfl⟩)))
  all_goals go_ret3
  all_goals exact ⟨rfl, rfl⟩

end Go.Proofs.Ytabeklpllphiaaa
