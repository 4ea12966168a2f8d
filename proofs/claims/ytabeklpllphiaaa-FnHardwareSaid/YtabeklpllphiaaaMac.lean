/-
  WALKS: xtoi2; ParseMAC.
-/
import Derived.Test.YtabeklpllphiaaaMacT
import Derived.Test.YtabeklpllphiaaaPlMac2
import Derived.Test.YtabeklpllphiaaaHex
import Derived.Test.YtabeklpllphiaaaHost
import Derived.StillTailTactics
import Derived.Deep.DeepCutAuto
namespace Go.Proofs.Ytabeklpllphiaaa
open Go.RowKit

theorem xtoi_val (s : ByteArray) (n i : Nat) (k : Bool) (w : World) (hs : s.size ≤ 17592186044416) (h : pl.xt s.data.toList 0 0 = (n, i, k)) :
    Calls Try.prog 50 #[.string s] w fun e w' => e = .returned (.tuple #[.int .i64 n, .int .i64 i, .bool k]) ∧ w = w' := by
  have := xtoi_any s w hs
  rw [h] at this
  exact this

theorem ret_xb {a b : Int} {c d : Bool} (h1 : a = b) (h2 : c = d) : Ending.returned (.tuple #[.int .u8 a, .bool c]) = .returned (.tuple #[.int .u8 b, .bool d]) := by rw [h1, h2]

set_option maxHeartbeats 1000000 in
theorem x2_any (s : ByteArray) (e : UInt8) (w : World) (h2 : 2 ≤ s.size) (hs : s.size ≤ 17592186044416) :
    Calls Try.prog 39 #[.string s, .int .u8 e.toNat] w fun r w' => (∃ v : UInt8, r = .returned (.tuple #[.int .u8 v.toNat, .bool (pl.x2 s.data.toList e).isSome]) ∧ ∀ u, pl.x2 s.data.toList e = some u → v = u) ∧ w = w' := by
  have hh := pl.head2 s h2
  have hxs : (s.extract 0 2).size ≤ 17592186044416 := by simp; omega
  have hby := UInt8.toNat_lt e
  obtain ⟨P, hP⟩ : ∃ P, pl.x2 s.data.toList e = P := ⟨_, rfl⟩
  rw [hP]
  obtain ⟨D, hD⟩ : ∃ D, s.extract 0 2 = D := ⟨_, rfl⟩
  rw [hD] at hh hxs
  by_cases hbig : 2 < s.size
  · obtain ⟨c, hc⟩ : ∃ c, s[2] = c := ⟨_, rfl⟩
    rw [pl.x2_long s e hbig, hc] at hP
    have hcy := UInt8.toNat_lt c
    by_cases hce : c = e
    · rw [if_pos hce] at hP
      have hne : ((c.toNat : Int) != (e.toNat : Int)) = false := by rw [hce]; simp
      clear hce
      rcases pl.xt_pair s[0] s[1] with ⟨hn, v, i, k, hx, hi⟩ | ⟨u, hu, hx⟩
      · rw [hn] at hP
        subst hP
        rw [← hh] at hx
        have HX := Lib.hid hx
        have hvy := UInt8.toNat_lt v
        have hi2 : ((i : Int) == 2) = false := by rw [beq_eq_false_iff_ne]; omega
        clear hx hh hn hi
        rcases k with _ | _
        all_goals
          go_enter Try.func39, Try.ntmps39
          go_wp2_with (go_at_call 50; refine (xtoi_val _ _ _ _ _ hxs HX.out).mono ?_; rintro e w' ⟨rfl, rfl⟩)
          go_ret2
          exact ⟨⟨v, ret_xb (by first | rfl | omega) rfl, fun u hu => by cases hu⟩, rfl⟩
      · rw [hu] at hP
        subst hP
        rw [← hh] at hx
        have HX := Lib.hid hx
        have hvy := UInt8.toNat_lt u
        clear hx hh hu
        go_enter Try.func39, Try.ntmps39
        go_wp2_with (go_at_call 50; refine (xtoi_val _ _ _ _ _ hxs HX.out).mono ?_; rintro e w' ⟨rfl, rfl⟩)
        go_ret2
        exact ⟨⟨u, ret_xb (by first | rfl | omega) rfl, fun u' hu => by injection hu⟩, rfl⟩
    · rw [if_neg hce] at hP
      subst hP
      have hne : ((c.toNat : Int) != (e.toNat : Int)) = true := by
        rw [bne_iff_ne]
        intro h
        exact hce (UInt8.toNat_inj.1 (by omega))
      clear hce hh
      go_enter Try.func39, Try.ntmps39
      go_wp2_with fail
      go_ret2
      exact ⟨⟨0, ret_xb rfl rfl, fun u hu => by cases hu⟩, rfl⟩
  · have hs2 : s.size = 2 := by omega
    rw [pl.x2_short s e hs2] at hP
    rcases pl.xt_pair s[0] s[1] with ⟨hn, v, i, k, hx, hi⟩ | ⟨u, hu, hx⟩
    · rw [hn] at hP
      subst hP
      rw [← hh] at hx
      have HX := Lib.hid hx
      have hvy := UInt8.toNat_lt v
      have hi2 : ((i : Int) == 2) = false := by rw [beq_eq_false_iff_ne]; omega
      clear hx hh hn hi
      rcases k with _ | _
      all_goals
        go_enter Try.func39, Try.ntmps39
        go_wp2_with (go_at_call 50; refine (xtoi_val _ _ _ _ _ hxs HX.out).mono ?_; rintro e w' ⟨rfl, rfl⟩)
        go_ret2
        exact ⟨⟨v, ret_xb (by first | rfl | omega) rfl, fun u hu => by cases hu⟩, rfl⟩
    · rw [hu] at hP
      subst hP
      rw [← hh] at hx
      have HX := Lib.hid hx
      have hvy := UInt8.toNat_lt u
      clear hx hh hu
      go_enter Try.func39, Try.ntmps39
      go_wp2_with (go_at_call 50; refine (xtoi_val _ _ _ _ _ hxs HX.out).mono ?_; rintro e w' ⟨rfl, rfl⟩)
      go_ret2
      exact ⟨⟨u, ret_xb (by first | rfl | omega) rfl, fun u' hu => by injection hu⟩, rfl⟩

theorem x2_no (s : ByteArray) (e : UInt8) (E : Int) (w : World) (h2 : 2 ≤ s.size) (hs : s.size ≤ 17592186044416) (hE : (e.toNat : Int) = E) (h : pl.x2 s.data.toList e = none) :
    Calls Try.prog 39 #[.string s, .int .u8 E] w fun r w' => (∃ v : UInt8, r = .returned (.tuple #[.int .u8 v.toNat, .bool false])) ∧ w = w' := by
  subst hE
  refine (x2_any s e w h2 hs).mono fun r w' ⟨⟨v, h1, _⟩, h3⟩ => ⟨⟨v, ?_⟩, h3⟩
  rw [h1, h]; rfl

theorem x2_yes (s : ByteArray) (e u : UInt8) (E : Int) (w : World) (h2 : 2 ≤ s.size) (hs : s.size ≤ 17592186044416) (hE : (e.toNat : Int) = E) (h : pl.x2 s.data.toList e = some u) :
    Calls Try.prog 39 #[.string s, .int .u8 E] w fun r w' => r = .returned (.tuple #[.int .u8 u.toNat, .bool true]) ∧ w = w' := by
  subst hE
  refine (x2_any s e w h2 hs).mono fun r w' ⟨⟨v, h1, h4⟩, h3⟩ => ⟨?_, h3⟩
  rw [h1, h, h4 u h]; rfl

end Go.Proofs.Ytabeklpllphiaaa
