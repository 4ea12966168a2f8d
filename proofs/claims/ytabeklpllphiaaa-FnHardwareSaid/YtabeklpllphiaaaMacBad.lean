/-
  WALK: ParseMAC: what has no fitting length.
-/
import Derived.Test.YtabeklpllphiaaaMacBase
import Derived.Deep.RegionWith
import Derived.ScopeJumps
import Derived.IntWalk
import Derived.WalkMore
namespace Go.Proofs.Ytabeklpllphiaaa
open Go.RowKit

set_option maxRecDepth 100000 in
set_option maxHeartbeats 4000000 in
theorem mac_short (s : ByteArray) (w : World) (hz : s.size < 12) :
    Calls Try.prog 31 #[.string s] w fun e w' => MacRes w w' e none := by
  go_enter Try.func31, Try.ntmps31
  go_wp2_with fail
  refine wp_scope_jumps 0 (macJ w none) (fun _ _ => 0) rfl ?_ ?_
  · go_wp2_with fail
    go_step3
    exact ⟨rfl, rfl, Below.refl _ _, _, rfl, rfl⟩
  · rintro a' w' ⟨hr, hb, t, rfl, ht⟩
    go_wp2_with (go_at_call 40; refine (new_err _ _).mono ?_; rintro e w' ⟨ad, rfl, hb'⟩)
    simp only [Exit.jump]
    go_ret2
    refine MacRes.no (t := 118) (ad := ad) rfl (hb.trans (hb'.mono hb.size)) ?_ ?_ <;> simp [Array.getD, ht]

set_option maxRecDepth 100000 in
set_option maxHeartbeats 4000000 in
theorem mac_bad1 (s : ByteArray) (c : UInt8) (w : World) (hz : 12 ≤ s.size) (hs : s.size ≤ 17592186044416) (hc : s[2] = c) (hcc : (c.toNat : Int) = 58 ∨ (c.toNat : Int) = 45) (hbad : ¬ ((s.size + 1) % 3 = 0 ∧ pl.ok ((s.size + 1) / 3) = true)) :
    Calls Try.prog 31 #[.string s] w fun e w' => MacRes w w' e none := by
  have hcb := UInt8.toNat_lt c
  by_cases hm : (s.size + 1) % 3 = 0
  · have hok : pl.ok ((s.size + 1) / 3) = false := by
      cases h : pl.ok ((s.size + 1) / 3) with
      | false => rfl
      | true => exact absurd ⟨hm, h⟩ hbad
    obtain ⟨N, hN⟩ : ∃ N, (s.size + 1) / 3 = N := ⟨_, rfl⟩
    rw [hN] at hok
    rcases pl.ok_cases N with ⟨h, _⟩ | ⟨_, h6, h8, h20⟩
    · rw [h] at hok; cases hok
    have g6 : ((N : Int) != 6) = true := by rw [bne_iff_ne]; omega
    have g8 : ((N : Int) != 8) = true := by rw [bne_iff_ne]; omega
    have g20 : ((N : Int) != 20) = true := by rw [bne_iff_ne]; omega
    have hm1 : ((s.size : Int) + 1) % 3 = 0 := by omega
    have hm2 : ((s.size : Int) + 1) / 3 = (N : Int) := by omega
    clear hbad hok hm hN h6 h8 h20
    rcases hcc with hcv | hcv
    all_goals
      go_enter Try.func31, Try.ntmps31
      go_wp2_with fail
      refine wp_scope_jumps 0 (macJ w none) (fun _ _ => 0) rfl ?_ ?_
      · go_wp2_with fail
        go_step3
        exact ⟨rfl, rfl, Below.refl _ _, _, rfl, rfl⟩
      · rintro a' w' ⟨hr, hb, t, rfl, ht⟩
        go_wp2_with (go_at_call 40; refine (new_err _ _).mono ?_; rintro e w' ⟨ad, rfl, hb'⟩)
        simp only [Exit.jump]
        go_ret2
        refine MacRes.no (t := 118) (ad := ad) rfl (hb.trans (hb'.mono hb.size)) ?_ ?_ <;> simp [Array.getD, ht]
  · have hm1 : (((s.size : Int) + 1) % 3 != 0) = true := by rw [bne_iff_ne]; omega
    clear hbad hm
    rcases hcc with hcv | hcv
    all_goals
      go_enter Try.func31, Try.ntmps31
      go_wp2_with fail
      refine wp_scope_jumps 0 (macJ w none) (fun _ _ => 0) rfl ?_ ?_
      · go_wp2_with fail
        go_step3
        exact ⟨rfl, rfl, Below.refl _ _, _, rfl, rfl⟩
      · rintro a' w' ⟨hr, hb, t, rfl, ht⟩
        go_wp2_with (go_at_call 40; refine (new_err _ _).mono ?_; rintro e w' ⟨ad, rfl, hb'⟩)
        simp only [Exit.jump]
        go_ret2
        refine MacRes.no (t := 118) (ad := ad) rfl (hb.trans (hb'.mono hb.size)) ?_ ?_ <;> simp [Array.getD, ht]

set_option maxRecDepth 100000 in
set_option maxHeartbeats 4000000 in
theorem mac_bad2 (s : ByteArray) (c d : UInt8) (w : World) (hz : 12 ≤ s.size) (hs : s.size ≤ 17592186044416) (hc : s[2] = c) (hc58 : ((c.toNat : Int) == 58) = false) (hc45 : ((c.toNat : Int) == 45) = false) (hd : s[4] = d) (hd46 : (d.toNat : Int) = 46) (hbad : ¬ ((s.size + 1) % 5 = 0 ∧ pl.ok (2 * (s.size + 1) / 5) = true)) :
    Calls Try.prog 31 #[.string s] w fun e w' => MacRes w w' e none := by
  have hcb := UInt8.toNat_lt c
  have hdb := UInt8.toNat_lt d
  by_cases hm : (s.size + 1) % 5 = 0
  · have hok : pl.ok (2 * (s.size + 1) / 5) = false := by
      cases h : pl.ok (2 * (s.size + 1) / 5) with
      | false => rfl
      | true => exact absurd ⟨hm, h⟩ hbad
    obtain ⟨N, hN⟩ : ∃ N, 2 * (s.size + 1) / 5 = N := ⟨_, rfl⟩
    rw [hN] at hok
    rcases pl.ok_cases N with ⟨h, _⟩ | ⟨_, h6, h8, h20⟩
    · rw [h] at hok; cases hok
    have g6 : ((N : Int) != 6) = true := by rw [bne_iff_ne]; omega
    have g8 : ((N : Int) != 8) = true := by rw [bne_iff_ne]; omega
    have g20 : ((N : Int) != 20) = true := by rw [bne_iff_ne]; omega
    have hm1 : ((s.size : Int) + 1) % 5 = 0 := by omega
    have hm2 : 2 * ((s.size : Int) + 1) / 5 = (N : Int) := by omega
    clear hbad hok hm hN h6 h8 h20
    go_enter Try.func31, Try.ntmps31
    go_wp2_with fail
    refine wp_scope_jumps 0 (macJ w none) (fun _ _ => 0) rfl ?_ ?_
    · go_wp2_with fail
      go_step3
      exact ⟨rfl, rfl, Below.refl _ _, _, rfl, rfl⟩
    · rintro a' w' ⟨hr, hb, t, rfl, ht⟩
      go_wp2_with (go_at_call 40; refine (new_err _ _).mono ?_; rintro e w' ⟨ad, rfl, hb'⟩)
      simp only [Exit.jump]
      go_ret2
      refine MacRes.no (t := 118) (ad := ad) rfl (hb.trans (hb'.mono hb.size)) ?_ ?_ <;> simp [Array.getD, ht]
  · have hm1 : (((s.size : Int) + 1) % 5 != 0) = true := by rw [bne_iff_ne]; omega
    clear hbad hm
    go_enter Try.func31, Try.ntmps31
    go_wp2_with fail
    refine wp_scope_jumps 0 (macJ w none) (fun _ _ => 0) rfl ?_ ?_
    · go_wp2_with fail
      go_step3
      exact ⟨rfl, rfl, Below.refl _ _, _, rfl, rfl⟩
    · rintro a' w' ⟨hr, hb, t, rfl, ht⟩
      go_wp2_with (go_at_call 40; refine (new_err _ _).mono ?_; rintro e w' ⟨ad, rfl, hb'⟩)
      simp only [Exit.jump]
      go_ret2
      refine MacRes.no (t := 118) (ad := ad) rfl (hb.trans (hb'.mono hb.size)) ?_ ?_ <;> simp [Array.getD, ht]

set_option maxRecDepth 100000 in
set_option maxHeartbeats 4000000 in
theorem mac_bad3 (s : ByteArray) (c d : UInt8) (w : World) (hz : 12 ≤ s.size) (hs : s.size ≤ 17592186044416) (hc : s[2] = c) (hc58 : ((c.toNat : Int) == 58) = false) (hc45 : ((c.toNat : Int) == 45) = false) (hd : s[4] = d) (hd46 : ((d.toNat : Int) == 46) = false) (hbad : ¬ (s.size % 2 = 0 ∧ pl.ok (s.size / 2) = true)) :
    Calls Try.prog 31 #[.string s] w fun e w' => MacRes w w' e none := by
  have hcb := UInt8.toNat_lt c
  have hdb := UInt8.toNat_lt d
  by_cases hm : s.size % 2 = 0
  · have hok : pl.ok (s.size / 2) = false := by
      cases h : pl.ok (s.size / 2) with
      | false => rfl
      | true => exact absurd ⟨hm, h⟩ hbad
    obtain ⟨N, hN⟩ : ∃ N, s.size / 2 = N := ⟨_, rfl⟩
    rw [hN] at hok
    rcases pl.ok_cases N with ⟨h, _⟩ | ⟨_, h6, h8, h20⟩
    · rw [h] at hok; cases hok
    have g6 : ((N : Int) != 6) = true := by rw [bne_iff_ne]; omega
    have g8 : ((N : Int) != 8) = true := by rw [bne_iff_ne]; omega
    have g20 : ((N : Int) != 20) = true := by rw [bne_iff_ne]; omega
    have hm1 : (s.size : Int) % 2 = 0 := by omega
    have hm2 : (s.size : Int) / 2 = (N : Int) := by omega
    clear hbad hok hm hN h6 h8 h20
    go_enter Try.func31, Try.ntmps31
    go_wp2_with fail
    refine wp_scope_jumps 0 (macJ w none) (fun _ _ => 0) rfl ?_ ?_
    · go_wp2_with fail
      go_step3
      exact ⟨rfl, rfl, Below.refl _ _, _, rfl, rfl⟩
    · rintro a' w' ⟨hr, hb, t, rfl, ht⟩
      go_wp2_with (go_at_call 40; refine (new_err _ _).mono ?_; rintro e w' ⟨ad, rfl, hb'⟩)
      simp only [Exit.jump]
      go_ret2
      refine MacRes.no (t := 118) (ad := ad) rfl (hb.trans (hb'.mono hb.size)) ?_ ?_ <;> simp [Array.getD, ht]
  · have hm1 : ((s.size : Int) % 2 != 0) = true := by rw [bne_iff_ne]; omega
    clear hbad hm
    go_enter Try.func31, Try.ntmps31
    go_wp2_with fail
    refine wp_scope_jumps 0 (macJ w none) (fun _ _ => 0) rfl ?_ ?_
    · go_wp2_with fail
      go_step3
      exact ⟨rfl, rfl, Below.refl _ _, _, rfl, rfl⟩
    · rintro a' w' ⟨hr, hb, t, rfl, ht⟩
      go_wp2_with (go_at_call 40; refine (new_err _ _).mono ?_; rintro e w' ⟨ad, rfl, hb'⟩)
      simp only [Exit.jump]
      go_ret2
      refine MacRes.no (t := 118) (ad := ad) rfl (hb.trans (hb'.mono hb.size)) ?_ ?_ <;> simp [Array.getD, ht]

end Go.Proofs.Ytabeklpllphiaaa
