/-
  WALK: ParseMAC: groups of two digits, 20 bytes.
-/
import Derived.Test.YtabeklpllphiaaaMacBase
import Derived.Deep.RegionWith
import Derived.ScopeJumps
import Derived.IntWalk
import Derived.WalkMore
namespace Go.Proofs.Ytabeklpllphiaaa
open Go.RowKit

set_option maxRecDepth 100000 in
set_option maxHeartbeats 4000000 in
theorem mac_a20 (s : ByteArray) (c : UInt8) (w : World) (hz : s.size = 59) (hc : s[2]'(by omega) = c) (hcc : (c.toNat : Int) = 58 ∨ (c.toNat : Int) = 45) :
    Calls Try.prog 31 #[.string s] w fun e w' => MacRes w w' e (pl.g1 c 20 s.data.toList) := by
  obtain ⟨i0, hi, hz0, hz1, hz2⟩ := info_parts infoByte
  obtain ⟨R, hR⟩ : ∃ R, pl.g1 c 20 s.data.toList = R := ⟨_, rfl⟩
  rw [hR]
  have HR := Lib.hid hR
  clear hR
  rcases hcc with hcv | hcv
  · go_enter Try.func31, Try.ntmps31
    go_wp2_with fail
    refine wp_scope_jumps 0 (macJ w R) (fun _ _ => 0) rfl ?_ ?_
    · go_wp2_with (at_make; refine wpList_make_full _ rfl _ _ 71 rfl w.heap.size 5 i0 (.int .u8 0) 1 Try.underlying71 hi hz0 hz1 _ _ _ _ 20 rfl rfl rfl rfl (by rw [hz2]; omega) (by unfold maxLen; omega) (Nat.le_refl _) ?_)
      intro w1 hown1 hg1
      have hbel1 : Below w.heap.size w w1 := (Below.refl _ _).grown hg1 (Nat.le_refl _) (fun k hk => by simp at hk)
      have hby1 := Byts.made hown1
      clear hown1 hg1
      go_wp2_with fail
      go_loopw [5, 6] (fun xv i wr => ∃ (k x : Nat) (acc : List UInt8), k ≤ 20 ∧ i = .int .i64 k ∧ xv = .int .i64 x ∧ Hid (x = 3 * k) ∧ x ≤ 59 + 1 ∧ (k < 20 → x + 2 ≤ 59) ∧ Hid (acc.length = k) ∧
          Byts wr w.heap.size (.slice (some ⟨w.heap.size, 0, none⟩) 20 20) (pl.rowOf acc 20) ∧ Below w.heap.size w wr ∧ Hid (R = (pl.g1 c (20 - k) (s.data.toList.drop (3 * k))).map (acc ++ ·))) (fun _ i _ => 20 - (intOf i).toNat)
      case atStart => exact ⟨0, 0, [], by omega, rfl, rfl, Lib.hid rfl, by omega, fun _ => by omega, Lib.hid rfl, by simpa [pl.rowOf] using hby1, hbel1, Lib.hid (by rw [← HR.out]; simp)⟩
      case round =>
        obtain ⟨k, x, acc, hk, rfl, rfl, HX, hx18, hx15, HA, hrow, hbel, HG⟩ := hrel
        by_cases hlt : k < 20
        · have hxb := hx15 hlt
          have hlen : (pl.rowOf acc 20).length = 20 := pl.rowOf_len acc 20 (by rw [HA.out]; omega)
          obtain ⟨old, hcell⟩ := hrow.cell hlen k hlt
          have hfr := hrow.frozen hlen k
          obtain ⟨D, hD⟩ : ∃ D, s.extract x s.size = D := ⟨_, rfl⟩
          have hDs : D.size = 59 - x := by rw [← hD, ByteArray.size_extract, hz]; omega
          have hDl : D.data.toList = s.data.toList.drop (3 * k) := by rw [← hD, pl.tail_of, HX.out]
          rw [hz] at hD
          have HDl := Lib.hid hDl
          have HL := Lib.hid hlen
          clear hx15 hlen hDl
          have hD2 : 2 ≤ D.size := by omega
          have hDm : D.size ≤ 17592186044416 := by omega
          clear hDs
          rcases hX : pl.x2 D.data.toList c with _ | u
          · have HN := Lib.hid hX
            clear hX
            go_wp2_with fail
            go_region_with (first | (go_at_call 39; refine (x2_no _ _ _ _ hD2 hDm hcv HN.out).mono ?_; rintro e w' ⟨⟨v, rfl⟩, rfl⟩))
            all_goals
              go_wp2_with fail
              go_step3
              exact ⟨rfl, pl.g1_fail c s.data.toList 20 k acc R hlt HG.out (by rw [← HDl.out]; exact HN.out), (hbel.setCell (Nat.le_refl _) _).drew, _, rfl, rfl⟩
          · have HN := Lib.hid hX
            clear hX
            go_wp2_with fail
            go_region_with (first | (go_at_call 39; refine (x2_yes _ _ _ _ _ hD2 hDm hcv HN.out).mono ?_; rintro e w' ⟨rfl, rfl⟩))
            all_goals
              go_wp2_with fail
              go_roundw
              case rel => exact ⟨k + 1, x + 3, acc ++ [u], by omega, by go_num, by go_num, Lib.hid (by rw [HX.out]; omega), by have := HX.out; omega, fun _ => by have := HX.out; omega, Lib.hid (by rw [List.length_append, HA.out]; rfl),
                by
                  have h := hrow.set HL.out k u
                  rw [show k = acc.length by rw [HA.out], pl.rowOf_set acc 20 u (by rw [HA.out]; exact hlt)] at h
                  rw [show k = acc.length by rw [HA.out]]
                  exact h, (hbel.setCell (Nat.le_refl _) _).drew, Lib.hid (pl.g1_step c u s.data.toList 20 k acc R hlt HG.out (by rw [← HDl.out]; exact HN.out))⟩
              case measure => simp [intOf]; omega
        · have hke : k = 20 := by omega
          subst hke
          go_wp2_with fail
          simp only [Exit.jump]
          go_ret2
          have hf := hrow
          rw [← HA.out, pl.rowOf_full] at hf
          exact MacRes.yes (pl.g1_end c s.data.toList 20 acc R HG.out) hbel (by rw [← HA.out]; exact hf)
    · rintro a' w' ⟨hr, hb, t, rfl, ht⟩
      go_wp2_with (go_at_call 40; refine (new_err _ _).mono ?_; rintro e w' ⟨ad, rfl, hb'⟩)
      simp only [Exit.jump]
      go_ret2
      refine MacRes.no (t := 118) (ad := ad) hr (hb.trans (hb'.mono hb.size)) ?_ ?_ <;> simp [Array.getD, ht]
  · go_enter Try.func31, Try.ntmps31
    go_wp2_with fail
    refine wp_scope_jumps 0 (macJ w R) (fun _ _ => 0) rfl ?_ ?_
    · go_wp2_with (at_make; refine wpList_make_full _ rfl _ _ 71 rfl w.heap.size 5 i0 (.int .u8 0) 1 Try.underlying71 hi hz0 hz1 _ _ _ _ 20 rfl rfl rfl rfl (by rw [hz2]; omega) (by unfold maxLen; omega) (Nat.le_refl _) ?_)
      intro w1 hown1 hg1
      have hbel1 : Below w.heap.size w w1 := (Below.refl _ _).grown hg1 (Nat.le_refl _) (fun k hk => by simp at hk)
      have hby1 := Byts.made hown1
      clear hown1 hg1
      go_wp2_with fail
      go_loopw [5, 6] (fun xv i wr => ∃ (k x : Nat) (acc : List UInt8), k ≤ 20 ∧ i = .int .i64 k ∧ xv = .int .i64 x ∧ Hid (x = 3 * k) ∧ x ≤ 59 + 1 ∧ (k < 20 → x + 2 ≤ 59) ∧ Hid (acc.length = k) ∧
          Byts wr w.heap.size (.slice (some ⟨w.heap.size, 0, none⟩) 20 20) (pl.rowOf acc 20) ∧ Below w.heap.size w wr ∧ Hid (R = (pl.g1 c (20 - k) (s.data.toList.drop (3 * k))).map (acc ++ ·))) (fun _ i _ => 20 - (intOf i).toNat)
      case atStart => exact ⟨0, 0, [], by omega, rfl, rfl, Lib.hid rfl, by omega, fun _ => by omega, Lib.hid rfl, by simpa [pl.rowOf] using hby1, hbel1, Lib.hid (by rw [← HR.out]; simp)⟩
      case round =>
        obtain ⟨k, x, acc, hk, rfl, rfl, HX, hx18, hx15, HA, hrow, hbel, HG⟩ := hrel
        by_cases hlt : k < 20
        · have hxb := hx15 hlt
          have hlen : (pl.rowOf acc 20).length = 20 := pl.rowOf_len acc 20 (by rw [HA.out]; omega)
          obtain ⟨old, hcell⟩ := hrow.cell hlen k hlt
          have hfr := hrow.frozen hlen k
          obtain ⟨D, hD⟩ : ∃ D, s.extract x s.size = D := ⟨_, rfl⟩
          have hDs : D.size = 59 - x := by rw [← hD, ByteArray.size_extract, hz]; omega
          have hDl : D.data.toList = s.data.toList.drop (3 * k) := by rw [← hD, pl.tail_of, HX.out]
          rw [hz] at hD
          have HDl := Lib.hid hDl
          have HL := Lib.hid hlen
          clear hx15 hlen hDl
          have hD2 : 2 ≤ D.size := by omega
          have hDm : D.size ≤ 17592186044416 := by omega
          clear hDs
          rcases hX : pl.x2 D.data.toList c with _ | u
          · have HN := Lib.hid hX
            clear hX
            go_wp2_with fail
            go_region_with (first | (go_at_call 39; refine (x2_no _ _ _ _ hD2 hDm hcv HN.out).mono ?_; rintro e w' ⟨⟨v, rfl⟩, rfl⟩))
            all_goals
              go_wp2_with fail
              go_step3
              exact ⟨rfl, pl.g1_fail c s.data.toList 20 k acc R hlt HG.out (by rw [← HDl.out]; exact HN.out), (hbel.setCell (Nat.le_refl _) _).drew, _, rfl, rfl⟩
          · have HN := Lib.hid hX
            clear hX
            go_wp2_with fail
            go_region_with (first | (go_at_call 39; refine (x2_yes _ _ _ _ _ hD2 hDm hcv HN.out).mono ?_; rintro e w' ⟨rfl, rfl⟩))
            all_goals
              go_wp2_with fail
              go_roundw
              case rel => exact ⟨k + 1, x + 3, acc ++ [u], by omega, by go_num, by go_num, Lib.hid (by rw [HX.out]; omega), by have := HX.out; omega, fun _ => by have := HX.out; omega, Lib.hid (by rw [List.length_append, HA.out]; rfl),
                by
                  have h := hrow.set HL.out k u
                  rw [show k = acc.length by rw [HA.out], pl.rowOf_set acc 20 u (by rw [HA.out]; exact hlt)] at h
                  rw [show k = acc.length by rw [HA.out]]
                  exact h, (hbel.setCell (Nat.le_refl _) _).drew, Lib.hid (pl.g1_step c u s.data.toList 20 k acc R hlt HG.out (by rw [← HDl.out]; exact HN.out))⟩
              case measure => simp [intOf]; omega
        · have hke : k = 20 := by omega
          subst hke
          go_wp2_with fail
          simp only [Exit.jump]
          go_ret2
          have hf := hrow
          rw [← HA.out, pl.rowOf_full] at hf
          exact MacRes.yes (pl.g1_end c s.data.toList 20 acc R HG.out) hbel (by rw [← HA.out]; exact hf)
    · rintro a' w' ⟨hr, hb, t, rfl, ht⟩
      go_wp2_with (go_at_call 40; refine (new_err _ _).mono ?_; rintro e w' ⟨ad, rfl, hb'⟩)
      simp only [Exit.jump]
      go_ret2
      refine MacRes.no (t := 118) (ad := ad) hr (hb.trans (hb'.mono hb.size)) ?_ ?_ <;> simp [Array.getD, ht]

end Go.Proofs.Ytabeklpllphiaaa
