/-
  WALK: ParseMAC: groups of four digits, 20 bytes.
-/
import Derived.Test.YtabeklpllphiaaaMacBase
import Derived.Deep.RegionWith
import Derived.ScopeJumps
import Derived.IntWalk
import Derived.WalkMore
namespace Go.Proofs.Ytabeklpllphiaaa
open Go.RowKit

set_option maxRecDepth 100000 in
set_option maxHeartbeats 4000000 in
theorem mac_b20 (s : ByteArray) (c d : UInt8) (w : World) (hz : s.size = 49) (hc : s[2]'(by omega) = c) (hc58 : ((c.toNat : Int) == 58) = false) (hc45 : ((c.toNat : Int) == 45) = false) (hd : s[4]'(by omega) = d) (hd46 : (d.toNat : Int) = 46) :
    Calls Try.prog 31 #[.string s] w fun e w' => MacRes w w' e (pl.g2 d 10 s.data.toList) := by
  have hcb := UInt8.toNat_lt c
  obtain ⟨i0, hi, hz0, hz1, hz2⟩ := info_parts infoByte
  obtain ⟨R, hR⟩ : ∃ R, pl.g2 d 10 s.data.toList = R := ⟨_, rfl⟩
  rw [hR]
  have HR := Lib.hid hR
  clear hR
  go_enter Try.func31, Try.ntmps31
  go_wp2_with fail
  refine wp_scope_jumps 0 (macJ w R) (fun _ _ => 0) rfl ?_ ?_
  · go_wp2_with (at_make; refine wpList_make_full _ rfl _ _ 71 rfl w.heap.size 5 i0 (.int .u8 0) 1 Try.underlying71 hi hz0 hz1 _ _ _ _ 20 rfl rfl rfl rfl (by rw [hz2]; omega) (by unfold maxLen; omega) (Nat.le_refl _) ?_)
    intro w1 hown1 hg1
    have hbel1 : Below w.heap.size w w1 := (Below.refl _ _).grown hg1 (Nat.le_refl _) (fun k hk => by simp at hk)
    have hby1 := Byts.made hown1
    clear hown1 hg1
    go_wp2_with fail
    go_loopw [9, 10] (fun xv iv wr => ∃ (k x i : Nat) (acc : List UInt8), k ≤ 10 ∧ iv = .int .i64 i ∧ xv = .int .i64 x ∧ Hid (x = 5 * k) ∧ Hid (i = 2 * k) ∧ x ≤ 49 + 1 ∧ i ≤ 20 ∧ (i < 20 → k < 10 ∧ x + 4 ≤ 49 ∧ i + 1 < 20) ∧ Hid (acc.length = i) ∧
        Byts wr w.heap.size (.slice (some ⟨w.heap.size, 0, none⟩) 20 20) (pl.rowOf acc 20) ∧ Below w.heap.size w wr ∧ Hid (R = (pl.g2 d (10 - k) (s.data.toList.drop (5 * k))).map (acc ++ ·))) (fun _ i _ => 20 - (intOf i).toNat)
    case atStart => exact ⟨0, 0, 0, [], by omega, rfl, rfl, Lib.hid rfl, Lib.hid rfl, by omega, by omega, fun _ => by omega, Lib.hid rfl, by simpa [pl.rowOf] using hby1, hbel1, Lib.hid (by rw [← HR.out]; simp)⟩
    case round =>
      obtain ⟨k, x, i, acc, hk, rfl, rfl, HX, HI, hx18, hin, hx15, HA, hrow, hbel, HG⟩ := hrel
      by_cases hlt : i < 20
      · obtain ⟨hkh, hxb, hi1⟩ := hx15 hlt
        have hlen : (pl.rowOf acc 20).length = 20 := pl.rowOf_len acc 20 (by rw [HA.out]; omega)
        obtain ⟨old, hcell⟩ := hrow.cell hlen i hlt
        have hfr := hrow.frozen hlen i
        obtain ⟨old', hcell'⟩ := hrow.cell hlen (i + 1) hi1
        have hfr' := hrow.frozen hlen (i + 1)
        obtain ⟨D, hD⟩ : ∃ D, s.extract x (x + 2) = D := ⟨_, rfl⟩
        have hDs : D.size = 2 := by rw [← hD, ByteArray.size_extract, hz]; omega
        have hDl : D.data.toList = (s.data.toList.drop (5 * k)).take 2 := by rw [← hD, pl.mid_of, HX.out, Nat.add_sub_cancel_left]
        obtain ⟨E, hE⟩ : ∃ E, s.extract (x + 2) s.size = E := ⟨_, rfl⟩
        have hEs : E.size = 49 - (x + 2) := by rw [← hE, ByteArray.size_extract, hz]; omega
        have hEl : E.data.toList = (s.data.toList.drop (5 * k)).drop 2 := by rw [← hE, pl.tail_of, HX.out, List.drop_drop]
        rw [hz] at hE
        have HDl := Lib.hid hDl
        have HEl := Lib.hid hEl
        have HL := Lib.hid hlen
        clear hx15 hlen hDl hEl
        have hD2 : 2 ≤ D.size := by omega
        have hDm : D.size ≤ 17592186044416 := by omega
        have hE2 : 2 ≤ E.size := by omega
        have hEm : E.size ≤ 17592186044416 := by omega
        clear hDs hEs
        have y1 : IntKind.i64.wrap ((x : Int) + 2) = (x : Int) + 2 := IntWalk.i64_in _ (by omega)
        have y2 : (0 : Int) ≤ (x : Int) + 2 := by omega
        have y3 : (x : Int) + 2 ≤ 49 := by omega
        have y4 : ((x : Int) + 2).toNat = x + 2 := by omega
        have z1 : IntKind.i64.wrap ((i : Int) + 1) = (i : Int) + 1 := IntWalk.i64_in _ (by omega)
        have z2 : (0 : Int) ≤ (i : Int) + 1 := by omega
        have z3 : (i : Int) + 1 < 20 := by omega
        have z4 : ((i : Int) + 1).toNat = i + 1 := by omega
        have Y1 := Lib.hid y1
        have Z1 := Lib.hid z1
        clear y1 z1
        rcases hX : pl.x2 D.data.toList 0 with _ | u
        · have HN := Lib.hid hX
          clear hX
          go_wp2_with (go_at_call 39; refine (x2_no _ 0 _ _ hD2 hDm rfl HN.out).mono ?_; rintro e w' ⟨⟨v, rfl⟩, rfl⟩)
          go_step3
          exact ⟨rfl, pl.g2_fail1 d s.data.toList 10 k acc R hkh HG.out (by rw [← HDl.out]; exact HN.out), (hbel.setCell (Nat.le_refl _) _), _, rfl, rfl⟩
        · have HN := Lib.hid hX
          clear hX
          rcases hX : pl.x2 E.data.toList d with _ | v
          · have HM := Lib.hid hX
            clear hX
            go_wp2_with (go_at_call 39; refine (x2_yes _ 0 _ _ _ hD2 hDm rfl HN.out).mono ?_; rintro e w' ⟨rfl, rfl⟩)
            have y1 := Y1.out
            have z1 := Z1.out
            go_region_with (first | (go_at_call 39; refine (x2_no _ _ _ _ hE2 hEm hd46 HM.out).mono ?_; rintro e w' ⟨⟨v, rfl⟩, rfl⟩))
            all_goals
              clear y1 z1
              go_wp2_with fail
              go_step3
              exact ⟨rfl, pl.g2_fail2 d u s.data.toList 10 k acc R hkh HG.out (by rw [← HDl.out]; exact HN.out) (by rw [← HEl.out]; exact HM.out), ((hbel.setCell (Nat.le_refl _) _).setCell (Nat.le_refl _) _).drew, _, rfl, rfl⟩
          · have HM := Lib.hid hX
            clear hX
            go_wp2_with (go_at_call 39; refine (x2_yes _ 0 _ _ _ hD2 hDm rfl HN.out).mono ?_; rintro e w' ⟨rfl, rfl⟩)
            have y1 := Y1.out
            have z1 := Z1.out
            go_region_with (first | (go_at_call 39; refine (x2_yes _ _ _ _ _ hE2 hEm hd46 HM.out).mono ?_; rintro e w' ⟨rfl, rfl⟩))
            all_goals
              clear y1 z1
              go_wp2_with fail
              go_roundw
              case rel => exact ⟨k + 1, x + 5, i + 2, acc ++ [u] ++ [v], by omega, by go_num, by go_num, Lib.hid (by rw [HX.out]; omega), Lib.hid (by rw [HI.out]; omega), by have := HX.out; omega, by omega, fun _ => by have := HX.out; have := HI.out; omega, Lib.hid (by simp only [List.length_append, List.length_singleton, HA.out]),
                by
                  have h := hrow.set HL.out i u
                  have hi2 : i = acc.length := HA.out.symm
                  rw [hi2, pl.rowOf_set acc 20 u (by omega)] at h
                  have h2 := h.set (pl.rowOf_len (acc ++ [u]) 20 (by simp; omega)) (acc.length + 1) v
                  rw [show acc.length + 1 = (acc ++ [u]).length by simp, pl.rowOf_set (acc ++ [u]) 20 v (by simp; omega)] at h2
                  rw [hi2]
                  simpa using h2.drew, ((hbel.setCell (Nat.le_refl _) _).setCell (Nat.le_refl _) _).drew, Lib.hid (pl.g2_step d u v s.data.toList 10 k acc R hkh HG.out (by rw [← HDl.out]; exact HN.out) (by rw [← HEl.out]; exact HM.out))⟩
              case measure => simp [intOf]; omega
      · have hke : i = 20 := by omega
        subst hke
        have hkk : k = 10 := by have := HI.out; omega
        subst hkk
        go_wp2_with fail
        simp only [Exit.jump]
        go_ret2
        have hf := hrow
        rw [← HA.out, pl.rowOf_full] at hf
        exact MacRes.yes (pl.g2_end d s.data.toList 10 acc R HG.out) hbel (by rw [← HA.out]; exact hf)
  · rintro a' w' ⟨hr, hb, t, rfl, ht⟩
    go_wp2_with (go_at_call 40; refine (new_err _ _).mono ?_; rintro e w' ⟨ad, rfl, hb'⟩)
    simp only [Exit.jump]
    go_ret2
    refine MacRes.no (t := 118) (ad := ad) hr (hb.trans (hb'.mono hb.size)) ?_ ?_ <;> simp [Array.getD, ht]

end Go.Proofs.Ytabeklpllphiaaa
