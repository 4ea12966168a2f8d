/-
  WALK: the law FnHardware.
-/
import Derived.Test.YtabeklpllphiaaaHw
import Derived.Test.YtabeklpllphiaaaMacAll
import Derived.Test.YtabeklpllphiaaaHost2
namespace Go.Proofs.Ytabeklpllphiaaa
open Go.RowKit

set_option maxRecDepth 100000 in
set_option maxHeartbeats 1000000 in
theorem walk_FnHardware (a0 : ByteArray) (w : World) (_ : a0.size ≤ maxLen) :
    Calls Try.prog 4 #[.string a0] w fun e w' => e = .returned (.bool true) ∧ Below w.heap.size w w' := by
  by_cases hbig : a0.size ≤ 2147483647
  · have hlaw := pl.hw_law a0.data.toList
    have hsp := hw_sp a0 w hbig
    obtain ⟨H, hH⟩ : ∃ H, pl.hw a0.data.toList = H := ⟨_, rfl⟩
    obtain ⟨want, ok, said⟩ := H
    rw [hH] at hlaw hsp
    simp only [] at hlaw hsp
    have hmac : ∀ W, Calls Try.prog 16 #[.string a0] W fun e w' => MacPub W w' e (pl.mac a0.data.toList) := fun W => mac_impl a0 W (by omega)
    obtain ⟨M, hM⟩ : ∃ M, pl.mac a0.data.toList = M := ⟨_, rfl⟩
    rw [hM] at hlaw hmac
    have HL := Lib.hid hlaw
    have HM := Lib.hid hmac
    have HS := Lib.hid hsp
    clear hlaw hmac hsp hH hM
    go_enter Try.func4, Try.ntmps4
    go_wp2_with fail
    refine HS.out.mono ?_
    rintro e w1 ⟨v1, rfl, hY1, hb1⟩
    obtain ⟨a1, c1, rfl, _⟩ := hY1.reads
    rcases said with _ | _
    · go_wp2_with (go_at_call 12; refine (works_any _).mono ?_; rintro e w4 ⟨rfl, hb4⟩)
      go_ret
      exact ⟨rfl, hb1.trans (hb4.mono hb1.size)⟩
    · obtain ⟨hiso, hwant⟩ := HL.out rfl
      go_wp2_with fail
      refine (HM.out _).mono ?_
      rintro e w2 ⟨hb2, v2, rfl, hY2⟩
      rw [hiso]
      have hY1' := hY1.below hb2
      have h12 := hb1.trans (hb2.mono hb1.size)
      obtain ⟨a2, c2, rfl, _⟩ := hY2.reads
      rcases ok with _ | _
      · go_wp2_with (go_at_call 12; refine (works_any _).mono ?_; rintro e w4 ⟨rfl, hb4⟩)
        go_ret
        exact ⟨rfl, h12.trans (hb4.mono h12.size)⟩
      · have hw := hwant rfl
        rw [hw] at hY2 ⊢
        have hcv1 := conv_back (P := Try.prog) 33 9 5 Try.underlying33 Try.underlying5 Try.underlying9 hY1'.reads
        have hcv2 := conv_back (P := Try.prog) 33 9 5 Try.underlying33 Try.underlying5 Try.underlying9 hY2.reads
        clear hw hwant hiso
        go_wp2_with (go_at_call 12; refine (works_any _).mono ?_; rintro e w4 ⟨rfl, hb4⟩)
        go_ret
        exact ⟨rfl, h12.trans (hb4.mono h12.size)⟩
  · go_enter Try.func4, Try.ntmps4
    go_wp2_with fail
    go_ret
    exact ⟨rfl, Below.refl _ _⟩

end Go.Proofs.Ytabeklpllphiaaa
