/-
  WALK: the law FnHardwareText.
-/
import Derived.Test.YtabeklpllphiaaaMacAll
import Derived.Test.YtabeklpllphiaaaPlMacLaw
import Derived.Test.YtabeklpllphiaaaHost2
namespace Go.Proofs.Ytabeklpllphiaaa
open Go.RowKit

set_option maxRecDepth 100000 in
set_option maxHeartbeats 1000000 in
theorem walk_FnHardwareText (a0 : Option Addr) (len0 cap0 : Nat) (z0 : List Int) (w : World) (w0 : IsRow .u8 w a0 len0 cap0 z0) :
    Calls Try.prog 5 #[.slice a0 len0 cap0] w fun e w' => e = .returned (.bool true) ∧ Below w.heap.size w w' := by
  obtain ⟨l, hl, hrd⟩ := Reads.of_row w0
  clear w0
  by_cases hbig : len0 ≤ 2147483647
  · go_enter Try.func5, Try.ntmps5
    go_wp2_with fail
    refine (macs_impl _ l w hrd (by omega)).mono ?_
    rintro e w1 ⟨rfl, hb1⟩
    have hrd1 := hrd.below hb1
    go_wp2_with fail
    refine (hwt_sp _ l w1 hrd1 (by omega)).mono ?_
    rintro e w2 ⟨rfl, n2, rfl⟩
    by_cases hset : l.length = 6 ∨ l.length = 8 ∨ l.length = 20
    · have hm : pl.mac (ByteArray.mk (pl.macT l).toArray).data.toList = some l := pl.mac_macT l hset
      have hms := pl.macT_len l
      have hsz : (ByteArray.mk (pl.macT l).toArray).size ≤ 17592186044416 := by simp [ByteArray.size]; omega
      have HM := Lib.hid hm
      clear hm hms
      rw [hl] at hset
      have hc2 : ∀ W, Reads W (.slice a0 len0 cap0) l → (convert 33 9 (.slice a0 len0 cap0)).run Try.prog W = .ok (.string ⟨l.toArray⟩) W := fun W h => conv_back 33 9 5 Try.underlying33 Try.underlying5 Try.underlying9 h
      have HC := Lib.hid hc2
      clear hc2
      rcases hset with h | h | h
      all_goals
        go_wp2_with fail
        refine (mac_impl _ _ hsz).mono ?_
        rintro e w3 hres
        rw [HM.out] at hres
        obtain ⟨hb3, v, rfl, hB⟩ := hres
        have hB' : Byts w3 w1.heap.size v l := hB
        have hcv := conv_back (P := Try.prog) 33 9 5 Try.underlying33 Try.underlying5 Try.underlying9 hB'.reads
        have h' : l.length = _ := hl.trans h
        obtain ⟨av, cv, rfl, _⟩ := hB'.reads
        rw [h'] at hcv
        have hrd3 := hrd1.below (bel_d hb3)
        have hcw := HC.out w3 hrd3
        have h4 := hb1.trans ((bel_d hb3).mono hb1.size)
        clear hB hB' hb3 hrd1 hrd3
        rw [h] at hcw
        go_wp2_with fail
        go_ret
        exact ⟨rfl, h4⟩
    · rw [hl] at hset
      have h6 : ((len0 : Int) != 6) = true := by rw [bne_iff_ne]; omega
      have h8 : ((len0 : Int) != 8) = true := by rw [bne_iff_ne]; omega
      have h20 : ((len0 : Int) != 20) = true := by rw [bne_iff_ne]; omega
      clear hset
      go_wp2_with (go_at_call 12; refine (works_any _).mono ?_; rintro e w4 ⟨rfl, hb4⟩)
      go_ret
      exact ⟨rfl, hb1.trans ((bel_d hb4).mono hb1.size)⟩
  · go_enter Try.func5, Try.ntmps5
    go_wp2_with fail
    go_ret
    exact ⟨rfl, Below.refl _ _⟩

end Go.Proofs.Ytabeklpllphiaaa
