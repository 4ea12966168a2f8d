/-
  WALK: the law FnMask at 4 bytes.
-/
import Derived.Test.YtlgohaoplbiedaaMaskL
namespace Go.Proofs.Ytlgohaoplbiedaa
open Go.RowKit

set_option maxRecDepth 100000 in
set_option maxHeartbeats 2000000 in
theorem mlaw_4 (a0 : Option Addr) (cap0 ones : Nat) (b : List UInt8) (w : World) (hrd : Reads w (.slice a0 4 cap0) b) (hL : b.length = 4) (ho : ones ≤ 32) :
    Calls Try.prog 14 #[.slice a0 4 cap0, .int .i64 (ones : Int)] w fun e w' => e = .returned (.bool true) ∧ Below w.heap.size w w' := by
  have cv : ∀ (W : World) (v : Value) (l : List UInt8), Reads W v l → (convert 41 9 v).run Try.prog W = .ok (.string ⟨l.toArray⟩) W := fun W v l h => conv_back 41 9 5 Try.underlying41 Try.underlying5 Try.underlying9 h
  have hoB : (ones : Int) ≤ 32 := by omega
  have HRD := Lib.hid hrd
  have HL := Lib.hid hL
  have HCV := Lib.hid cv
  clear hrd hL cv
  go_enter Try.func14, Try.ntmps14
  go_wp2_with fail
  refine (cmi_4 ones w ho).mono ?_
  rintro e w1 ⟨v1, rfl, hY1, hb1⟩
  go_wp2_with fail
  obtain ⟨a1, c1, rfl, _⟩ := hY1.reads
  rw [pl.mask_len] at *
  have r1 : Reads w1 _ _ := hY1.reads
  have rb1 := HRD.out.below hb1
  have f1 := HCV.out w1 _ _ r1
  have f1d := HCV.out w1.drew _ _ r1
  have R1 := Lib.hid r1
  have RB := Lib.hid rb1
  have hs1 := hb1.size
  clear r1 rb1 hY1
  go_region_with (first
    | (go_at_call 35; refine (msk_sp ones 4 _ (by decide) (by omega)).mono ?_; rintro e w4 ⟨v4, rfl, hY4, hb4d⟩; have hb4 := bel_d1 hb4d; obtain ⟨a4, c4, rfl, _⟩ := hY4.reads; rw [pl.mask_len] at *; have f4 := HCV.out w4 _ _ hY4.reads; have f14 := HCV.out w4 _ _ (R1.out.below hb4))
    | (go_at_call 36; refine (ipi_4 _ _ b (pl.mask ones 4) _ (RB.out.below hb4) (R1.out.below hb4) HL.out (pl.mask_len ones 4)).mono ?_; rintro e w5 ⟨v5, rfl, hY5, hb5⟩; obtain ⟨a5, c5, rfl, _⟩ := hY5.reads; have f5 := HCV.out w5 _ _ hY5.reads)
    | (go_at_call 37; refine (and_sp _ _ b (pl.mask ones 4) _ ((RB.out.below hb4).below hb5) ((R1.out.below hb4).below hb5) (by rw [HL.out, (pl.mask_len ones 4)]) (by rw [HL.out]; omega)).mono ?_; rintro e w6 ⟨v6, rfl, hY6, hb6⟩; obtain ⟨a6, c6, rfl, _⟩ := hY6.reads; have f6 := HCV.out w6 _ _ hY6.reads; have f56 := HCV.out w6 _ _ (hY5.reads.below hb6))
    | fail)
  all_goals
    go_wp2_with fail
    go_ret
    exact ⟨rfl, ((hb1.trans (hb4.mono hb1.size)).trans (hb5.mono (Nat.le_trans hb1.size hb4.size))).trans (hb6.mono (Nat.le_trans (Nat.le_trans hb1.size hb4.size) hb5.size))⟩

end Go.Proofs.Ytlgohaoplbiedaa
