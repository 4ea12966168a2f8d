/-
  THE WALK of FnCIDR, at an address of 16 bytes.
-/
import Derived.Test.YtfkohahlpfejbaaDoorCid6
import Derived.RegionTactic
namespace Go.Proofs.YtfkohahlpfejbaaDoor
open Go.RowKit

set_option maxRecDepth 100000 in
set_option maxHeartbeats 60000000 in
theorem cidl_16 (s : ByteArray) (b : List UInt8) (n : Nat) (w : World) (hs : s.size ≤ 2147483647) (hL : b.length = 16) (hn : n ≤ 128)
    (HSD : Hid (∀ W, Below w.heap.size w W → Calls Tryd.prog 25 #[.string s] W fun e w' => e = .returned (.bool true) ∧ Hid (Below W.heap.size W w')))
    (HSP : Hid (∀ W, Below w.heap.size w W → Calls Tryd.prog 26 #[.string s] W fun e w' => ∃ a c, e = .returned (.tuple #[.slice a 16 c, .int .i64 (n : Int), .bool true]) ∧ Hid (Reads w' (.slice a 16 c) b) ∧ Hid (Below W.heap.size W w')))
    (HIM : Hid (∀ W, Below w.heap.size w W → Calls Tryd.prog 27 #[.string s] W fun e w' => ∃ a1 c1 a2 c2 a3 c3, e = .returned (.tuple #[.slice a1 16 c1, .slice a2 16 c2, .slice a3 16 c3, .bool true]) ∧ Hid (Below W.heap.size W w') ∧
      Hid (Reads w' (.slice a1 16 c1) b) ∧ Hid (Reads w' (.slice a2 16 c2) (pl.and b (pl.mask n 16))) ∧ Hid (Reads w' (.slice a3 16 c3) (pl.mask n 16)))) :
    Calls Tryd.prog 7 #[.string s] w fun e w' => e = .returned (.bool true) ∧ Below w.heap.size w w' := by
  have cv : ∀ (W : World) (v : Value) (l : List UInt8), Reads W v l → (convert 26 9 v).run Tryd.prog W = .ok (.string ⟨l.toArray⟩) W := fun W v l h => conv_back 26 9 5 Tryd.underlying26 Tryd.underlying5 Tryd.underlying9 h
  have HL := Lib.hid hL
  have HLA : Hid ((pl.and b (pl.mask n 16)).length = 16) := Lib.hid (by rw [pl.and_len _ _ (by rw [hL, pl.mask_len]), hL])
  have HN := Lib.hid hn
  have HCV := Lib.hid cv
  have hsI : ¬ (2147483647 < (s.size : Int)) := by omega
  clear hL cv hs
  go_enter Tryd.func7, Tryd.ntmps7
  go_wp2_with (first
    | (go_at_call 28; refine (msk_sp n 16 _ (by decide) (by have := HN.out; omega)).mono ?_; rintro e w4 ⟨v4, rfl, hY4, hb4⟩; have hr4 := hY4.reads; obtain ⟨a4, c4, rfl, _⟩ := hY4.reads; rw [pl.mask_len] at hr4 ⊢; have HR4 := Lib.hid hr4; have HIP4 := Lib.hid (HIP3.out.below hb4); have HA4 := Lib.hid (HA3.out.below hb4); have HN4 := Lib.hid (HN3.out.below hb4); have HM4 := Lib.hid (HM3.out.below hb4); have HB4 := Lib.hid (HB3.out.trans (hb4.mono HB3.out.size)); clear hr4 hY4 hb4)
    | (go_at_call 27; refine (HIM.out _ HB2.out).mono ?_; rintro e w3 ⟨a1, c1, a2, c2, a3, c3, rfl, hb3, HA3, HN3, HM3⟩; have HB3 := Lib.hid (HB2.out.trans (hb3.out.mono HB2.out.size)); have HIP3 := Lib.hid (HIP2.out.below hb3.out); clear hb3)
    | (go_at_call 26; refine (HSP.out _ HB1.out).mono ?_; rintro e w2 ⟨a0, c0, rfl, HIP2, hb2⟩; have HB2 := Lib.hid (HB1.out.trans (hb2.out.mono HB1.out.size)); clear hb2)
    | (go_at_call 25; refine (HSD.out _ (Below.refl _ _)).mono ?_; rintro e w1 ⟨rfl, HB1⟩))
  have hd : Below w4.heap.size w4 w4.drew := (Below.refl _ _).drew
  have HIPd := Lib.hid (HIP4.out.below hd)
  have HAd := Lib.hid (HA4.out.below hd)
  have HNd := Lib.hid (HN4.out.below hd)
  have HMd := Lib.hid (HM4.out.below hd)
  have HRd := Lib.hid (HR4.out.below hd)
  have HBd := Lib.hid (HB4.out.drew)
  clear hd
  have f1 := HCV.out w4.drew _ _ HAd.out
  have f2 := HCV.out w4.drew _ _ HIPd.out
  have f3 := HCV.out w4.drew _ _ HNd.out
  go_region_with (first
    | (go_at_call 30; refine (and_sp _ _ b (pl.mask n 16) _ HIPd.out HRd.out (by rw [HL.out, pl.mask_len]) (by rw [HL.out]; omega)).mono ?_; rintro e w6 ⟨v6, rfl, hY6, hb6⟩; have f60 := HCV.out w6 _ _ hY6.reads; obtain ⟨a6, c6, rfl, _⟩ := hY6.reads; rw [HLA.out] at f60 ⊢; have f61 := HCV.out w6 _ _ (HNd.out.below hb6); have f62 := HCV.out w6 _ _ (HMd.out.below hb6); have f63 := HCV.out w6 _ _ (HRd.out.below hb6); have HB6 := Lib.hid (HBd.out.trans (hb6.mono HBd.out.size)))
    | (go_at_call 29; refine (long_16 _ _ _).mono ?_; rintro e w5 ⟨rfl, rfl⟩)
    | fail)
  all_goals
    go_wp2_with fail
    go_ret
    exact ⟨rfl, HB6.out⟩

end Go.Proofs.YtfkohahlpfejbaaDoor
