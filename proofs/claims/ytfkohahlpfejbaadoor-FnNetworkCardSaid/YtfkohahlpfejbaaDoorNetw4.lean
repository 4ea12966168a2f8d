/-
  THE WALK of FnNetwork (4).
-/
import Derived.Test.YtfkohahlpfejbaaDoorNetw1
namespace Go.Proofs.YtfkohahlpfejbaaDoor
open Go.RowKit

set_option maxRecDepth 100000 in
set_option maxHeartbeats 60000000 in
theorem netw_4 (a0 : Option Addr) (c0 n : Nat) (b M NB : List UInt8) (T D T2 : ByteArray) (w : World) (hn : (n : Int) ≤ 32) (hTs : T.size ≤ 1000) (hDs : D.size ≤ 1000) (hT2 : T2.size ≤ 1000)
    (HRB : Hid (Reads w (.slice a0 4 c0) b))
    (HT1 : Hid (∀ W, Below w.heap.size w W → Calls Tryd.prog 33 #[.slice a0 4 c0] W fun e w' => e = .returned (.string T) ∧ Below W.heap.size W w'))
    (HD : Hid (∀ W, Calls Tryd.prog 32 #[.int .i64 (n : Int)] W fun e w' => e = .returned (.string D) ∧ ∃ k, w' = W.drewN k))
    (HI1 : Hid (∀ W, Below w.heap.size w W → Calls Tryd.prog 27 #[.string (T ++ (⟨#[47]⟩ ++ D))] W fun e w' => ∃ a1 c1 a2 c2 a3 c3, e = .returned (.tuple #[.slice a1 16 c1, .slice a2 4 c2, .slice a3 4 c3, .bool true]) ∧ Hid (Below W.heap.size W w') ∧ Hid (Reads w' (.slice a2 4 c2) NB) ∧ Hid (Reads w' (.slice a3 4 c3) M)))
    (HT2 : Hid (∀ W v, Reads W v NB → Calls Tryd.prog 33 #[v] W fun e w' => e = .returned (.string T2) ∧ Below W.heap.size W w'))
    (HI2 : Hid (∀ W, Below w.heap.size w W → Calls Tryd.prog 27 #[.string (T2 ++ (⟨#[47]⟩ ++ D))] W fun e w' => ∃ a1 c1 a2 c2 a3 c3, e = .returned (.tuple #[.slice a1 16 c1, .slice a2 4 c2, .slice a3 4 c3, .bool true]) ∧ Hid (Below W.heap.size W w') ∧ Hid (Reads w' (.slice a2 4 c2) NB) ∧ Hid (Reads w' (.slice a3 4 c3) M)))
    (HIM : Hid (∀ W va vm, Reads W va b → Reads W vm M → Calls Tryd.prog 34 #[va, vm] W fun e w' => ∃ a c, e = .returned (.slice a 4 c) ∧ Hid (Reads w' (.slice a 4 c) NB) ∧ Hid (Below W.heap.size W w'))) :
    Calls Tryd.prog 8 #[.slice a0 4 c0, .int .i64 (n : Int)] w fun e w' => e = .returned (.bool true) ∧ Below w.heap.size w w' := by
  have cv : ∀ (W : World) (v : Value) (l : List UInt8), Reads W v l → (convert 26 9 v).run Tryd.prog W = .ok (.string ⟨l.toArray⟩) W := fun W v l h => conv_back 26 9 5 Tryd.underlying26 Tryd.underlying5 Tryd.underlying9 h
  have HCV := Lib.hid cv
  have hn0 : ¬ ((n : Int) < 0) := by omega
  have hn1 : ¬ ((32 : Int) < (n : Int)) := by omega
  clear cv
  go_enter Tryd.func8, Tryd.ntmps8
  go_wp2_with (first
    | (go_at_call 27; have hx0 := HB4; refine (HI2.out _ HB4.out).mono ?_; rintro e w5 ⟨a5, c5, a6, c6, a7, c7, rfl, hb5, HN5, HM5⟩; have HB5 := Lib.hid (HB4.out.trans (hb5.out.mono HB4.out.size)); have HN35 := Lib.hid (HN34.out.below hb5.out); have HM35 := Lib.hid (HM34.out.below hb5.out); have HRB5 := Lib.hid (HRB.out.below HB5.out); clear hb5)
    | (go_at_call 33; have hx0 := HB3; refine (HT2.out _ _ HN3.out).mono ?_; rintro e w4 ⟨rfl, hb4⟩; have HN34 := Lib.hid (HN3.out.below hb4); have HM34 := Lib.hid (HM3.out.below hb4); have HB4 := Lib.hid (HB3.out.trans (hb4.mono HB3.out.size)); clear hb4)
    | (go_at_call 27; refine (HI1.out _ HB2.out).mono ?_; rintro e w3 ⟨a1, c1, a2, c2, a3, c3, rfl, hb3, HN3, HM3⟩; have HB3 := Lib.hid (HB2.out.trans (hb3.out.mono HB2.out.size)); clear hb3)
    | (go_at_call 33; refine (HT1.out _ HB1.out).mono ?_; rintro e w2 ⟨rfl, hb2⟩; have HB2 := Lib.hid (HB1.out.trans (hb2.mono HB1.out.size)); clear hb2)
    | (go_at_call 32; refine (HD.out _).mono ?_; rintro e w1 ⟨rfl, k, rfl⟩; have HB1 : Hid (Below w.heap.size w (w.drewN k)) := Lib.hid (below_drewN (Below.refl _ _) k)))
  have hd : Below w5.heap.size w5 w5.drew := (Below.refl _ _).drew
  have HBd := Lib.hid HB5.out.drew
  have f1 := HCV.out w5.drew _ _ (HN5.out.below hd)
  have f2 := HCV.out w5.drew _ _ (HN35.out.below hd)
  have f3 := HCV.out w5.drew _ _ (HM5.out.below hd)
  have f4 := HCV.out w5.drew _ _ (HM35.out.below hd)
  have HN35d := Lib.hid (HN35.out.below hd)
  have HM35d := Lib.hid (HM35.out.below hd)
  have HRBd := Lib.hid (HRB5.out.below hd)
  clear hd
  go_region_with (first
    | (go_at_call 34; refine (HIM.out _ _ _ HRBd.out HM35d.out).mono ?_; rintro e w6 ⟨a8, c8, rfl, HR6, hb6⟩; have f5 := HCV.out w6 _ _ HR6.out; have f6 := HCV.out w6 _ _ (HN35d.out.below hb6.out); have HB6 := Lib.hid (HBd.out.trans (hb6.out.mono HBd.out.size)); clear hb6)
    | fail)
  all_goals
    go_wp2_with fail
    go_ret
    exact ⟨rfl, HB6.out⟩

end Go.Proofs.YtfkohahlpfejbaaDoor
