/-
  THE WALK of FnNetwork (M).
-/
import Derived.Test.YtfkohahlpfejbaaDoorNetw1
namespace Go.Proofs.YtfkohahlpfejbaaDoor
open Go.RowKit

set_option maxRecDepth 100000 in
set_option maxHeartbeats 60000000 in
theorem netw_M (a0 : Option Addr) (c0 n : Nat) (b M NB : List UInt8) (T D T2 : ByteArray) (w : World) (hn : (n : Int) ≤ 128) (hTs : T.size ≤ 1000) (hDs : D.size ≤ 1000) (hT2 : T2.size ≤ 1000)
    (HRB : Hid (Reads w (.slice a0 16 c0) b))
    (HT1 : Hid (∀ W, Below w.heap.size w W → Calls Tryd.prog 33 #[.slice a0 16 c0] W fun e w' => e = .returned (.string T) ∧ Below W.heap.size W w'))
    (HD : Hid (∀ W, Calls Tryd.prog 32 #[.int .i64 (n : Int)] W fun e w' => e = .returned (.string D) ∧ ∃ k, w' = W.drewN k))
    (HI1 : Hid (∀ W, Below w.heap.size w W → Calls Tryd.prog 27 #[.string (T ++ (⟨#[47]⟩ ++ D))] W fun e w' => ∃ a1 c1 a2 c2 a3 c3, e = .returned (.tuple #[.slice a1 16 c1, .slice a2 16 c2, .slice a3 16 c3, .bool true]) ∧ Hid (Below W.heap.size W w') ∧ Hid (Reads w' (.slice a2 16 c2) NB) ∧ Hid (Reads w' (.slice a3 16 c3) M)))
    (HM1 : Hid (∀ W a c, Reads W (.slice a 16 c) b → Calls Tryd.prog 31 #[.slice a 16 c] W fun e w' => e = .returned (.bool false) ∧ W = w'))
    (HM2 : Hid (∀ W a c, Reads W (.slice a 16 c) NB → Calls Tryd.prog 31 #[.slice a 16 c] W fun e w' => e = .returned (.bool true) ∧ W = w')) :
    Calls Tryd.prog 8 #[.slice a0 16 c0, .int .i64 (n : Int)] w fun e w' => e = .returned (.bool true) ∧ Below w.heap.size w w' := by
  have cv : ∀ (W : World) (v : Value) (l : List UInt8), Reads W v l → (convert 26 9 v).run Tryd.prog W = .ok (.string ⟨l.toArray⟩) W := fun W v l h => conv_back 26 9 5 Tryd.underlying26 Tryd.underlying5 Tryd.underlying9 h
  have HCV := Lib.hid cv
  have hn0 : ¬ ((n : Int) < 0) := by omega
  have hn1 : ¬ ((128 : Int) < (n : Int)) := by omega
  clear cv
  go_enter Tryd.func8, Tryd.ntmps8
  go_wp2_with (first
    | (go_at_call 31; have hx0 := HB3; refine (HM2.out _ _ _ HN3.out).mono ?_; rintro e w4 ⟨rfl, rfl⟩)
    | (go_at_call 27; refine (HI1.out _ HB2.out).mono ?_; rintro e w3 ⟨a1, c1, a2, c2, a3, c3, rfl, hb3, HN3, HM3⟩; have HB3 := Lib.hid (HB2.out.trans (hb3.out.mono HB2.out.size)); clear hb3)
    | (go_at_call 33; refine (HT1.out _ HB1.out).mono ?_; rintro e w2 ⟨rfl, hb2⟩; have HB2 := Lib.hid (HB1.out.trans (hb2.mono HB1.out.size)); clear hb2)
    | (go_at_call 32; refine (HD.out _).mono ?_; rintro e w1 ⟨rfl, k, rfl⟩; have HB1 : Hid (Below w.heap.size w (w.drewN k)) := Lib.hid (below_drewN (Below.refl _ _) k))
    | (go_at_call 31; refine (HM1.out _ _ _ HRB.out).mono ?_; rintro e w0 ⟨rfl, rfl⟩))
  go_ret
  exact ⟨rfl, HB3.out⟩

end Go.Proofs.YtfkohahlpfejbaaDoor
