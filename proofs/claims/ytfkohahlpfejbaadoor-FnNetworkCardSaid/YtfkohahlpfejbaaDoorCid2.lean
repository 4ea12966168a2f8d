/-
  WALKS: net.ParseCIDR, where it refuses.
-/
import Derived.Test.YtfkohahlpfejbaaDoorCid1
import Derived.Test.YtfkohahlpfejbaaDoorNB6
namespace Go.Proofs.YtfkohahlpfejbaaDoor
open Go.RowKit

/-- what an error of ParseCIDR returns -/
def ErrC (w : World) (e : Ending) (w' : World) : Prop := ∃ ad, e = .returned (.tuple #[.slice none 0 0, .pointer none, .iface 142 (.pointer (some ad))]) ∧ Below w.heap.size w w'

set_option maxRecDepth 100000 in
set_option maxHeartbeats 1000000 in
theorem pc_a (s A B : ByteArray) (w : World) (HC : Hid (∀ W, Calls Tryd.prog 68 #[.string s, .int .u8 47] W fun e w' => e = .returned (.tuple #[.string A, .string B, .bool false]) ∧ ∃ n, w' = W.drewN n)) :
    Calls Tryd.prog 54 #[.string s] w (ErrC w) := by
  go_enter Tryd.func54, Tryd.ntmps54
  go_wp2_with (first
    | (go_at_call 69; refine (new_err _ _).mono ?_; rintro e w2 ⟨ad, rfl, hb2⟩; have HB2 := Lib.hid (bel_d hb2); clear hb2)
    | (go_at_call 68; refine (HC.out _).mono ?_; rintro e w1 ⟨rfl, n1, rfl⟩))
  go_ret3
  exact ⟨_, rfl, HB2.out⟩

set_option maxRecDepth 100000 in
set_option maxHeartbeats 1000000 in
theorem pc_b (s A B : ByteArray) (w : World) (HC : Hid (∀ W, Calls Tryd.prog 68 #[.string s, .int .u8 47] W fun e w' => e = .returned (.tuple #[.string A, .string B, .bool true]) ∧ ∃ n, w' = W.drewN n))
    (HP : Hid (∀ n, Calls Tryd.prog 70 #[.string A] (w.drewN n) fun e w' => (∃ t v, e = .returned (.tuple #[.agg #[.int .u64 0, .int .u64 0, .pointer none], .iface t v])) ∧ Hid (Below w.heap.size w w'))) :
    Calls Tryd.prog 54 #[.string s] w (ErrC w) := by
  go_enter Tryd.func54, Tryd.ntmps54
  go_wp2_with (first
    | (go_at_call 69; have HB3 := Lib.hid (HB2.out.alloc HB2.out.size (Obj.cells #[.int .u64 0, .int .u64 0, .pointer none] 119)); refine (new_err _ _).mono ?_; rintro e w3 ⟨ad, rfl, hb3⟩; have HB4 := Lib.hid (HB3.out.trans (hb3.mono HB3.out.size)); clear hb3)
    | (go_at_call 70; refine (HP.out _).mono ?_; rintro e w2 ⟨⟨t, v, rfl⟩, HB2⟩)
    | (go_at_call 68; refine (HC.out _).mono ?_; rintro e w1 ⟨rfl, n1, rfl⟩))
  go_ret3
  exact ⟨_, rfl, HB4.out⟩

set_option maxRecDepth 100000 in
set_option maxHeartbeats 8000000 in
theorem pc_c (s A B : ByteArray) (hi lo gz oz L n i : Nat) (ok : Bool) (w : World) (HC : Hid (∀ W, Calls Tryd.prog 68 #[.string s, .int .u8 47] W fun e w' => e = .returned (.tuple #[.string A, .string B, .bool true]) ∧ ∃ n, w' = W.drewN n))
    (HP : Hid (∀ n, Calls Tryd.prog 70 #[.string A] (w.drewN n) fun e w' => e = .returned (.tuple #[.agg #[.int .u64 (hi : Int), .int .u64 (lo : Int), .pointer (some ⟨gz, oz, none⟩)], .nilIface]) ∧ Hid (Below w.heap.size w w')))
    (HZ : Hid (∀ W, Below w.heap.size w W → Calls Tryd.prog 71 #[.agg #[.int .u64 (hi : Int), .int .u64 (lo : Int), .pointer (some ⟨gz, oz, none⟩)]] W fun e w' => e = .returned (.string ⟨#[]⟩) ∧ Below W.heap.size W w'))
    (HL : Hid (∀ W, Below w.heap.size w W → Calls Tryd.prog 73 #[.agg #[.int .u64 (hi : Int), .int .u64 (lo : Int), .pointer (some ⟨gz, oz, none⟩)]] W fun e w' => e = .returned (.int .i64 (L : Int)) ∧ Below W.heap.size W w'))
    (HD : Hid (∀ W, Calls Tryd.prog 72 #[.string B] W fun e w' => e = .returned (.tuple #[.int .i64 (n : Int), .int .i64 (i : Int), .bool ok]) ∧ W = w'))
    (hbad : ok = false ∨ (ok = true ∧ ((i : Int) != (B.size : Int)) = true) ∨ (ok = true ∧ ((i : Int) != (B.size : Int)) = false ∧ (L : Int) < (n : Int))) :
    Calls Tryd.prog 54 #[.string s] w (ErrC w) := by
  rcases hbad with rfl | ⟨rfl, h1⟩ | ⟨rfl, h1, h2⟩
  · go_enter Tryd.func54, Tryd.ntmps54
    go_wp2_with (first
      | (go_at_call 69; refine (new_err _ _).mono ?_; rintro e w5 ⟨ad, rfl, hb5⟩; have HB5 := Lib.hid (HB4.out.trans (hb5.mono HB4.out.size)); clear hb5)
      | (go_at_call 72; refine (HD.out _).mono ?_; rintro e w5 ⟨rfl, rfl⟩)
      | (go_at_call 71; have HB3 := Lib.hid (HB2.out.alloc HB2.out.size (Obj.cells #[.int .u64 (hi : Int), .int .u64 (lo : Int), .pointer (some ⟨gz, oz, none⟩)] 119)); refine (HZ.out _ HB3.out).mono ?_; rintro e w4 ⟨rfl, hb4⟩; have HB4 := Lib.hid (HB3.out.trans (hb4.mono HB3.out.size)); clear hb4)
      | (go_at_call 70; refine (HP.out _).mono ?_; rintro e w2 ⟨rfl, HB2⟩)
      | (go_at_call 68; refine (HC.out _).mono ?_; rintro e w1 ⟨rfl, n1, rfl⟩))
    go_ret3
    exact ⟨_, rfl, HB5.out⟩
  · go_enter Tryd.func54, Tryd.ntmps54
    go_wp2_with (first
      | (go_at_call 69; refine (new_err _ _).mono ?_; rintro e w5 ⟨ad, rfl, hb5⟩; have HB5 := Lib.hid (HB4.out.trans (hb5.mono HB4.out.size)); clear hb5)
      | (go_at_call 72; refine (HD.out _).mono ?_; rintro e w5 ⟨rfl, rfl⟩)
      | (go_at_call 71; have HB3 := Lib.hid (HB2.out.alloc HB2.out.size (Obj.cells #[.int .u64 (hi : Int), .int .u64 (lo : Int), .pointer (some ⟨gz, oz, none⟩)] 119)); refine (HZ.out _ HB3.out).mono ?_; rintro e w4 ⟨rfl, hb4⟩; have HB4 := Lib.hid (HB3.out.trans (hb4.mono HB3.out.size)); clear hb4)
      | (go_at_call 70; refine (HP.out _).mono ?_; rintro e w2 ⟨rfl, HB2⟩)
      | (go_at_call 68; refine (HC.out _).mono ?_; rintro e w1 ⟨rfl, n1, rfl⟩))
    go_ret3
    exact ⟨_, rfl, HB5.out⟩
  · have hn0 : ¬ ((n : Int) < 0) := by omega
    go_enter Tryd.func54, Tryd.ntmps54
    go_wp2_with (first
      | (go_at_call 69; refine (new_err _ _).mono ?_; rintro e w6 ⟨ad, rfl, hb6⟩; have HB6 := Lib.hid (HB5.out.trans (hb6.mono HB5.out.size)); clear hb6)
      | (go_at_call 73; refine (HL.out _ HB4.out).mono ?_; rintro e w5 ⟨rfl, hb5⟩; have HB5 := Lib.hid (HB4.out.trans (hb5.mono HB4.out.size)); clear hb5)
      | (go_at_call 72; refine (HD.out _).mono ?_; rintro e w5 ⟨rfl, rfl⟩)
      | (go_at_call 71; have HB3 := Lib.hid (HB2.out.alloc HB2.out.size (Obj.cells #[.int .u64 (hi : Int), .int .u64 (lo : Int), .pointer (some ⟨gz, oz, none⟩)] 119)); refine (HZ.out _ HB3.out).mono ?_; rintro e w4 ⟨rfl, hb4⟩; obtain ⟨c40, c41, c42, _⟩ := blk3 ((Blk.new w2 #[.int .u64 (hi : Int), .int .u64 (lo : Int), .pointer (some ⟨gz, oz, none⟩)] 119).below hb4 (Blk.new w2 _ 119).lt); have HB4 := Lib.hid (HB3.out.trans (hb4.mono HB3.out.size)); clear hb4)
      | (go_at_call 70; refine (HP.out _).mono ?_; rintro e w2 ⟨rfl, HB2⟩)
      | (go_at_call 68; refine (HC.out _).mono ?_; rintro e w1 ⟨rfl, n1, rfl⟩))
    go_ret3
    exact ⟨_, rfl, HB6.out⟩

end Go.Proofs.YtfkohahlpfejbaaDoor
