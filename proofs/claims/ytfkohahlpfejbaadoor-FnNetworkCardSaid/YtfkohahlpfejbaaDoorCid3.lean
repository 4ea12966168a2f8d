/-
  WALK: net.ParseCIDR, where it reads.
-/
import Derived.Test.YtfkohahlpfejbaaDoorCid2
import Derived.Test.YtfkohahlpfejbaaDoorNB6
namespace Go.Proofs.YtfkohahlpfejbaaDoor
open Go.RowKit

/-- what ParseCIDR returns -/
def OkC (b m : List UInt8) (w : World) (e : Ending) (w' : World) : Prop := ∃ (ga gn : Nat) (vn vm : Value) (ty : TypeId), e = .returned (.tuple #[.slice (some ⟨ga, 0, none⟩) 16 16, .pointer (some ⟨gn, 0, none⟩), .nilIface]) ∧ Hid (Blk w' gn #[vn, vm] ty) ∧ Hid (Reads w' (.slice (some ⟨ga, 0, none⟩) 16 16) (pl.long b)) ∧ Hid (Reads w' vn (pl.and b m)) ∧ Hid (Reads w' vm m) ∧ Hid (Below w.heap.size w w')

set_option maxRecDepth 100000 in
set_option maxHeartbeats 8000000 in
theorem pc_d (s A B : ByteArray) (hi lo gz oz L n : Nat) (b m : List UInt8) (b0 b1 b2 b3 b4 b5 b6 b7 b8 b9 b10 b11 b12 b13 b14 b15 : UInt8) (w : World) (HC : Hid (∀ W, Calls Tryd.prog 68 #[.string s, .int .u8 47] W fun e w' => e = .returned (.tuple #[.string A, .string B, .bool true]) ∧ ∃ n, w' = W.drewN n))
    (HP : Hid (∀ n, Calls Tryd.prog 70 #[.string A] (w.drewN n) fun e w' => e = .returned (.tuple #[.agg #[.int .u64 (hi : Int), .int .u64 (lo : Int), .pointer (some ⟨gz, oz, none⟩)], .nilIface]) ∧ Hid (Below w.heap.size w w')))
    (HZ : Hid (∀ W, Below w.heap.size w W → Calls Tryd.prog 71 #[.agg #[.int .u64 (hi : Int), .int .u64 (lo : Int), .pointer (some ⟨gz, oz, none⟩)]] W fun e w' => e = .returned (.string ⟨#[]⟩) ∧ Below W.heap.size W w'))
    (HL : Hid (∀ W, Below w.heap.size w W → Calls Tryd.prog 73 #[.agg #[.int .u64 (hi : Int), .int .u64 (lo : Int), .pointer (some ⟨gz, oz, none⟩)]] W fun e w' => e = .returned (.int .i64 (L : Int)) ∧ Below W.heap.size W w'))
    (HS : Hid (∀ W, Calls Tryd.prog 75 #[.agg #[.int .u64 (hi : Int), .int .u64 (lo : Int), .pointer (some ⟨gz, oz, none⟩)]] W fun e w' => e = .returned (.agg #[.int .u8 (b0.toNat : Int), .int .u8 (b1.toNat : Int), .int .u8 (b2.toNat : Int), .int .u8 (b3.toNat : Int), .int .u8 (b4.toNat : Int), .int .u8 (b5.toNat : Int), .int .u8 (b6.toNat : Int), .int .u8 (b7.toNat : Int), .int .u8 (b8.toNat : Int), .int .u8 (b9.toNat : Int), .int .u8 (b10.toNat : Int), .int .u8 (b11.toNat : Int), .int .u8 (b12.toNat : Int), .int .u8 (b13.toNat : Int), .int .u8 (b14.toNat : Int), .int .u8 (b15.toNat : Int)]) ∧ Below W.heap.size W w'))
    (HD : Hid (∀ W, Calls Tryd.prog 72 #[.string B] W fun e w' => e = .returned (.tuple #[.int .i64 (n : Int), .int .i64 (B.size : Int), .bool true]) ∧ W = w'))
    (HM : Hid (∀ W, Calls Tryd.prog 74 #[.int .i64 (n : Int), .int .i64 (L : Int)] W fun e w' => ∃ v, e = .returned v ∧ Hid (Byts w' W.heap.size v m) ∧ Below W.heap.size W w'))
    (HI : Hid (∀ W g vm, Reads W (.slice (some ⟨g, 0, none⟩) 16 16) (pl.long b) → Reads W vm m → Calls Tryd.prog 56 #[.slice (some ⟨g, 0, none⟩) 16 16, vm] W fun e w' => ∃ v, e = .returned v ∧ Hid (Byts w' W.heap.size v (pl.and b m)) ∧ Below W.heap.size W w'))
    (HB : Hid (pl.long b = [b0, b1, b2, b3, b4, b5, b6, b7, b8, b9, b10, b11, b12, b13, b14, b15]))
    (hn : (n : Int) ≤ (L : Int)) :
    Calls Tryd.prog 54 #[.string s] w (OkC b m w) := by
  have hn0 : ¬ ((n : Int) < 0) := by omega
  have hn1 : ¬ ((L : Int) < (n : Int)) := by omega
  go_enter Tryd.func54, Tryd.ntmps54
  go_wp2_with (first
    | (go_at_call 75; have hx0 := HB7; refine (HS.out _).mono ?_; rintro e w8 ⟨rfl, hb8⟩; have HB8 := Lib.hid (HB7.out.trans (hb8.mono HB7.out.size)); have HY8 := Lib.hid (HY7.out.reads.below hb8); clear hb8)
    | (go_at_call 74; have hx0 := HB6; refine (HM.out _).mono ?_; rintro e w7 ⟨vm, rfl, HY7, hb7⟩; obtain ⟨am, cm, rfl, _⟩ := HY7.out.reads; obtain ⟨c70, c71, c72, _⟩ := blk3 ((Blk.new w2 #[.int .u64 (hi : Int), .int .u64 (lo : Int), .pointer (some ⟨gz, oz, none⟩)] 119).below HW6.out (Blk.new w2 _ 119).lt |>.below hb7 (Nat.lt_of_lt_of_le (Blk.new w2 _ 119).lt HW6.out.size)); have HB7 := Lib.hid (HB6.out.trans (hb7.mono HB6.out.size)); clear hb7)
    | (go_at_call 73; have hx0 := HB5; refine (HL.out _ HB5.out).mono ?_; rintro e w6 ⟨rfl, hb6⟩; have HB6 := Lib.hid (HB5.out.trans (hb6.mono HB5.out.size)); have HW6 := Lib.hid (HW5.out.trans (hb6.mono HW5.out.size)); clear hb6)
    | (go_at_call 73; refine (HL.out _ HB4.out).mono ?_; rintro e w5 ⟨rfl, hb5⟩; obtain ⟨c50, c51, c52, _⟩ := blk3 ((Blk.new w2 #[.int .u64 (hi : Int), .int .u64 (lo : Int), .pointer (some ⟨gz, oz, none⟩)] 119).below HW4.out (Blk.new w2 _ 119).lt |>.below hb5 (Nat.lt_of_lt_of_le (Blk.new w2 _ 119).lt HW4.out.size)); have HB5 := Lib.hid (HB4.out.trans (hb5.mono HB4.out.size)); have HW5 := Lib.hid (HW4.out.trans (hb5.mono HW4.out.size)); clear hb5)
    | (go_at_call 72; refine (HD.out _).mono ?_; rintro e w5 ⟨rfl, rfl⟩)
    | (go_at_call 71; have HB3 := Lib.hid (HB2.out.alloc HB2.out.size (Obj.cells #[.int .u64 (hi : Int), .int .u64 (lo : Int), .pointer (some ⟨gz, oz, none⟩)] 119)); refine (HZ.out _ HB3.out).mono ?_; rintro e w4 ⟨rfl, hb4⟩; obtain ⟨c40, c41, c42, _⟩ := blk3 ((Blk.new w2 #[.int .u64 (hi : Int), .int .u64 (lo : Int), .pointer (some ⟨gz, oz, none⟩)] 119).below hb4 (Blk.new w2 _ 119).lt); have HB4 := Lib.hid (HB3.out.trans (hb4.mono HB3.out.size)); have HW4 := Lib.hid hb4; clear hb4)
    | (go_at_call 70; refine (HP.out _).mono ?_; rintro e w2 ⟨rfl, HB2⟩)
    | (go_at_call 68; refine (HC.out _).mono ?_; rintro e w1 ⟨rfl, n1, rfl⟩))
  obtain ⟨W9, hW9⟩ : ∃ W9, w8.alloc (Obj.cells #[.int .u8 (b0.toNat : Int), .int .u8 (b1.toNat : Int), .int .u8 (b2.toNat : Int), .int .u8 (b3.toNat : Int), .int .u8 (b4.toNat : Int), .int .u8 (b5.toNat : Int), .int .u8 (b6.toNat : Int), .int .u8 (b7.toNat : Int), .int .u8 (b8.toNat : Int), .int .u8 (b9.toNat : Int), .int .u8 (b10.toNat : Int), .int .u8 (b11.toNat : Int), .int .u8 (b12.toNat : Int), .int .u8 (b13.toNat : Int), .int .u8 (b14.toNat : Int), .int .u8 (b15.toNat : Int)] 127) = W9 := ⟨_, rfl⟩
  have hA9 : Reads W9.drew (.slice (some ⟨w8.heap.size, 0, none⟩) 16 16) (pl.long b) := by
    rw [HB.out, ← hW9]; exact BBlk.reads (l := [b0, b1, b2, b3, b4, b5, b6, b7, b8, b9, b10, b11, b12, b13, b14, b15]) ((Blk.new w8 _ _).drewN 1) (by simp)
  have hb9 : Below w8.heap.size w8 W9.drew := by rw [← hW9]; exact ((Below.refl _ _).alloc (Nat.le_refl _) _).drew
  have HA9 := Lib.hid hA9
  have HM9 := Lib.hid (HY8.out.below hb9)
  have HB9 := Lib.hid (HB8.out.trans (hb9.mono HB8.out.size))
  rw [hW9]
  clear hW9 hA9 hb9
  go_region_with (first
    | (go_at_call 56; refine (HI.out _ _ _ HA9.out HM9.out).mono ?_; rintro e w10 ⟨v, rfl, HV10, hb10⟩; obtain ⟨av, cv, rfl, _⟩ := HV10.out.reads; have HA10 := Lib.hid (HA9.out.below hb10); have HM10 := Lib.hid (HM9.out.below hb10); have HB10 := Lib.hid (HB9.out.trans (hb10.mono HB9.out.size)); clear hb10)
    | fail)
  all_goals
    go_wp2_with fail
    go_ret3
    have hbl : Below w10.heap.size w10 (w10.alloc (Obj.cells #[.slice av (pl.and b m).length cv, .slice am m.length cm] 86)) := (Below.refl _ _).alloc (Nat.le_refl _) _
    exact ⟨_, _, _, _, _, rfl, Lib.hid (Blk.new w10 _ 86), Lib.hid (HA10.out.below hbl), Lib.hid (HV10.out.reads.below hbl), Lib.hid (HM10.out.below hbl), Lib.hid (HB10.out.alloc HB10.out.size _)⟩

end Go.Proofs.YtfkohahlpfejbaaDoor
