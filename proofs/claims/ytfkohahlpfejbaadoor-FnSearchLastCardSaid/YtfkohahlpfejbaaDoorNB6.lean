/-
  THE BASE of the statements over net/netip, part 6 of 6: Text, Text16, Vars, Address, LitLaw, Net4, Net5, Net6, Mask, SplitLaws, MaskSp, LitBytes, MaskL.
-/
import Derived.Test.YtfkohahlpfejbaaDoorNB5
import Derived.Deep.RegionHeld3
import Derived.Laws.BitsLemmas
import Derived.Deep.CutBlock
import Derived.Deep.DeepCutAuto
import Derived.Deep.LoopGhost
import Derived.StillTailTactics
import Derived.Test.YtfkohahlpfejbaaDoorRows
import Derived.LaidMore
import Derived.LaidLaws
import Derived.MakeChecks
import Derived.Laws.CopyOwn
import Derived.Deep.RegionWith

/- Text: WALKS: the reference's Mapped and Text. -/
namespace Go.Proofs.YtfkohahlpfejbaaDoor
open Go.RowKit

theorem pl.mapped_iff (b : List UInt8) : pl.mapped b = true ↔ (∀ j, j < 10 → b[j]? = some 0) ∧ b[10]? = some 255 ∧ b[11]? = some 255 := by
  unfold pl.mapped
  rw [beq_iff_eq]
  constructor
  · intro h
    have k : ∀ j, j < 12 → b[j]? = pl.pre12[j]? := fun j hj => by
      rw [← h, List.getElem?_take, if_pos hj]
    refine ⟨fun j hj => ?_, k 10 (by omega), k 11 (by omega)⟩
    rw [k j (by omega)]
    match j, hj with
    | 0, _ => rfl
    | 1, _ => rfl
    | 2, _ => rfl
    | 3, _ => rfl
    | 4, _ => rfl
    | 5, _ => rfl
    | 6, _ => rfl
    | 7, _ => rfl
    | 8, _ => rfl
    | 9, _ => rfl
  · rintro ⟨h0, h1, h2⟩
    apply List.ext_getElem?
    intro j
    rw [List.getElem?_take]
    by_cases hj : j < 12
    · rw [if_pos hj]
      match j, hj with
      | 0, _ => rw [h0 0 (by omega)]; rfl
      | 1, _ => rw [h0 1 (by omega)]; rfl
      | 2, _ => rw [h0 2 (by omega)]; rfl
      | 3, _ => rw [h0 3 (by omega)]; rfl
      | 4, _ => rw [h0 4 (by omega)]; rfl
      | 5, _ => rw [h0 5 (by omega)]; rfl
      | 6, _ => rw [h0 6 (by omega)]; rfl
      | 7, _ => rw [h0 7 (by omega)]; rfl
      | 8, _ => rw [h0 8 (by omega)]; rfl
      | 9, _ => rw [h0 9 (by omega)]; rfl
      | 10, _ => rw [h1]; rfl
      | 11, _ => rw [h2]; rfl
    · rw [if_neg hj]
      have : pl.pre12.length ≤ j := by show 12 ≤ j; omega
      rw [List.getElem?_eq_none this]

/-- the bytes lie in a block -/
def InBlk (w : World) (g o : Nat) (b : List UInt8) : Prop := ∀ k x, b[k]? = some x → w.cell? ⟨g, o + k, none⟩ = some (pl.byteV x)

set_option maxRecDepth 100000 in
set_option maxHeartbeats 4000000 in
theorem mp_sp (b : List UInt8) (hb : b.length = 16) (g o cap : Nat) (w : World) (hc : InBlk w g o b) :
    Calls Tryd.prog 31 #[.slice (some ⟨g, o, none⟩) 16 cap] w fun e w' => e = .returned (.bool (pl.mapped b)) ∧ w = w' := by
  have hmi := pl.mapped_iff b
  obtain ⟨M, hM⟩ : ∃ M, pl.mapped b = M := ⟨_, rfl⟩
  rw [hM] at hmi ⊢
  have HMI := Lib.hid hmi
  have HC := Lib.hid hc
  have HB := Lib.hid hb
  clear hmi hc hb hM
  go_enter Tryd.func31, Tryd.ntmps31
  go_wp2_with fail
  go_loopw [4] (fun iv wr => ∃ k : Nat, iv = .int .i64 (k : Int) ∧ k ≤ 10 ∧ Hid (∀ j, j < k → b[j]? = some 0) ∧ wr = w) (fun iv _ => 10 - (intOf iv).toNat)
  case atStart => exact ⟨0, rfl, by omega, Lib.hid (fun j hj => absurd hj (by omega)), rfl⟩
  case round =>
    obtain ⟨k, rfl, hk, HZ, hwr⟩ := hrel
    replace hwr := hwr.symm
    subst hwr
    by_cases hlt : k < 10
    · obtain ⟨x, hx⟩ : ∃ x, b[k]? = some x := ⟨_, List.getElem?_eq_getElem (by rw [HB.out]; omega)⟩
      have hcell : w.cell? ⟨g, o + k, none⟩ = some (.int .u8 (x.toNat : Int)) := HC.out k x hx
      have HX := Lib.hid hx
      clear hx
      by_cases h0 : x = 0
      · subst h0
        have h1 : ((0 : UInt8).toNat : Int) = 0 := rfl
        go_wp2_with fail
        go_roundw
        case rel => exact ⟨k + 1, by go_num, by omega, Lib.hid (fun j hj => by
          rcases Nat.lt_or_ge j k with h | h
          · exact HZ.out j h
          · rw [show j = k by omega]; exact HX.out), by first | rfl | trivial⟩
        case measure => simp [intOf]; omega
      · have hne : ((x.toNat : Int) == 0) = false := by
          rw [beq_eq_false_iff_ne]; intro e; exact h0 (UInt8.toNat_inj.1 (by show x.toNat = 0; omega))
        have HMF : Hid (M = false) := Lib.hid (by
          rw [← Bool.not_eq_true]
          intro h
          have := (HMI.out.1 h).1 k hlt
          rw [HX.out] at this
          injection this with this
          exact h0 this)
        go_wp2_with fail
        go_ret
        exact ⟨by rw [HMF.out]; rfl, rfl⟩
    · have hk10 : k = 10 := by omega
      subst hk10
      obtain ⟨x, hx⟩ : ∃ x, b[10]? = some x := ⟨_, List.getElem?_eq_getElem (by rw [HB.out]; omega)⟩
      obtain ⟨y, hy⟩ : ∃ y, b[11]? = some y := ⟨_, List.getElem?_eq_getElem (by rw [HB.out]; omega)⟩
      have c10 : w.cell? ⟨g, o + 10, none⟩ = some (.int .u8 (x.toNat : Int)) := HC.out 10 x hx
      have c11 : w.cell? ⟨g, o + 11, none⟩ = some (.int .u8 (y.toNat : Int)) := HC.out 11 y hy
      have hi : M = true ↔ (x = 255 ∧ y = 255) := by
        rw [HMI.out, hx, hy]
        constructor
        · rintro ⟨_, h1, h2⟩; injection h1 with h1; injection h2 with h2; exact ⟨h1, h2⟩
        · rintro ⟨h1, h2⟩; exact ⟨HZ.out, by rw [h1], by rw [h2]⟩
      have HI := Lib.hid hi
      clear hx hy hi
      have n255 : ∀ z : UInt8, z ≠ 255 → ((z.toNat : Int) == 255) = false := fun z hz => by
        rw [beq_eq_false_iff_ne]; intro e; exact hz (UInt8.toNat_inj.1 (by show z.toNat = 255; omega))
      by_cases hx : x = 255
      · subst hx
        by_cases hy : y = 255
        · subst hy
          have HM : Hid (M = true) := Lib.hid (HI.out.2 ⟨rfl, rfl⟩)
          clear n255
          go_wp2_with fail
          go_ret
          exact ⟨by rw [HM.out]; rfl, rfl⟩
        · have hyb := n255 y hy
          have HM : Hid (M = false) := Lib.hid (by rw [← Bool.not_eq_true]; intro h; exact hy (HI.out.1 h).2)
          clear n255
          go_wp2_with fail
          go_ret
          exact ⟨by rw [HM.out]; rfl, rfl⟩
      · have hxb := n255 x hx
        have HM : Hid (M = false) := Lib.hid (by rw [← Bool.not_eq_true]; intro h; exact hx (HI.out.1 h).1)
        clear n255
        go_wp2_with fail
        go_ret
        exact ⟨by rw [HM.out]; rfl, rfl⟩

theorem pl.ba (S : ByteArray) (l : List UInt8) (h : S.data.toList = l) : S = ⟨l.toArray⟩ := by rw [← h]
theorem num_app (S : ByteArray) (n : Nat) : (S ++ ⟨(pl.num 10 n).toArray⟩).data.toList = S.data.toList ++ pl.num 10 n := by simp [ByteArray.data_append]

set_option maxRecDepth 100000 in
set_option maxHeartbeats 8000000 in
theorem text4_sp (x y z u : UInt8) (g o cap : Nat) (w : World) (hc : InBlk w g o [x, y, z, u]) :
    Calls Tryd.prog 33 #[.slice (some ⟨g, o, none⟩) 4 cap] w fun e w' => e = .returned (.string ⟨(pl.dots [x, y, z, u]).toArray⟩) ∧ ∃ k, w' = w.drewN k := by
  have c0 : w.cell? ⟨g, o, none⟩ = some (.int .u8 (x.toNat : Int)) := hc 0 x rfl
  have c1 : w.cell? ⟨g, o + 1, none⟩ = some (.int .u8 (y.toNat : Int)) := hc 1 y rfl
  have c2 : w.cell? ⟨g, o + 2, none⟩ = some (.int .u8 (z.toNat : Int)) := hc 2 z rfl
  have c3 : w.cell? ⟨g, o + 3, none⟩ = some (.int .u8 (u.toNat : Int)) := hc 3 u rfl
  have hx := x.toNat_lt
  have hy := y.toNat_lt
  have hz := z.toNat_lt
  have hu := u.toNat_lt
  obtain ⟨NS, hNS⟩ : ∃ NS : UInt8 → ByteArray, NS = fun c => ⟨(pl.num 10 c.toNat).toArray⟩ := ⟨_, rfl⟩
  have hnum : ∀ (c : UInt8) (k : Nat), Calls Tryd.prog 55 #[.int .i64 (c.toNat : Int), .int .i64 10] (w.drewN k) fun e w' => e = .returned (.string (NS c)) ∧ ∃ n, w' = w.drewN n := fun c k => by
    rw [hNS]
    refine (num_10 c.toNat (w.drewN k) (by have := c.toNat_lt; omega)).mono fun e w' ⟨he, n, hn⟩ => ⟨he, k + n, ?_⟩
    rw [hn]; simp
  have HN := Lib.hid hnum
  have HNS : Hid (∀ c, (NS c).data.toList = pl.num 10 c.toNat) := Lib.hid (fun c => by rw [hNS])
  have sx : (NS x).size ≤ 3 := by rw [hNS]; exact (pl.oct_num x).2.2.2
  have sy : (NS y).size ≤ 3 := by rw [hNS]; exact (pl.oct_num y).2.2.2
  have sz : (NS z).size ≤ 3 := by rw [hNS]; exact (pl.oct_num z).2.2.2
  have su : (NS u).size ≤ 3 := by rw [hNS]; exact (pl.oct_num u).2.2.2
  clear hc hnum hNS
  go_enter Tryd.func33, Tryd.ntmps33
  go_wp2_with fail
  go_quiet (first | (go_at_call 55; exact HN.out _ _))
  go_wp2_with fail
  go_ret
  exact ⟨ret_str (pl.ba _ _ (by simp [ByteArray.data_append, HNS.out, pl.dots])), _, rfl⟩

end Go.Proofs.YtfkohahlpfejbaaDoor

/- Text16: WALKS: the reference's Text of 16 bytes. -/
namespace Go.Proofs.YtfkohahlpfejbaaDoor
open Go.RowKit

/-- Block g holds these numbers. -/
def IBlk (w : World) (g : Nat) (l : List Nat) : Prop := Blk w g (l.map (fun n : Nat => Value.int .i64 (n : Int))).toArray 88
theorem IBlk.cell {w : World} {g : Nat} {l : List Nat} (h : IBlk w g l) (k x : Nat) (hx : l[k]? = some x) : w.cell? ⟨g, k, none⟩ = some (.int .i64 (x : Int)) := by
  rw [Blk.cell h k]
  simp [hx]
theorem IBlk.set {w : World} {g : Nat} {l : List Nat} (h : IBlk w g l) (k x : Nat) : IBlk (w.setCell ⟨g, k, none⟩ (.int .i64 (x : Int))) g (l.set k x) := by
  have := Blk.set h k (.int .i64 (x : Int))
  unfold IBlk
  rw [List.map_set, ← List.setIfInBounds_toArray]
  exact this
/-- the run that is known when k groups have been tried -/
def LongV (G : List Nat) (k : Nat) (av lv : Value) : Prop :=
  (av = .int .i64 (-1) ∧ lv = .int .i64 1 ∧ Hid (pl.best G k = (8, 1))) ∨
  (∃ a l : Nat, av = .int .i64 (a : Int) ∧ lv = .int .i64 (l : Int) ∧ a + l ≤ 8 ∧ 2 ≤ l ∧ Hid (pl.best G k = (a, l)))
theorem pl.len_eq (S : ByteArray) : S.data.toList.length = S.size := by simp
theorem pl.z58 (x : UInt8) (h : x ≠ 58) : ((x.toNat : Int) == 58) = false := by
  rw [beq_eq_false_iff_ne]; intro e; exact h (UInt8.toNat_inj.1 (by show x.toNat = 58; omega))
theorem beqN0 (a b : Nat) (h : a ≠ b) : ((a : Int) == (b : Int)) = false := by rw [beq_eq_false_iff_ne]; omega
theorem wraps_i64 (n : Int) (h₀ : 0 ≤ n) (h₁ : n < 2 ^ 63) : IntKind.i64.wrap n = n := by rw [IntKind.wrap_i64]; omega
theorem i64_or8 (x y : Int) (hx₀ : 0 ≤ x) (hx : x % 256 = 0) (hx₁ : x < 9223372036854775808) (hy₀ : 0 ≤ y) (hy : y < 256) : bits .or .i64 x y = x + y :=
  bits_join .i64 63 (by decide) wraps_i64 8 x y hx₀ hx hx₁ hy₀ hy (by omega)
theorem pl.gs_at : ∀ (b : List UInt8) (k : Nat) (x y : UInt8), b[2 * k]? = some x → b[2 * k + 1]? = some y → (pl.gs b)[k]? = some (x.toNat * 256 + y.toNat)
  | [], k, x, y, h, _ => by simp at h
  | [a], k, x, y, _, h => by
    have := (List.getElem?_eq_some_iff.1 h).1
    simp at this
  | a :: c :: r, 0, x, y, h1, h2 => by
    injection h1 with h1
    injection h2 with h2
    subst h1 h2
    rfl
  | a :: c :: r, k + 1, x, y, h1, h2 => by
    show (pl.gs r)[k]? = _
    refine pl.gs_at r k x y ?_ ?_
    · rw [show 2 * (k + 1) = 2 * k + 1 + 1 by omega] at h1; exact h1
    · rw [show 2 * (k + 1) + 1 = 2 * k + 1 + 1 + 1 by omega] at h2; exact h2
theorem pl.fill_one (G : List Nat) (k x : Nat) (h8 : G.length = 8) (hk : k < 8) (hx : G[k]? = some x) : (G.take k ++ List.replicate (8 - k) 0).set k x = G.take (k + 1) ++ List.replicate (8 - (k + 1)) 0 := by
  have hl : (G.take k).length = k := by rw [List.length_take]; omega
  rw [List.set_append_right _ _ (by omega), hl, Nat.sub_self, show 8 - k = 8 - (k + 1) + 1 by omega, List.replicate_succ, List.set_cons_zero, List.take_add_one, hx]
  simp

set_option maxRecDepth 100000 in
set_option maxHeartbeats 40000000 in
theorem text16_sp (b : List UInt8) (hb : b.length = 16) (g o cap : Nat) (w : World) (hc : InBlk w g o b) (hgl : g < w.heap.size) (hcap : 16 ≤ cap) :
    Calls Tryd.prog 33 #[.slice (some ⟨g, o, none⟩) 16 cap] w fun e w' => e = .returned (.string ⟨(pl.text b).toArray⟩) ∧ Below w.heap.size w w' := by
  have hmp := mp_sp b hb g o cap w hc
  unfold pl.text
  rw [if_neg (by omega)]
  by_cases hm : pl.mapped b = true
  · rw [if_pos hm]
    rw [hm] at hmp
    have hd : (b.drop 12).length = 4 := by rw [List.length_drop]; omega
    match hx : b.drop 12, hd with
    | [x, y, z, u], _ =>
      have ht := fun cap2 => text4_sp x y z u g (o + 12) cap2 w (fun k c h => by
        rw [← hx, List.getElem?_drop] at h
        have := hc _ _ h
        rw [show o + 12 + k = o + (12 + k) by omega]; exact this)
      have hl : (pl.dots [x, y, z, u]).length ≤ 15 := by
        have n0 := (pl.oct_num x).2.2.2
        have n1 := (pl.oct_num y).2.2.2
        have n2 := (pl.oct_num z).2.2.2
        have n3 := (pl.oct_num u).2.2.2
        simp only [pl.dots, List.length_append, List.length_cons]; omega
      obtain ⟨D, hD⟩ : ∃ D : ByteArray, (⟨(pl.dots [x, y, z, u]).toArray⟩ : ByteArray) = D := ⟨_, rfl⟩
      have hDd : D.data.toList = pl.dots [x, y, z, u] := by rw [← hD]
      have hDs : D.size ≤ 15 := by rw [← hD]; exact hl
      simp only [hD] at ht
      have HT := Lib.hid ht
      have HMP := Lib.hid hmp
      have HDD := Lib.hid hDd
      have hcn : ¬ cap = 12 := by omega
      have hci : (12 : Int) ≤ (cap : Int) := by omega
      clear ht hmp hDd hD hl hm hc
      go_enter Tryd.func33, Tryd.ntmps33
      go_wp2_with (go_at_call 31; refine HMP.out.mono ?_; rintro e w' ⟨rfl, rfl⟩)
      go_wp2_with (first
        | (go_at_call 33; refine (HT.out _).mono ?_; rintro e w' ⟨rfl, k, rfl⟩))
      go_ret
      exact ⟨ret_str (pl.ba _ _ (by simp [ByteArray.data_append, HDD.out])), below_drewN (Below.refl _ _) _⟩
  · rw [if_neg hm]
    have hmf : pl.mapped b = false := by simpa using hm
    rw [hmf] at hmp
    have hG8 := pl.gs_len 8 b hb
    have hsm : pl.small (pl.gs b) := pl.gs_lt 16 b (by omega)
    have hga := pl.gs_at b
    unfold pl.text6
    obtain ⟨G, hG⟩ : ∃ G, pl.gs b = G := ⟨_, rfl⟩
    rw [hG] at hG8 hsm hga ⊢
    obtain ⟨R, hR⟩ : ∃ R, pl.tx G (pl.best G 8).1 (pl.best G 8).2 8 = R := ⟨_, rfl⟩
    rw [hR]
    obtain ⟨g8, hg8⟩ : ∃ g8, w.heap.size = g8 := ⟨_, rfl⟩
    obtain ⟨W1, hW1⟩ : ∃ W1, w.alloc (Obj.cells (List.replicate 8 (Value.int IntKind.i64 0)).toArray 88) = W1 := ⟨_, rfl⟩
    have hW1' : w.alloc (Obj.cells #[Value.int IntKind.i64 0, Value.int IntKind.i64 0, Value.int IntKind.i64 0, Value.int IntKind.i64 0, Value.int IntKind.i64 0, Value.int IntKind.i64 0, Value.int IntKind.i64 0, Value.int IntKind.i64 0] 88) = W1 := hW1
    have hA : IBlk W1 g8 (List.replicate 8 0) := by rw [← hW1, ← hg8]; exact Blk.new w _ _
    have hb1 : Below g8 w W1 := by rw [← hW1, ← hg8]; exact (Below.refl _ _).alloc (Nat.le_refl _) _
    have hgl8 : g < g8 := by omega
    have HMP := Lib.hid hmp
    have HSM := Lib.hid hsm
    have HR := Lib.hid hR
    have HG8 := Lib.hid hG8
    have HGA := Lib.hid hga
    have HA := Lib.hid hA
    have HB1 := Lib.hid hb1
    have HC := Lib.hid hc
    have HB := Lib.hid hb
    clear hmp hsm hR hG8 hga hA hb1 hc hb hm hmf hG hW1 hgl
    go_enter Tryd.func33, Tryd.ntmps33
    go_upto_block 0 with (go_at_call 31; refine HMP.out.mono ?_; rintro e w' ⟨rfl, rfl⟩)
    go_cut [46, 4] (fun iv z4 wx => Hid (IBlk wx g8 G) ∧ Hid (Below g8 w wx))
    case first =>
     as_aux_lemma =>
      go_wp2_with fail
      go_loopw [46] (fun iv wr => ∃ k : Nat, iv = .int .i64 (k : Int) ∧ k ≤ 8 ∧ Hid (IBlk wr g8 (G.take k ++ List.replicate (8 - k) 0)) ∧ Hid (Below g8 w wr)) (fun iv _ => 8 - (intOf iv).toNat)
      case atStart => exact ⟨0, rfl, by omega, HA, HB1⟩
      case round =>
        obtain ⟨k, rfl, hk, HI, HBW⟩ := hrel
        by_cases hk8 : k < 8
        · obtain ⟨x, hx⟩ : ∃ x, b[2 * k]? = some x := ⟨_, List.getElem?_eq_getElem (by rw [HB.out]; omega)⟩
          obtain ⟨y, hy⟩ : ∃ y, b[2 * k + 1]? = some y := ⟨_, List.getElem?_eq_getElem (by rw [HB.out]; omega)⟩
          have hgk := HGA.out k x y hx hy
          have cx : wr.cell? ⟨g, o + 2 * k, none⟩ = some (.int .u8 (x.toNat : Int)) := by rw [HBW.out.cell (p := ⟨g, o + 2 * k, none⟩) hgl8]; exact HC.out _ _ hx
          have cy : wr.cell? ⟨g, o + (2 * k + 1), none⟩ = some (.int .u8 (y.toNat : Int)) := by rw [HBW.out.cell (p := ⟨g, o + (2 * k + 1), none⟩) hgl8]; exact HC.out _ _ hy
          have hxl := x.toNat_lt
          have hyl := y.toNat_lt
          have hor : bits .or .i64 ((x.toNat : Int) * 256) (y.toNat : Int) = (x.toNat : Int) * 256 + (y.toNat : Int) := i64_or8 _ _ (by omega) (by omega) (by omega) (by omega) (by omega)
          have hlen : (G.take k ++ List.replicate (8 - k) 0).length = 8 := by have := HG8.out; simp; omega
          obtain ⟨zz, hcell⟩ : ∃ v, wr.cell? ⟨g8, k, none⟩ = some v := ⟨_, HI.out.cell k _ (List.getElem?_eq_getElem (by rw [hlen]; omega))⟩
          have hfro : wr.frozen? ⟨g8, k, none⟩ = false := Blk.frozen HI.out k
          have hset := HI.out.set k (x.toNat * 256 + y.toNat)
          rw [pl.fill_one G k _ HG8.out hk8 hgk, show ((x.toNat * 256 + y.toNat : Nat) : Int) = (x.toNat : Int) * 256 + (y.toNat : Int) by omega] at hset
          have HSET := Lib.hid hset
          have hk0 : (0 : Int) ≤ (k : Int) := by omega
          have h2k : (0 : Int) ≤ 2 * (k : Int) := by omega
          have h2k1 : 2 * (k : Int) + 1 < 16 := by omega
          have h2k2 : 2 * (k : Int) < 16 := by omega
          clear hx hy hgk hset hlen
          go_wp2_with fail
          go_region
          go_wp2_with fail
          refine ⟨⟨k + 1, by go_num, by omega, Lib.hid (Blk.keep HSET.out rfl), Lib.hid (below_drewN (HBW.out.setCell (p := ⟨g8, k, none⟩) (Nat.le_refl _) _) 1)⟩, ?_⟩
          simp [intOf]; omega
        · have hk8' : k = 8 := by omega
          subst hk8'
          go_wp2_with fail
          go_meet
          case rel => exact ⟨Lib.hid (by have h := HI.out; rw [List.take_of_length_le (by rw [HG8.out]; omega), Nat.sub_self, List.replicate_zero, List.append_nil] at h; exact h), HBW⟩
    case rest =>
      obtain ⟨HI, HBW⟩ := hcut
      go_upto_block 2 with fail
      go_cut [67, 5, 6, 7, 8] (fun z67 av lv z7 z8 wx => LongV G 8 av lv ∧ wx = wc)
      case first =>
       as_aux_lemma =>
        go_wp2_with fail
        go_loopw [5, 6, 67] (fun av lv iv wr => ∃ k : Nat, iv = .int .i64 (k : Int) ∧ k ≤ 8 ∧ LongV G k av lv ∧ wr = wc) (fun _ _ iv _ => 8 - (intOf iv).toNat)
        case atStart => exact ⟨0, rfl, by omega, .inl ⟨rfl, rfl, Lib.hid rfl⟩, rfl⟩
        case round =>
          obtain ⟨k, rfl, hk, HBV, hwr⟩ := hrel
          replace hwr := hwr.symm
          subst hwr
          by_cases hk8 : k < 8
          · have hd8 : decide ((k : Int) < 8) = true := decide_eq_true (by omega)
            go_wp2_with fail
            clear hd8
            go_loopg [8] (8 - k) (fun n nv wi => ∃ m : Nat, nv = .int .i64 (m : Int) ∧ k + m ≤ 8 ∧ Hid (n + (k + m) = 8) ∧ Hid (pl.run0 G k = m + pl.run0 G (k + m)) ∧ wi = wc)
            case atStart => exact ⟨0, rfl, by omega, Lib.hid (by omega), Lib.hid (by simp), rfl⟩
            case round =>
              obtain ⟨m, rfl, hkm, HN, HR0, hwi⟩ := hrel
              replace hwi := hwi.symm
              subst hwi
              by_cases hlt : k + m < 8
              · obtain ⟨x, hx⟩ : ∃ x, G[k + m]? = some x := ⟨_, List.getElem?_eq_getElem (by rw [HG8.out]; exact hlt)⟩
                have HXE : Hid (∀ h : k + m < G.length, G[k + m] = x) := Lib.hid (fun h => (List.getElem?_eq_some_iff.1 hx).2)
                have hcell := HI.out.cell (k + m) x hx
                have hltI : (k : Int) + (m : Int) < 8 := by omega
                have hge : (0 : Int) ≤ (k : Int) + (m : Int) := by omega
                clear hx
                by_cases hx0 : x = 0
                · subst hx0
                  have HR2 : Hid (pl.run0 G k = m + 1 + pl.run0 G (k + (m + 1))) := Lib.hid (pl.run0_go G k m (by rw [HG8.out]; exact hlt) (HXE.out _) HR0.out)
                  go_wp2_with fail
                  go_roundg (gk - 1)
                  case rel => exact ⟨m + 1, by go_num, by omega, Lib.hid (by have := HN.out; omega), HR2, by first | rfl | trivial⟩
                  case measure => have := HN.out; omega
                · have HRUN : Hid (pl.run0 G k = m) := Lib.hid (by
                    rw [HR0.out, pl.run0_stop G (k + m) (by rw [HG8.out]; exact hlt) (by rw [HXE.out _]; exact hx0)]; rfl)
                  have hxb : ((x : Int) == 0) = false := beqN0 x 0 hx0
                  clear HR0
                  rcases HBV with ⟨rfl, rfl, HB0⟩ | ⟨a, l, rfl, rfl, hal, hl2, HB0⟩
                  · by_cases h2 : 1 < m
                    · have HB2 : Hid (pl.best G (k + 1) = (k, m)) := Lib.hid (by rw [pl.best_take G k (by rw [HB0.out, HRUN.out]; exact h2), HRUN.out])
                      go_wp2_with fail
                      go_roundw
                      case rel => exact ⟨k + 1, by go_num, by omega, .inr ⟨k, m, rfl, rfl, hkm, h2, HB2⟩, by first | rfl | trivial⟩
                      case measure => simp [intOf]; omega
                    · have HB2 : Hid (pl.best G (k + 1) = (8, 1)) := Lib.hid (by rw [pl.best_leave G k (by rw [HB0.out, HRUN.out]; exact fun h => h2 h), HB0.out])
                      go_wp2_with fail
                      go_roundw
                      case rel => exact ⟨k + 1, by go_num, by omega, .inl ⟨rfl, rfl, HB2⟩, by first | rfl | trivial⟩
                      case measure => simp [intOf]; omega
                  · by_cases h2 : l < m
                    · have HB2 : Hid (pl.best G (k + 1) = (k, m)) := Lib.hid (by rw [pl.best_take G k (by rw [HB0.out, HRUN.out]; exact h2), HRUN.out])
                      go_wp2_with fail
                      go_roundw
                      case rel => exact ⟨k + 1, by go_num, by omega, .inr ⟨k, m, rfl, rfl, hkm, by omega, HB2⟩, by first | rfl | trivial⟩
                      case measure => simp [intOf]; omega
                    · have HB2 : Hid (pl.best G (k + 1) = (a, l)) := Lib.hid (by rw [pl.best_leave G k (by rw [HB0.out, HRUN.out]; exact h2), HB0.out])
                      go_wp2_with fail
                      go_roundw
                      case rel => exact ⟨k + 1, by go_num, by omega, .inr ⟨a, l, rfl, rfl, hal, hl2, HB2⟩, by first | rfl | trivial⟩
                      case measure => simp [intOf]; omega
              · have HRUN : Hid (pl.run0 G k = m) := Lib.hid (by
                  rw [HR0.out, pl.run0_end G (k + m) (by rw [HG8.out]; omega)]; rfl)
                have hltI : ¬ (k : Int) + (m : Int) < 8 := by omega
                clear HR0
                rcases HBV with ⟨rfl, rfl, HB0⟩ | ⟨a, l, rfl, rfl, hal, hl2, HB0⟩
                · by_cases h2 : 1 < m
                  · have HB2 : Hid (pl.best G (k + 1) = (k, m)) := Lib.hid (by rw [pl.best_take G k (by rw [HB0.out, HRUN.out]; exact h2), HRUN.out])
                    go_wp2_with fail
                    go_roundw
                    case rel => exact ⟨k + 1, by go_num, by omega, .inr ⟨k, m, rfl, rfl, hkm, h2, HB2⟩, by first | rfl | trivial⟩
                    case measure => simp [intOf]; omega
                  · have HB2 : Hid (pl.best G (k + 1) = (8, 1)) := Lib.hid (by rw [pl.best_leave G k (by rw [HB0.out, HRUN.out]; exact fun h => h2 h), HB0.out])
                    go_wp2_with fail
                    go_roundw
                    case rel => exact ⟨k + 1, by go_num, by omega, .inl ⟨rfl, rfl, HB2⟩, by first | rfl | trivial⟩
                    case measure => simp [intOf]; omega
                · by_cases h2 : l < m
                  · have HB2 : Hid (pl.best G (k + 1) = (k, m)) := Lib.hid (by rw [pl.best_take G k (by rw [HB0.out, HRUN.out]; exact h2), HRUN.out])
                    go_wp2_with fail
                    go_roundw
                    case rel => exact ⟨k + 1, by go_num, by omega, .inr ⟨k, m, rfl, rfl, hkm, by omega, HB2⟩, by first | rfl | trivial⟩
                    case measure => simp [intOf]; omega
                  · have HB2 : Hid (pl.best G (k + 1) = (a, l)) := Lib.hid (by rw [pl.best_leave G k (by rw [HB0.out, HRUN.out]; exact h2), HB0.out])
                    go_wp2_with fail
                    go_roundw
                    case rel => exact ⟨k + 1, by go_num, by omega, .inr ⟨a, l, rfl, rfl, hal, hl2, HB2⟩, by first | rfl | trivial⟩
                    case measure => simp [intOf]; omega
          · have hk8' : k = 8 := by omega
            subst hk8'
            go_wp2_with fail
            go_meet
            case rel => exact ⟨HBV, rfl⟩
      case rest =>
        obtain ⟨HBV, hwc⟩ := hcut
        subst hwc
        obtain ⟨A, L, at', rfl, rfl, HB0, hL1, hcase⟩ : ∃ (A L : Nat) (at' : Int), u5 = .int .i64 at' ∧ u6 = .int .i64 (L : Int) ∧ Hid (pl.best G 8 = (A, L)) ∧ 1 ≤ L ∧ ((A = 8 ∧ at' = -1 ∧ L = 1) ∨ (A < 8 ∧ at' = (A : Int) ∧ A + L ≤ 8)) := by
          rcases HBV with ⟨rfl, rfl, HB0⟩ | ⟨a, l, rfl, rfl, hal, hl2, HB0⟩
          · exact ⟨8, 1, -1, rfl, rfl, HB0, by omega, .inl ⟨rfl, rfl, rfl⟩⟩
          · exact ⟨a, l, a, rfl, rfl, HB0, by omega, .inr ⟨by omega, rfl, hal⟩⟩
        have HT : Hid (pl.tx G A L 8 = R) := Lib.hid (by rw [← HR.out, HB0.out])
        have HCASE := Lib.hid hcase
        have HL1 := Lib.hid hL1
        have hL8 : L ≤ 8 := by omega
        clear hcase
        go_wp2_with fail
        go_loopw [9, 10] (fun ov iv wr => ∃ (k n : Nat) (O : ByteArray), ov = .string O ∧ iv = .int .i64 (k : Int) ∧ k ≤ 8 ∧ Hid (k ≤ A ∨ A + L ≤ k) ∧ Hid (O.data.toList = pl.tx G A L k) ∧ O.size ≤ 100 ∧ wr = wc.drewN n) (fun _ iv _ => 8 - (intOf iv).toNat)
        case atStart => exact ⟨0, 0, ⟨#[]⟩, rfl, rfl, by omega, Lib.hid (by omega), Lib.hid (by rw [pl.tx_zero]), by decide, rfl⟩
        case round =>
          obtain ⟨k, n, O, rfl, rfl, hk, HK, HO, hOs, rfl⟩ := hrel
          by_cases hk8 : k < 8
          · by_cases hka : (k : Int) = at'
            · have hkA : k = A ∧ A + L ≤ 8 := by
                rcases HCASE.out with ⟨_, h, _⟩ | ⟨_, h, h2⟩ <;> omega
              have hrun := pl.tx_run G A L HL1.out (by rw [HG8.out]; exact hkA.2)
              have HTX : Hid ((O ++ ⟨#[58, 58]⟩).data.toList = pl.tx G A L (k + L)) := Lib.hid (by
                rw [ByteArray.data_append, Array.toList_append, HO.out, hkA.1, ← hrun])
              have HSZ : Hid ((O ++ (⟨#[58, 58]⟩ : ByteArray)).size ≤ 100) := Lib.hid (by
                have h := pl.tx_len G HSM.out HG8.out A L (k + L)
                rw [← HTX.out, pl.len_eq] at h
                exact h)
              have hkL : k + L ≤ 8 := by omega
              have hAk : Hid (A = k) := Lib.hid hkA.1.symm
              have HKL : Hid (A + L ≤ k + L) := Lib.hid (by omega)
              have hat : at' = (k : Int) := hka.symm
              clear hrun hkA hka
              subst hat
              go_wp2_with fail
              go_roundw
              case rel => exact ⟨k + L, _, _, rfl, by go_num, hkL, Lib.hid (.inr HKL.out), HTX, HSZ.out, rfl⟩
              case measure => simp [intOf]; omega
            · obtain ⟨x, hx⟩ : ∃ x, G[k]? = some x := ⟨_, List.getElem?_eq_getElem (by rw [HG8.out]; exact hk8)⟩
              have hxe : ∀ h : k < G.length, G[k] = x := fun h => (List.getElem?_eq_some_iff.1 hx).2
              have hx16 : x < 65536 := HSM.out x (List.mem_of_getElem? hx)
              have hkA : k < A ∨ A + L ≤ k := by
                have := HK.out
                rcases HCASE.out with ⟨_, h, _⟩ | ⟨_, h, h2⟩ <;> omega
              have hkb : ((k : Int) == at') = false := by rw [beq_eq_false_iff_ne]; exact hka
              have hcell := HI.out.cell k x hx
              have hcd : ∀ n, (wc.drewN n).cell? ⟨g8, k, none⟩ = some (.int .i64 (x : Int)) := fun n => hcell
              obtain ⟨NX, hNX⟩ : ∃ NX : ByteArray, (⟨(pl.num 16 x).toArray⟩ : ByteArray) = NX := ⟨_, rfl⟩
              have hnx : NX.data.toList = pl.num 16 x := by rw [← hNX]
              have hns : NX.size ≤ 4 := by rw [← hNX]; exact (pl.okG_num x hx16).2.2
              have hnum : ∀ W, Calls Tryd.prog 55 #[.int .i64 (x : Int), .int .i64 16] W fun e w' => e = .returned (.string NX) ∧ ∃ k, w' = W.drewN k := fun W => by rw [← hNX]; exact num_16 x W (by omega)
              have hsep := pl.tx_sep G HSM.out A L k (by rw [HG8.out]; exact hk8) HL1.out hkA
              have hk0 : (0 : Int) ≤ (k : Int) := by omega
              rw [← HO.out] at hsep
              have HNUM := Lib.hid hnum
              have HKA := Lib.hid hkA
              by_cases hb : pl.bare A L k
              · have htx := pl.tx_bare G A L k (by rw [HG8.out]; exact hk8) HL1.out hkA hb
                rw [hxe _, ← HO.out, ← hnx] at htx
                have HTX : Hid ((O ++ NX).data.toList = pl.tx G A L (k + 1)) := Lib.hid (by
                  rw [ByteArray.data_append, Array.toList_append, htx])
                have HSZ : Hid ((O ++ NX).size ≤ 100) := Lib.hid (by
                  have h := pl.tx_len G HSM.out HG8.out A L (k + 1)
                  rw [← HTX.out, pl.len_eq] at h
                  exact h)
                have hs1 := hsep.1 hb
                clear htx hb hsep hnum hnx hNX hcell hxe hx hkA hka
                by_cases hO0 : O.size = 0
                · have he := pl.emp_of O hO0
                  clear hs1
                  go_wp2_with (go_at_call 55; refine (HNUM.out _).mono ?_; rintro e w' ⟨rfl, n2, rfl⟩)
                  go_roundw
                  case rel => exact ⟨k + 1, _, _, rfl, by go_num, by omega, Lib.hid (by have := HKA.out; have := HL1.out; omega), HTX, HSZ.out, rfl⟩
                  case measure => simp [intOf]; omega
                · have he := pl.ne_empty O hO0
                  have hlast : O[O.size - 1] = 58 := by
                    rcases hs1 with h | h
                    · exact absurd (by have := congrArg List.length h; simpa using this) hO0
                    · rw [List.getLast?_eq_getElem?] at h
                      have hl : O.data.toList.length = O.size := by simp
                      rw [hl, pl.getElem_data O (O.size - 1) (by omega)] at h
                      injection h
                  have hl58 : ((O[O.size - 1].toNat : Int) == 58) = true := by rw [hlast]; rfl
                  clear hs1
                  go_wp2_with (go_at_call 55; refine (HNUM.out _).mono ?_; rintro e w' ⟨rfl, n2, rfl⟩)
                  go_roundw
                  case rel => exact ⟨k + 1, _, _, rfl, by go_num, by omega, Lib.hid (by have := HKA.out; have := HL1.out; omega), HTX, HSZ.out, rfl⟩
                  case measure => simp [intOf]; omega
              · have htx := pl.tx_colon G A L k (by rw [HG8.out]; exact hk8) HL1.out hkA hb
                rw [hxe _, ← HO.out, ← hnx] at htx
                have HTX : Hid ((O ++ ⟨#[58]⟩ ++ NX).data.toList = pl.tx G A L (k + 1)) := Lib.hid (by
                  rw [ByteArray.data_append, ByteArray.data_append, Array.toList_append, Array.toList_append, htx]; simp)
                have HSZ : Hid ((O ++ (⟨#[58]⟩ : ByteArray) ++ NX).size ≤ 100) := Lib.hid (by
                  have h := pl.tx_len G HSM.out HG8.out A L (k + 1)
                  rw [← HTX.out, pl.len_eq] at h
                  exact h)
                obtain ⟨hne, z, hz, hz58⟩ := hsep.2 hb
                have hO0 : O.size ≠ 0 := fun h => hne (pl.nil_of O h)
                have he := pl.ne_empty O hO0
                have hlast : O[O.size - 1] = z := by
                  rw [List.getLast?_eq_getElem?] at hz
                  have hl : O.data.toList.length = O.size := by simp
                  rw [hl, pl.getElem_data O (O.size - 1) (by omega)] at hz
                  injection hz
                have hzb := (pl.z58 z hz58)
                clear htx hb hsep hnum hnx hNX hcell hxe hx hkA hka hne hz hz58
                go_wp2_with (go_at_call 55; refine (HNUM.out _).mono ?_; rintro e w' ⟨rfl, n2, rfl⟩)
                go_roundw
                case rel => exact ⟨k + 1, _, _, rfl, by go_num, by omega, Lib.hid (by have := HKA.out; have := HL1.out; omega), HTX, HSZ.out, rfl⟩
                case measure => simp [intOf]; omega
          · have hk8' : k = 8 := by omega
            subst hk8'
            have HRR : Hid (O = ⟨R.toArray⟩) := Lib.hid (pl.ba _ _ (by rw [HO.out, HT.out]))
            go_wp2_with fail
            go_ret
            exact ⟨ret_str HRR.out, hg8 ▸ below_drewN HBW.out _⟩

end Go.Proofs.YtfkohahlpfejbaaDoor

/- Vars: The variables of net/netip, out of the row's condition. -/
namespace Go.Proofs.YtfkohahlpfejbaaDoor
open Go.RowKit

theorem cells_h : Tryd.prog.cellsOf 117 = 1 := by kernel_rfl
theorem cells_p : Tryd.prog.cellsOf 115 = 1 := by kernel_rfl
theorem cells_d : Tryd.prog.cellsOf 146 = 2 := by kernel_rfl
theorem cells_b : Tryd.prog.cellsOf 4 = 1 := by kernel_rfl
theorem cells_s : Tryd.prog.cellsOf 9 = 1 := by kernel_rfl

theorem bool_of_trod {P : Program} {W : World} {t : TypeId} {n : Nat} {x : Value} {b : Bool} {p : List MemPlace} (hu : P.underlying t = some .bool) (h : DataW.trod (fun _ => ()) P W 0 (fun _ => true) false n t [x] = some (.lit (.bool b), p)) : x = .bool b ∧ p = [] := by
  cases n with
  | zero => simp [DataW.trod] at h
  | succ n => cases x <;> simp [DataW.trod, hu] at h <;> simp [h]
theorem empty_of_trod {P : Program} {W : World} {t : TypeId} {n : Nat} {x : Value} {p : List MemPlace} (hu : P.underlying t = some .string) (h : DataW.trod (fun _ => ()) P W 0 (fun _ => true) false n t [x] = some (.lit (.string []), p)) : x = .string ⟨#[]⟩ ∧ p = [] := by
  cases n with
  | zero => simp [DataW.trod] at h
  | succ n =>
    cases x <;> simp [DataW.trod, hu] at h
    rename_i s
    obtain ⟨_, h1, h2⟩ := h
    refine ⟨?_, h2⟩
    obtain ⟨d⟩ := s
    simp at h1
    rw [h1]
theorem handle_any {P : Program} {W : World} {t1 t2 t3 tb ts : TypeId} {F0 F1 F2 : Field} {l : List Value} {p : List MemPlace} {b : Bool}
    (hu1 : P.underlying t1 = some (.struct #[F0])) (h0 : F0.type = t2) (o0 : F0.offset = 0) (c1 : P.cellsOf t1 = 1)
    (hu2 : P.underlying t2 = some (.pointer t3)) (c2 : P.cellsOf t2 = 1)
    (hu3 : P.underlying t3 = some (.struct #[F1, F2])) (h1 : F1.type = tb) (o1 : F1.offset = 0) (h2 : F2.type = ts) (o2 : F2.offset = 1) (c3 : P.cellsOf t3 = 2)
    (hub : P.underlying tb = some .bool) (cb : P.cellsOf tb = 1) (hus : P.underlying ts = some .string) (cs' : P.cellsOf ts = 1) {fuel : Nat}
    (h : DataW.trod (fun _ => ()) P W 0 (fun _ => true) false fuel t1 l = some (.agg [.ptr (.agg [.lit (.bool b), .lit (.string [])])], p)) :
    ∃ a : Addr, l = [.pointer (some a)] ∧ W.cell? a = some (.bool b) ∧ W.cell? (a.add 1) = some (.string ⟨#[]⟩) ∧ p = MemPlace.row a 2 := by
  match fuel, h with
  | 0, h => simp [DataW.trod] at h
  | n1 + 1, h =>
    simp only [DataW.trod, hu1, c1] at h
    match l, h with
    | [], h => simp at h
    | _ :: _ :: _, h => simp at h
    | [v], h =>
      simp only [List.length_singleton, if_true, List.mapM_cons, List.mapM_nil, h0, o0, c2, List.drop_zero, List.take_succ_cons, List.take_zero] at h
      match n1, h with
      | 0, h => simp [DataW.trod] at h
      | n2 + 1, h =>
        obtain ⟨ov, rfl⟩ : ∃ ov, v = .pointer ov := by
          cases v <;> first | exact ⟨_, rfl⟩ | (exfalso; simp [DataW.trod, hu2] at h)
        match ov, h with
        | some a, h =>
          simp only [DataW.trod, hu2, c3] at h
          cases hcs : W.cells? 0 a 2 with
          | none => simp [hcs] at h
          | some cs =>
            rw [hcs] at h
            simp only [Option.bind_some] at h
            match n2, h with
            | 0, h => simp [DataW.trod] at h
            | n3 + 1, h =>
              simp only [DataW.trod, hu3, c3] at h
              match cs, hcs, h with
              | [], _, h => simp at h
              | [_], _, h => simp at h
              | _ :: _ :: _ :: _, _, h => simp at h
              | [x, y], hcs, h =>
                simp only [List.length_cons, List.length_nil, if_true, List.mapM_cons, List.mapM_nil, h1, o1, h2, o2, cb, cs', List.drop_zero, List.take_succ_cons, List.take_zero, List.drop_succ_cons] at h
                cases hA : DataW.trod (fun _ => ()) P W 0 (fun _ => true) false n3 tb [x] with
                | none => simp [hA] at h
                | some rA =>
                  cases hB : DataW.trod (fun _ => ()) P W 0 (fun _ => true) false n3 ts [y] with
                  | none => simp [hA, hB] at h
                  | some rB =>
                    obtain ⟨dA, pA⟩ := rA
                    obtain ⟨dB, pB⟩ := rB
                    simp [hA, hB] at h
                    obtain ⟨⟨rfl, rfl⟩, hp⟩ := h
                    obtain ⟨rfl, rfl⟩ := bool_of_trod hub hA
                    obtain ⟨rfl, rfl⟩ := empty_of_trod hus hB
                    simp [World.cells?, List.range_succ, List.mapM_cons] at hcs
                    have ha0 : a.add 0 = a := by cases a; simp [Addr.add]
                    rw [ha0] at hcs
                    cases hc0 : W.cell? a with
                    | none => simp [hc0] at hcs
                    | some v0 =>
                      cases hc1 : W.cell? (a.add 1) with
                      | none => simp [hc0, hc1] at hcs
                      | some v1 =>
                        simp [hc0, hc1] at hcs
                        exact ⟨a, rfl, by rw [hc0, hcs.1], by rw [hc1, hcs.2], by rw [← hp]; simp⟩
        | none, h => simp [DataW.trod, hu2] at h

theorem nil_any {P : Program} {W : World} {t1 t2 t3 : TypeId} {F0 : Field} {l : List Value} {p : List MemPlace}
    (hu1 : P.underlying t1 = some (.struct #[F0])) (h0 : F0.type = t2) (o0 : F0.offset = 0) (c1 : P.cellsOf t1 = 1)
    (hu2 : P.underlying t2 = some (.pointer t3)) (c2 : P.cellsOf t2 = 1) {fuel : Nat}
    (h : DataW.trod (fun _ => ()) P W 0 (fun _ => true) false fuel t1 l = some (.agg [.nil], p)) : l = [.pointer none] ∧ p = [] := by
  match fuel, h with
  | 0, h => simp [DataW.trod] at h
  | n1 + 1, h =>
    simp only [DataW.trod, hu1, c1] at h
    match l, h with
    | [], h => simp at h
    | _ :: _ :: _, h => simp at h
    | [v], h =>
      simp only [List.length_singleton, if_true, List.mapM_cons, List.mapM_nil, h0, o0, c2, List.drop_zero, List.take_succ_cons, List.take_zero] at h
      match n1, h with
      | 0, h => simp [DataW.trod] at h
      | n2 + 1, h =>
        obtain ⟨ov, rfl⟩ : ∃ ov, v = .pointer ov := by
          cases v <;> first | exact ⟨_, rfl⟩ | (exfalso; simp [DataW.trod, hu2] at h)
        match ov, h with
        | none, h =>
          simp [DataW.trod, hu2] at h
          exact ⟨rfl, h⟩
        | some a, h =>
          simp only [DataW.trod, hu2] at h
          cases hb : (W.cells? 0 a (P.cellsOf t3)).bind (DataW.trod (fun _ => ()) P W 0 (fun _ => true) false n2 t3) with
          | none => simp [hb] at h
          | some r => simp [hb] at h

theorem g_z4 : Tryd.prog.globalNamed "net/netip.z4" = some 1 := by kernel_rfl
theorem g_z6 : Tryd.prog.globalNamed "net/netip.z6noz" = some 2 := by kernel_rfl
theorem g_z0 : Tryd.prog.globalNamed "net/netip.z0" = some 0 := by kernel_rfl
theorem t_z4 : (Tryd.prog.globals[1]?).map (·.type) = some 117 := by kernel_rfl
theorem t_z6 : (Tryd.prog.globals[2]?).map (·.type) = some 117 := by kernel_rfl
theorem t_z0 : (Tryd.prog.globals[0]?).map (·.type) = some 117 := by kernel_rfl

theorem ip_of_laid {W : World} (h : laidMet Tryd.prog [("net/netip.z4", Rows.laid_net_netip_z4), ("net/netip.z6noz", Rows.laid_net_netip_z6noz), ("net/netip.z0", Rows.laid_net_netip_z0)] W) : ∃ g4 o4 g6 o6, IpVars W g4 o4 g6 o6 := by
  obtain ⟨ps, ⟨g0, t0, cs0, f0, p0, q0, hg0, ht0, hv0, hd0, ⟨g1, t1, cs1, f1, p1, q1, hg1, ht1, hv1, hd1, ⟨g2, t2, cs2, f2, p2, q2, hg2, ht2, hv2, hd2, hq2, e2⟩, e1⟩, e0⟩, hnd, hrows⟩ := h
  obtain rfl := Option.some.inj (g_z4.symm.trans hg0)
  obtain rfl := Option.some.inj (g_z6.symm.trans hg1)
  obtain rfl := Option.some.inj (g_z0.symm.trans hg2)
  obtain rfl := Option.some.inj (t_z4.symm.trans ht0)
  obtain rfl := Option.some.inj (t_z6.symm.trans ht1)
  obtain rfl := Option.some.inj (t_z0.symm.trans ht2)
  have hq2' : q2 = [] := hq2
  subst hq2'
  subst e2
  subst e1
  subst e0
  obtain ⟨l0⟩ := cs0
  obtain ⟨l1⟩ := cs1
  obtain ⟨l2⟩ := cs2
  obtain ⟨a, rfl, ha0, ha1, rfl⟩ := handle_any Tryd.underlying117 rfl rfl cells_h Tryd.underlying115 cells_p Tryd.underlying146 rfl rfl rfl rfl cells_d Tryd.underlying4 cells_b Tryd.underlying9 cells_s hd0
  obtain ⟨b, rfl, hb0, hb1, rfl⟩ := handle_any Tryd.underlying117 rfl rfl cells_h Tryd.underlying115 cells_p Tryd.underlying146 rfl rfl rfl rfl cells_d Tryd.underlying4 cells_b Tryd.underlying9 cells_s hd1
  obtain ⟨rfl, rfl⟩ := nil_any Tryd.underlying117 rfl rfl cells_h Tryd.underlying115 cells_p hd2
  obtain ⟨ca, ta, hba⟩ := (hrows a.block a.off (by simp [MemPlace.row, List.range_succ])).1
  obtain ⟨cb, tb, hbb⟩ := (hrows b.block b.off (by simp [MemPlace.row, List.range_succ])).1
  obtain ⟨ga, oa, sa⟩ := a
  obtain ⟨gb, ob, sb⟩ := b
  have hsa : sa = none := World.cell?_spot ha0
  have hsb : sb = none := World.cell?_spot hb0
  subst hsa
  subst hsb
  have k4 := World.var?_cell g_z4 hv0 0
  have k6 := World.var?_cell g_z6 hv1 0
  have k0 := World.var?_cell g_z0 hv2 0
  refine ⟨ga, oa, gb, ob, ?_⟩
  refine ⟨by simpa using k0, by simpa using k4, by simpa using k6, ?_, by simpa [Addr.add] using ha1, by simpa [Addr.add] using hb1, ha0, hb0, ⟨_, _, hba⟩, ⟨_, _, hbb⟩⟩
  rintro ⟨rfl, rfl⟩
  simp [MemPlace.row, List.range_succ] at hnd

end Go.Proofs.YtfkohahlpfejbaaDoor

/- Address: WALK: the reference's Address. -/
namespace Go.Proofs.YtfkohahlpfejbaaDoor
open Go.RowKit

theorem pl.dd_step (s : ByteArray) (i : Nat) (h : i + 2 ≤ s.size) (hi : pl.dd s.data.toList = (pl.dd (s.data.toList.drop i)).map (· + i)) (hn : ¬ (s[i] = 58 ∧ s[i + 1] = 58)) :
    pl.dd s.data.toList = (pl.dd (s.data.toList.drop (i + 1))).map (· + (i + 1)) := by
  rw [hi, pl.drop_cons' s i (by omega), pl.drop_cons' s (i + 1) (by omega), pl.dd, if_neg hn, Option.map_map]
  congr 1
  funext x
  simp; omega
theorem pl.dd_hit (s : ByteArray) (i : Nat) (h : i + 2 ≤ s.size) (hi : pl.dd s.data.toList = (pl.dd (s.data.toList.drop i)).map (· + i)) (hn : s[i] = 58 ∧ s[i + 1] = 58) : pl.dd s.data.toList = some i := by
  rw [hi, pl.drop_cons' s i (by omega), pl.drop_cons' s (i + 1) (by omega), pl.dd, if_pos hn]
  simp
theorem pl.dd_last (s : ByteArray) (i : Nat) (h : s.size ≤ i + 1) (hi : pl.dd s.data.toList = (pl.dd (s.data.toList.drop i)).map (· + i)) : pl.dd s.data.toList = none := by
  have hl : s.data.toList.length = s.size := by simp
  have : (s.data.toList.drop i).length ≤ 1 := by rw [List.length_drop]; omega
  rw [hi]
  match hd : s.data.toList.drop i, this with
  | [], _ => rfl
  | [a], _ => rfl
  | a :: b :: r, h => simp at h

theorem pl.addr_four (s b : List UInt8) (h : pl.four s = some b) : pl.addr s = some b := by unfold pl.addr; rw [h]
theorem pl.addr_no (s : List UInt8) (h : pl.four s = none) (hd : pl.dd s = none) : pl.addr s = (match pl.groups s true with
    | some b => if b.length = 16 then some b else none
    | none => none) := by unfold pl.addr; rw [h, hd]; rfl
theorem pl.addr_dd (s : List UInt8) (k : Nat) (h : pl.four s = none) (hd : pl.dd s = some k) : pl.addr s = (match pl.groups (s.take k) false, pl.groups (s.drop (k + 2)) true with
      | some a, some b => if 14 < a.length + b.length then none else some (a ++ List.replicate (16 - a.length - b.length) 0 ++ b)
      | _, _ => none) := by unfold pl.addr; rw [h, hd]; rfl

theorem pl.ext2 (s : ByteArray) (i : Nat) (h : i + 2 ≤ s.size) : (s.extract i (i + 2)).toList = [s[i], s[i + 1]] := by
  rw [Lib.toList_data, Lib.extract_eq]
  show (List.take (i + 2 - i) (List.drop i s.data.toList)) = _
  rw [show i + 2 - i = 2 by omega, pl.drop_cons' s i (by omega), pl.drop_cons' s (i + 1) (by omega)]
  rfl

theorem pl.grps_len (last : Bool) : ∀ (ps : List (List UInt8)) (b : List UInt8), pl.grps last ps = some b → b.length ≤ 2 * ps.length + 2
  | [], b, h => by injection h with h; subst h; simp
  | [p], b, h => by
    simp only [pl.grps] at h
    split at h
    · rename_i c hc
      injection h with h
      subst h
      split at hc
      · have := pl.four_l4 _ _ hc; simp; omega
      · cases hc
    · unfold pl.hexG at h
      split at h
      · injection h with h; subst h; simp
      · cases h
  | p :: q :: r, b, h => by
    simp only [pl.grps] at h
    split at h
    · rename_i a c ha hc
      injection h with h
      subst h
      have h1 := pl.grps_len last (q :: r) c hc
      have h2 : a.length = 2 := by
        unfold pl.hexG at ha
        split at ha
        · injection ha with ha; subst ha; rfl
        · cases ha
      simp only [List.length_append, List.length_cons] at h1 ⊢
      omega
    · cases h

theorem pl.groups_len (s : ByteArray) (l b : List UInt8) (last : Bool) (hl : s.data.toList = l) (h : pl.groups l last = some b) : b.length ≤ 2 * s.size + 4 := by
  subst hl
  unfold pl.groups at h
  split at h
  · injection h with h; subst h; simp
  · have h1 := pl.grps_len last _ b h
    have h2 := pl.split_len 58 s
    omega

theorem groups_no (s : ByteArray) (last : Bool) (l : List UInt8) (w : World) (hl : s.data.toList = l) (hs : s.size ≤ 2147483648) (h : pl.groups l last = none) :
    Calls Tryd.prog 44 #[.string s, .bool last] w fun e w' => ∃ a n c, e = .returned (.tuple #[.slice a n c, .bool false]) ∧ Below w.heap.size w w' := by
  subst hl
  refine (groups_sp s last w hs).mono fun e w' hr => ?_
  rw [h] at hr
  obtain ⟨hb, ⟨v, l, h1, _⟩ | ⟨_, a, n, c, he⟩⟩ := hr
  · cases h1
  · exact ⟨a, n, c, he, hb⟩

theorem groups_yes (s : ByteArray) (last : Bool) (l b : List UInt8) (w : World) (hl : s.data.toList = l) (hs : s.size ≤ 2147483648) (h : pl.groups l last = some b) :
    Calls Tryd.prog 44 #[.string s, .bool last] w fun e w' => ∃ v, e = .returned (.tuple #[v, .bool true]) ∧ Byts w' w.heap.size v b ∧ Below w.heap.size w w' := by
  subst hl
  refine (groups_sp s last w hs).mono fun e w' hr => ?_
  rw [h] at hr
  obtain ⟨hb, ⟨v, l, h1, he, hY⟩ | ⟨h1, _⟩⟩ := hr
  · injection h1 with h1; subst h1; exact ⟨v, he, hY, hb⟩
  · cases h1

theorem Reads.cells' {w : World} {l : List UInt8} {a : Option Addr} {n c : Nat} (h : Reads w (.slice a n c) l) (h0 : 0 < l.length) : ∃ ad, a = some ad ∧ ∀ j v, (l.map pl.byteV)[j]? = some v → w.cell? (ad.add j) = some v := by
  obtain ⟨a', cap, hv, h1, h2, h3, h4⟩ := h
  injection hv with ha hn hc
  subst ha
  obtain ⟨g, o, rfl, _, _⟩ := h4 0 l[0] (List.getElem?_eq_getElem h0)
  refine ⟨_, rfl, fun j v hj => ?_⟩
  rw [List.getElem?_map, Option.map_eq_some_iff] at hj
  obtain ⟨b, hb, rfl⟩ := hj
  obtain ⟨g', o', he, _, hc⟩ := h4 j b hb
  injection he with he
  injection he with e1 e2
  subst e1 e2
  rw [Addr.add_lit]
  exact hc

theorem Byts.blk16 {w : World} {B g : Nat} (h : w.ownsRow B 5 1 (.slice (some ⟨g, 0, none⟩) 16 16) 16 (madeCells #[Value.int .u8 0] 16).toList) : w.heap[g]? = some (.cells (List.replicate 16 (Value.int .u8 0)).toArray 5 (0, 0)) := by
  rcases h.2 with ⟨h0, _⟩ | ⟨g', cap, cur, hv, _, hh, _, _, hs, ht⟩
  · cases h0
  · injection hv with h1 _ h3
    injection h1 with h1
    injection h1 with h1
    subst h1
    subst h3
    rw [hh]
    have e : cur.toList = List.replicate 16 (Value.int .u8 0) := by
      rw [← List.take_of_length_le (l := cur.toList) (i := 16 * 1) (by simp; omega), ht]
      exact toList_madeCells_one _ _
    rw [← e]

theorem pl.len16 (a b : List UInt8) (nb : Nat) (hb : b.length = nb) (h : a.length + nb ≤ 14) : (a ++ List.replicate (16 - a.length - b.length) 0 ++ b).length = 16 := by
  simp; omega
theorem pl.splice16 (a b : List UInt8) (nb : Nat) (XA XB : List Value) (hA : XA = a.map pl.byteV) (hB : XB = b.map pl.byteV) (hb : b.length = nb) (h : a.length + nb ≤ 14) :
    splice (splice (List.replicate 16 (Value.int .u8 0)) 0 XA) (16 - nb) XB = (a ++ List.replicate (16 - a.length - b.length) 0 ++ b).map pl.byteV := by
  subst hA hB hb
  unfold splice
  have e0 : (Value.int IntKind.u8 0) = pl.byteV 0 := rfl
  rw [e0]
  simp only [List.take_zero, List.nil_append, List.length_map, Nat.zero_add, List.drop_replicate]
  have e1 : 16 - b.length + b.length = 16 := by omega
  rw [e1, List.drop_eq_nil_of_le (by simp; omega), List.append_nil, List.take_append, List.length_map, List.take_of_length_le (by simp; omega), List.take_replicate]
  rw [List.map_append, List.map_append, List.map_replicate]
  congr 3
  omega
theorem Byts.of_blk16 {w : World} {g : Nat} {xs : List Value} {l : List UInt8} (h : w.heap[g]? = some (.cells xs.toArray 5 (0, 0))) (he : xs = l.map pl.byteV) (B : Nat) (hB : B ≤ g) (hl : l.length = 16) : Byts w B (.slice (some ⟨g, 0, none⟩) 16 16) l := by
  subst he
  unfold Byts
  rw [hl]
  exact ⟨by simp [hl], Or.inr ⟨g, 16, _, rfl, hB, h, Nat.le_refl _, by unfold maxLen; omega, by simp [hl], List.take_of_length_le (by simp [hl])⟩⟩

set_option maxRecDepth 100000 in
set_option maxHeartbeats 4000000 in
theorem addr_sp (s : ByteArray) (w : World) (hs : s.size ≤ 2147483648) :
    Calls Tryd.prog 15 #[.string s] w fun e w' => BytRes w w' e (pl.addr s.data.toList) := by
  rcases hF : pl.four s.data.toList with _ | b
  · have hno := pl.addr_no s.data.toList hF
    have hdd := fun k => pl.addr_dd s.data.toList k hF
    have hcase := fun W => four_no s W hs hF
    obtain ⟨A, hA⟩ : ∃ A, pl.addr s.data.toList = A := ⟨_, rfl⟩
    rw [hA] at hno hdd
    rw [hA]
    have HF := Lib.hid hcase
    have HNO := Lib.hid hno
    have HDD := Lib.hid hdd
    clear hno hdd hcase hA hF
    go_enter Tryd.func15, Tryd.ntmps15
    go_wp2_with (go_at_call 43; refine (HF.out _).mono ?_; rintro e w1 ⟨af, nf, cf, rfl, hb1⟩)
    go_loopw [23] (fun iv wr => ∃ i : Nat, i ≤ s.size ∧ iv = .int .i64 i ∧ wr = w1 ∧ Hid (pl.dd s.data.toList = (pl.dd (s.data.toList.drop i)).map (· + i))) (fun iv _ => s.size - (intOf iv).toNat)
    case atStart => exact ⟨0, Nat.zero_le _, rfl, rfl, Lib.hid (by simp)⟩
    case round =>
      obtain ⟨i, hi, rfl, rfl, HI⟩ := hrel
      by_cases hlt : i < s.size
      · by_cases h2 : i + 2 ≤ s.size
        · have hx := pl.ext2 s i h2
          by_cases hc : s[i] = 58 ∧ s[i + 1] = 58
          · have hx2 : ((s.extract i (i + 2)).toList == [58, 58]) = true := by rw [hx, hc.1, hc.2]; rfl
            have hA2 := HDD.out i (pl.dd_hit s i h2 HI.out hc)
            have e1 : (s.extract 0 i).data.toList = s.data.toList.take i := by rw [pl.ext_take]
            have e2 : (s.extract (i + 2) s.size).data.toList = s.data.toList.drop (i + 2) := by rw [pl.ext_drop]
            have s1 : (s.extract 0 i).size ≤ 2147483648 := by simp; omega
            have s2 : (s.extract (i + 2) s.size).size ≤ 2147483648 := by simp; omega
            obtain ⟨X, hX⟩ : ∃ X, s.data.toList.take i = X := ⟨_, rfl⟩
            obtain ⟨Y, hY⟩ : ∃ Y, s.data.toList.drop (i + 2) = Y := ⟨_, rfl⟩
            rw [hX] at hA2 e1
            rw [hY] at hA2 e2
            rcases hGA : pl.groups X false with _ | a
            · have HGA := Lib.hid (fun W => groups_no (s.extract 0 i) false X W e1 s1 hGA)
              rw [hGA] at hA2
              rcases hGB : pl.groups Y true with _ | b
              · have HGB := Lib.hid (fun W => groups_no (s.extract (i + 2) s.size) true Y W e2 s2 hGB)
                have HA2 := Lib.hid hA2
                clear hA2 hx hc e1 e2 hX hY hGA hGB s1 s2
                go_wp2_with (first | (go_at_call 44; ((with_reducible refine (HGA.out _).mono ?_); rintro e w2 ⟨ag, ng, cg, rfl, hb2⟩)) | (go_at_call 44; ((with_reducible refine (HGB.out _).mono ?_); rintro e w3 ⟨ah, nh, ch, rfl, hb3⟩)))
                go_ret2
                exact ⟨(hb1.trans (hb2.mono hb1.size)).trans (hb3.mono (Nat.le_trans hb1.size hb2.size)), .inr ⟨HA2.out, _, _, _, rfl⟩⟩
              · have HGB := Lib.hid (fun W => groups_yes (s.extract (i + 2) s.size) true Y b W e2 s2 hGB)
                have HA2 := Lib.hid hA2
                clear hA2 hx hc e1 e2 hX hY hGA hGB s1 s2
                go_wp2_with (first | (go_at_call 44; ((with_reducible refine (HGA.out _).mono ?_); rintro e w2 ⟨ag, ng, cg, rfl, hb2⟩)) | (go_at_call 44; ((with_reducible refine (HGB.out _).mono ?_); rintro e w3 ⟨vh, rfl, hYh, hb3⟩)))
                go_ret2
                exact ⟨(hb1.trans (hb2.mono hb1.size)).trans (hb3.mono (Nat.le_trans hb1.size hb2.size)), .inr ⟨HA2.out, _, _, _, rfl⟩⟩
            · have HGA := Lib.hid (fun W => groups_yes (s.extract 0 i) false X a W e1 s1 hGA)
              rw [hGA] at hA2
              rcases hGB : pl.groups Y true with _ | b
              · have HGB := Lib.hid (fun W => groups_no (s.extract (i + 2) s.size) true Y W e2 s2 hGB)
                rw [hGB] at hA2
                have HA2 := Lib.hid hA2
                clear hA2 hx hc e1 e2 hX hY hGA hGB s1 s2
                go_wp2_with (first | (go_at_call 44; ((with_reducible refine (HGA.out _).mono ?_); rintro e w2 ⟨vg, rfl, hYg, hb2⟩)) | (go_at_call 44; ((with_reducible refine (HGB.out _).mono ?_); rintro e w3 ⟨ah, nh, ch, rfl, hb3⟩)))
                go_ret2
                exact ⟨(hb1.trans (hb2.mono hb1.size)).trans (hb3.mono (Nat.le_trans hb1.size hb2.size)), .inr ⟨HA2.out, _, _, _, rfl⟩⟩
              · have HGB := Lib.hid (fun W => groups_yes (s.extract (i + 2) s.size) true Y b W e2 s2 hGB)
                rw [hGB] at hA2
                have hla := pl.groups_len _ _ a _ e1 hGA
                have hlb := pl.groups_len _ _ b _ e2 hGB
                have hla' : a.length ≤ 5000000000 := by omega
                have hlb' : b.length ≤ 5000000000 := by omega
                clear hla hlb
                by_cases h14 : 14 < a.length + b.length
                · have hA3 : A = none := hA2.trans (if_pos h14)
                  have HA2 := Lib.hid hA3
                  have h14' : (14 : Int) < (a.length : Int) + (b.length : Int) := by omega
                  clear hA2 hA3 hx hc e1 e2 hX hY hGA hGB s1 s2
                  go_wp2_with (first | (go_at_call 44; ((with_reducible refine (HGA.out _).mono ?_); rintro e w2 ⟨vg, rfl, hYg, hb2⟩; obtain ⟨ag, cg, rfl, _, hcg, _⟩ := hYg.reads)) | (go_at_call 44; ((with_reducible refine (HGB.out _).mono ?_); rintro e w3 ⟨vh, rfl, hYh, hb3⟩; obtain ⟨ah, ch, rfl, _, hch, _⟩ := hYh.reads)))
                  go_ret2
                  exact ⟨(hb1.trans (hb2.mono hb1.size)).trans (hb3.mono (Nat.le_trans hb1.size hb2.size)), .inr ⟨HA2.out, _, _, _, rfl⟩⟩
                · have hA3 := hA2.trans (if_neg h14)
                  have HA2 := Lib.hid hA3
                  have h14' : ¬ (14 : Int) < (a.length : Int) + (b.length : Int) := by omega
                  clear hA2 hA3 hx hc e1 e2 hX hY hGA hGB s1 s2
                  obtain ⟨i0, hi0, hz0, hz1, hz2⟩ := info_parts infoByte
                  go_wp2_with (first | (go_at_call 44; ((with_reducible refine (HGA.out _).mono ?_); rintro e w2 ⟨vg, rfl, hYg, hb2⟩; obtain ⟨ag, cg, rfl, hng⟩ := hYg.reads)) | (go_at_call 44; ((with_reducible refine (HGB.out _).mono ?_); rintro e w3 ⟨vh, rfl, hYh, hb3⟩; obtain ⟨ah, ch, rfl, hnh⟩ := hYh.reads)) | (at_make; refine wpList_make_full _ rfl _ _ 26 rfl w3.heap.size 5 i0 (.int .u8 0) 1 Tryd.underlying26 hi0 hz0 hz1 _ _ _ _ 16 rfl rfl rfl rfl (by rw [hz2]; omega) (by unfold maxLen; omega) (Nat.le_refl _) ?_))
                  intro w4 hown4 hg4
                  have hbel4 : Below w3.heap.size w3 w4 := (Below.refl _ _).grown hg4 (Nat.le_refl _) (fun k hk => by simp at hk)
                  have hblk := Byts.blk16 hown4
                  have hY2 := (hYg.below hb3).below hbel4
                  have hZ2 := hYh.below hbel4
                  obtain ⟨XA, hXA⟩ : ∃ X, X = a.map pl.byteV := ⟨_, rfl⟩
                  obtain ⟨XB, hXB⟩ : ∃ X, X = b.map pl.byteV := ⟨_, rfl⟩
                  have hXAl : XA.length = a.length := by rw [hXA, List.length_map]
                  have hXBl : XB.length = b.length := by rw [hXB, List.length_map]
                  have hXA1 : ∀ v ∈ XA, v.oneCell' = true := by
                    intro v hv
                    rw [hXA] at hv
                    obtain ⟨x, _, rfl⟩ := List.mem_map.1 hv
                    rfl
                  have hXB1 : ∀ v ∈ XB, v.oneCell' = true := by
                    intro v hv
                    rw [hXB] at hv
                    obtain ⟨x, _, rfl⟩ := List.mem_map.1 hv
                    rfl
                  have hsA : 0 < XA.length → ∃ ad, ag = some ad ∧ ∀ j v, XA[j]? = some v → w4.cell? (ad.add j) = some v := fun h => by
                    have := hY2.reads.cells' (by omega)
                    rw [hXA]; exact this
                  have HSA := Lib.hid hsA
                  have HXA1 := Lib.hid hXA1
                  have HXB1 := Lib.hid hXB1
                  have HXA := Lib.hid hXA
                  have HXB := Lib.hid hXB
                  clear hsA hXA1 hXB1 hXA hXB hown4 hg4
                  go_wp2_with (refine wpList_copy_splice rfl _ _ 26 26 rfl 5 Tryd.underlying26 (by kernel_rfl) _ _ 16 16 a.length cg rfl rfl w3.heap.size 0 (List.replicate 16 (Value.int .u8 0)) 5 hblk XA (by rw [hXAl]; simp [Nat.min_def]; omega) (fun h => ⟨rfl, HSA.out h⟩) (by rw [hXAl]; simp; omega) HXA1.out w3.heap.size w3 hbel4 (Nat.le_refl _) ?_)
                  intro w5 HG5 hb5
                  have hZ5 := hYh.below hb5
                  have hsB : 0 < XB.length → ∃ ad, ah = some ad ∧ ∀ j v, XB[j]? = some v → w5.cell? (ad.add j) = some v := fun h => by
                    have := hZ5.reads.cells' (by omega)
                    rw [HXB.out]; exact this
                  have HSB := Lib.hid hsB
                  have HZ5 := Lib.hid hZ5
                  have HY2 := Lib.hid hY2
                  have HXBl := Lib.hid hXBl
                  have HXAl := Lib.hid hXAl
                  have hbB : b.length ≤ 14 := by omega
                  have HBEL := Lib.hid hb5
                  have HB34 := Lib.hid hbel4
                  have HB2 := Lib.hid hb2
                  have HB3 := Lib.hid hb3
                  have hnb0 : (0 : Int) ≤ 16 - (b.length : Int) := by omega
                  have hnb1 : (16 : Int) - (b.length : Int) ≤ 16 := by omega
                  clear hsB hZ5 hY2 hXBl hXAl hb5 hbel4 hblk hYg hYh hZ2 hng hnh hb2 hb3
                  obtain ⟨nb, hnb⟩ : ∃ nb, b.length = nb := ⟨_, rfl⟩
                  rw [hnb] at HXBl hbB hnb0 hnb1 h14' HZ5
                  simp only [hnb]
                  have HNB := Lib.hid hnb
                  clear hnb hlb' h14
                  have h14n : a.length + nb ≤ 14 := by omega
                  rcases Nat.eq_zero_or_pos nb with rfl | hpos
                  · go_wp2_with (refine wpList_copy_splice rfl _ _ 26 26 rfl 5 Tryd.underlying26 (by kernel_rfl) _ _ _ _ 0 ch rfl rfl w3.heap.size 16 (splice (List.replicate 16 (Value.int .u8 0)) 0 XA) 5 HG5.out XB ?_ ?_ ?_ HXB1.out w3.heap.size w3 HBEL.out (Nat.le_refl _) ?_)
                    case refine_1 => rw [HXBl.out]; rfl
                    case refine_2 => intro h; rw [HXBl.out] at h; exact absurd h (by omega)
                    case refine_3 =>
                      rw [length_splice _ _ _ (by rw [HXAl.out]; simp; omega), HXBl.out]
                      simp
                      try omega
                    case refine_4 =>
                      intro w6 HG6 hb6
                      have hby := Byts.of_blk16 HG6.out (pl.splice16 a b 0 XA XB HXA.out HXB.out HNB.out h14n) w.heap.size (Nat.le_trans hb1.size (Nat.le_trans HB2.out.size HB3.out.size)) (pl.len16 a b 0 HNB.out h14n)
                      have HBY := Lib.hid hby
                      clear hby HG6
                      go_wp2_with fail
                      go_ret2
                      exact ⟨((hb1.trans (HB2.out.mono hb1.size)).trans (HB3.out.mono (Nat.le_trans hb1.size HB2.out.size))).trans (hb6.mono (Nat.le_trans hb1.size (Nat.le_trans HB2.out.size HB3.out.size))), .inl ⟨_, _, HA2.out, rfl, HBY.out⟩⟩
                  · have hne : ¬ (16 = 16 - nb) := by omega
                    go_wp2_with (refine wpList_copy_splice rfl _ _ 26 26 rfl 5 Tryd.underlying26 (by kernel_rfl) _ _ _ _ nb ch rfl rfl w3.heap.size (16 - nb) (splice (List.replicate 16 (Value.int .u8 0)) 0 XA) 5 HG5.out XB ?_ ?_ ?_ HXB1.out w3.heap.size w3 HBEL.out (Nat.le_refl _) ?_)
                    case refine_1 => rw [HXBl.out]; (show nb = Nat.min nb _; simp [Nat.min_def]; try omega)
                    case refine_2 => exact HSB.out
                    case refine_3 =>
                      rw [length_splice _ _ _ (by rw [HXAl.out]; simp; omega), HXBl.out]
                      simp
                      try omega
                    case refine_4 =>
                      intro w6 HG6 hb6
                      have hby := Byts.of_blk16 HG6.out (pl.splice16 a b nb XA XB HXA.out HXB.out HNB.out h14n) w.heap.size (Nat.le_trans hb1.size (Nat.le_trans HB2.out.size HB3.out.size)) (pl.len16 a b nb HNB.out h14n)
                      have HBY := Lib.hid hby
                      clear hby HG6
                      go_wp2_with fail
                      go_ret2
                      exact ⟨((hb1.trans (HB2.out.mono hb1.size)).trans (HB3.out.mono (Nat.le_trans hb1.size HB2.out.size))).trans (hb6.mono (Nat.le_trans hb1.size (Nat.le_trans HB2.out.size HB3.out.size))), .inl ⟨_, _, HA2.out, rfl, HBY.out⟩⟩
          · have hx2 : ((s.extract i (i + 2)).toList == [58, 58]) = false := by
              rw [hx, beq_eq_false_iff_ne]
              intro h
              injection h with h1 h
              injection h with h2 h
              exact hc ⟨h1, h2⟩
            have hst := pl.dd_step s i h2 HI.out hc
            have HST := Lib.hid hst
            clear hx hst hc
            go_wp2_with fail
            go_roundw
            case rel => exact ⟨i + 1, by omega, by go_num, by first | rfl | trivial, Lib.hid HST.out⟩
            case measure => simp [intOf]; omega
        · have hl := pl.dd_last s i (by omega) HI.out
          have HL := Lib.hid hl
          have h2' : (s.size : Int) < (i : Int) + 2 := by omega
          clear hl
          go_wp2_with fail
          go_roundw
          case rel =>
            refine ⟨i + 1, by omega, by go_num, by first | rfl | trivial, Lib.hid ?_⟩
            rw [HL.out, List.drop_eq_nil_of_le (by simp; omega)]
            rfl
          case measure => simp [intOf]; omega
      · have hl := pl.dd_last s i (by omega) HI.out
        have hA2 := HNO.out hl
        rcases hG : pl.groups s.data.toList true with _ | b
        · have HG := Lib.hid (fun W => groups_no s true s.data.toList W rfl hs hG)
          rw [hG] at hA2
          have HA2 := Lib.hid hA2
          clear hA2 hl hG
          go_wp2_with (go_at_call 44; refine (HG.out _).mono ?_; rintro e w2 ⟨ag, ng, cg, rfl, hb2⟩)
          go_ret2
          exact ⟨hb1.trans (hb2.mono hb1.size), .inr ⟨HA2.out, _, _, _, rfl⟩⟩
        · have HG := Lib.hid (fun W => groups_yes s true s.data.toList b W rfl hs hG)
          rw [hG] at hA2
          by_cases h16 : b.length = 16
          · have hA3 := hA2.trans (if_pos h16)
            have HA2 := Lib.hid hA3
            have h16' : ((b.length : Int) == 16) = true := by rw [h16]; rfl
            clear hA2 hA3 hl hG h16
            go_wp2_with (go_at_call 44; refine (HG.out _).mono ?_; rintro e w2 ⟨vg, rfl, hYg, hb2⟩; obtain ⟨ag, cg, rfl, hng⟩ := hYg.reads)
            go_ret2
            exact ⟨hb1.trans (hb2.mono hb1.size), .inl ⟨_, b, HA2.out, rfl, hYg.mono hb1.size⟩⟩
          · have hA3 := hA2.trans (if_neg h16)
            have HA2 := Lib.hid hA3
            have h16' : ((b.length : Int) == 16) = false := by rw [beq_eq_false_iff_ne]; omega
            clear hA2 hA3 hl hG h16
            go_wp2_with (go_at_call 44; refine (HG.out _).mono ?_; rintro e w2 ⟨vg, rfl, hYg, hb2⟩; obtain ⟨ag, cg, rfl, hng⟩ := hYg.reads)
            go_ret2
            exact ⟨hb1.trans (hb2.mono hb1.size), .inr ⟨HA2.out, _, _, _, rfl⟩⟩
  · rw [pl.addr_four _ b hF]
    have hcase := fun W => four_yes s W b hs hF
    have HF := Lib.hid hcase
    clear hcase hF
    go_enter Tryd.func15, Tryd.ntmps15
    go_wp2_with (go_at_call 43; refine (HF.out _).mono ?_; rintro e w1 ⟨vf, rfl, hY, hb1⟩)
    go_ret2
    exact ⟨hb1, .inl ⟨_, b, rfl, rfl, hY⟩⟩

end Go.Proofs.YtfkohahlpfejbaaDoor

/- LitLaw: THE WALK of FnLiteral. -/
namespace Go.Proofs.YtfkohahlpfejbaaDoor
open Go.RowKit

theorem pl.addr_len (s b : List UInt8) (h : pl.addr s = some b) : b.length = 4 ∨ b.length = 16 := by
  unfold pl.addr at h
  cases hf : pl.four s with
  | some l => rw [hf] at h; injection h with h; subst h; exact .inl (pl.four_l4 _ _ hf)
  | none =>
    rw [hf] at h
    cases hd : pl.dd s with
    | some k =>
      rw [hd] at h
      simp only at h
      split at h
      · split at h
        · cases h
        · injection h with h
          subst h
          right
          simp only [List.length_append, List.length_replicate]
          omega
      · cases h
    | none =>
      rw [hd] at h
      simp only at h
      split at h
      · split at h
        · injection h with h; subst h; right; assumption
        · cases h
      · cases h
/-- Text of bytes that a row bears -/
theorem text_row (v : Value) (b : List UInt8) (B : Nat) (w w' : World) (hb : b.length = 4 ∨ b.length = 16) (hv : Byts w B v b) (hw : Below w.heap.size w w') :
    Calls Tryd.prog 33 #[v] w' fun e w2 => e = .returned (.string ⟨(pl.text b).toArray⟩) ∧ Below w'.heap.size w' w2 := by
  have hn : b.length ≠ 0 := by omega
  rcases hv.2 with ⟨_, h⟩ | ⟨g, cap, cur, rfl, hg, hh, hnc, hcm, _⟩
  · exact absurd h hn
  · have hgl := (Array.getElem?_eq_some_iff.1 hh).1
    have hc : InBlk w' g 0 b := fun k x hx => by
      have h := World.ownsRow.cells hv (g := g) rfl k (pl.byteV x) (by simp [hx])
      rw [Addr.add_lit] at h
      rw [hw.cell (p := ⟨g, 0 + k, none⟩) hgl]
      exact h
    have hgl' := Nat.lt_of_lt_of_le hgl hw.size
    rcases hb with hb | hb
    · match b, hb with
      | [x, y, z, u], _ =>
        refine (text4_sp x y z u g 0 cap w' hc).mono fun e w2 ⟨he, k, hk⟩ => ⟨he, ?_⟩
        rw [hk]; exact below_drewN (Below.refl _ _) _
    · have := text16_sp b hb g 0 cap w' hc hgl' (by omega)
      rw [hb]
      exact this

theorem addr_no2 (s : ByteArray) (w : World) (hs : s.size ≤ 2147483648) (h : pl.addr s.data.toList = none) :
    Calls Tryd.prog 15 #[.string s] w fun e w' => (∃ a n c, e = .returned (.tuple #[.slice a n c, .bool false])) ∧ Hid (Below w.heap.size w w') := by
  refine (addr_sp s w hs).mono fun e w' ⟨hb, hr⟩ => ?_
  rcases hr with ⟨v, l, h2, _⟩ | ⟨_, h2⟩
  · rw [h] at h2; cases h2
  · exact ⟨h2, Lib.hid hb⟩
theorem addr_yes2 (s : ByteArray) (b : List UInt8) (w : World) (hs : s.size ≤ 2147483648) (h : pl.addr s.data.toList = some b) :
    Calls Tryd.prog 15 #[.string s] w fun e w' => ∃ v, e = .returned (.tuple #[v, .bool true]) ∧ Hid (Byts w' w.heap.size v b) ∧ Hid (Below w.heap.size w w') := by
  refine (addr_sp s w hs).mono fun e w' ⟨hb, hr⟩ => ?_
  rcases hr with ⟨v, l, h2, he, hY⟩ | ⟨h2, _⟩
  · rw [h] at h2; injection h2 with h2; subst h2; exact ⟨v, he, Lib.hid hY, Lib.hid hb⟩
  · rw [h] at h2; cases h2

theorem has_pc (s : ByteArray) (w : World) (hs : s.size ≤ 2147483648) (r : Bool) (hr : pl.has s.data.toList [37] = r) :
    Calls Tryd.prog 35 #[.string s, .string ⟨#[37]⟩] w fun e w' => e = .returned (.bool r) ∧ Hid (Below w.heap.size w w') := by
  refine (has_any s ⟨#[37]⟩ w (by omega) (by decide)).mono fun e w' ⟨he, n, hn⟩ => ⟨by rw [he, ← hr], Lib.hid ?_⟩
  rw [hn]; exact below_drewN (Below.refl _ _) _

set_option maxRecDepth 100000 in
set_option maxHeartbeats 8000000 in
theorem lit_law (g4 o4 g6 o6 : Nat) (s : ByteArray) (w : World) (hI : IpVars w g4 o4 g6 o6) :
    Calls Tryd.prog 9 #[.string s] w fun e w' => e = .returned (.bool true) ∧ Below w.heap.size w w' := by
  by_cases hs : 2147483647 < s.size
  · go_enter Tryd.func9, Tryd.ntmps9
    go_wp2_with fail
    go_ret
    exact ⟨rfl, Below.refl _ _⟩
  · have hs2 : s.size ≤ 2147483648 := by omega
    have hwk := works_any
    have HWK := Lib.hid hwk
    by_cases hp : pl.has s.data.toList [37] = true
    · have hh := fun W => has_pc s W hs2 true hp
      have HH := Lib.hid hh
      clear hh hp hwk
      go_enter Tryd.func9, Tryd.ntmps9
      go_wp2_with (first
        | (go_at_call 16; refine (HWK.out _).mono ?_; rintro e w2 ⟨rfl, hb2⟩)
        | (go_at_call 35; refine (HH.out _).mono ?_; rintro e w1 ⟨rfl, HB1⟩))
      go_ret
      exact ⟨rfl, HB1.out.trans (hb2.mono HB1.out.size)⟩
    · have hp' : pl.has s.data.toList [37] = false := by simpa using hp
      have h37 : (37 : UInt8) ∉ s.data.toList := by
        intro hm
        apply hp
        unfold pl.has
        rw [List.any_eq_true]
        exact ⟨37, hm, by decide⟩
      have hh := fun W => has_pc s W hs2 false hp'
      have HH := Lib.hid hh
      have hlit : ∀ W, Below w.heap.size w W → Calls Tryd.prog 36 #[.string s] W fun e w' => e = .returned (.string ⟨(pl.lit s.data.toList).toArray⟩) ∧ Below W.heap.size W w' := fun W hb => ilit_sp g4 o4 g6 o6 s W hs2 (hI.below hb (Nat.le_refl _)) h37
      rcases hA : pl.addr s.data.toList with _ | b
      · have hl : pl.lit s.data.toList = [] := by unfold pl.lit; rw [hA]
        rw [hl] at hlit
        have hno := fun W => addr_no2 s W hs2 hA
        have HNO := Lib.hid hno
        have HLIT : Hid (∀ W, Below w.heap.size w W → Calls Tryd.prog 36 #[.string s] W fun e w' => e = .returned (.string ⟨#[]⟩) ∧ Below W.heap.size W w') := Lib.hid hlit
        clear hlit hl hno hh hp hp' h37 hA hwk hI
        go_enter Tryd.func9, Tryd.ntmps9
        go_wp2_with (first
          | (go_at_call 16; refine (HWK.out _).mono ?_; rintro e w4 ⟨rfl, hb4⟩; have HB4 := Lib.hid (HB3.out.trans (hb4.mono HB3.out.size)); clear hb4)
          | (go_at_call 36; refine (HLIT.out _ HB2.out).mono ?_; rintro e w3 ⟨rfl, hb3⟩; have HB3 := Lib.hid (HB2.out.trans (hb3.mono HB2.out.size)); clear hb3)
          | (go_at_call 15; refine (HNO.out _).mono ?_; rintro e w2 ⟨⟨a, n, c, rfl⟩, hb2⟩; have HB2 := Lib.hid (HB1.out.trans (hb2.out.mono HB1.out.size)); clear hb2)
          | (go_at_call 35; refine (HH.out _).mono ?_; rintro e w1 ⟨rfl, HB1⟩))
        go_ret
        exact ⟨rfl, HB4.out⟩
      · have hl : pl.lit s.data.toList = pl.text b := by unfold pl.lit; rw [hA]
        rw [hl] at hlit
        have hbl := pl.addr_len _ _ hA
        have hyes := fun W => addr_yes2 s b W hs2 hA
        have htx := fun v B W W' => text_row v b B W W' hbl
        obtain ⟨T, hT⟩ : ∃ T : ByteArray, (⟨(pl.text b).toArray⟩ : ByteArray) = T := ⟨_, rfl⟩
        simp only [hT] at hlit htx
        have HYES := Lib.hid hyes
        have HTX := Lib.hid htx
        have HLIT := Lib.hid hlit
        clear hlit hl hyes htx hh hp hp' h37 hA hwk hI hT hbl
        go_enter Tryd.func9, Tryd.ntmps9
        go_wp2_with (first
          | (go_at_call 33; refine (HTX.out _ _ _ _ HY2.out hb3').mono ?_; rintro e w4 ⟨rfl, hb4⟩; have HB4 := Lib.hid (HB3.out.trans (hb4.mono HB3.out.size)); clear hb4)
          | (go_at_call 36; refine (HLIT.out _ HB2.out).mono ?_; rintro e w3 ⟨rfl, hb3⟩; have HB3 := Lib.hid (HB2.out.trans (hb3.mono HB2.out.size)); have hb3' := hb3)
          | (go_at_call 15; refine (HYES.out _).mono ?_; rintro e w2 ⟨v, rfl, HY2, hb2⟩; have HB2 := Lib.hid (HB1.out.trans (hb2.out.mono HB1.out.size)); clear hb2)
          | (go_at_call 35; refine (HH.out _).mono ?_; rintro e w1 ⟨rfl, HB1⟩))
        go_ret
        exact ⟨rfl, HB4.out⟩

theorem walk_FnLiteral (s : ByteArray) (W : World) (_hs : s.size ≤ maxLen) (hL : laidMetH Tryd.prog Rows.fnLiteralRow.laid W) :
    Calls Tryd.prog 9 #[.string s] W fun e w' => e = .returned (.bool true) ∧ Below W.heap.size W w' := by
  rw [MakeChecks.laidMetH_plain _ _ _ (by kernel_rfl)] at hL
  obtain ⟨g4, o4, g6, o6, hI⟩ := ip_of_laid hL
  exact lit_law g4 o4 g6 o6 s W hI

end Go.Proofs.YtfkohahlpfejbaaDoor

/- Net4: WALKS: net/netip: Zone, BitLen, As16. -/
namespace Go.Proofs.YtfkohahlpfejbaaDoor
open Go.RowKit

set_option maxRecDepth 100000 in
set_option maxHeartbeats 4000000 in
theorem hval_sp (g o : Nat) (b : Bool) (w : World) (h0 : w.cell? ⟨g, o, none⟩ = some (.bool b)) (h1 : w.cell? ⟨g, o + 1, none⟩ = some (.string ⟨#[]⟩)) :
    Calls Tryd.prog 94 #[.agg #[.pointer (some ⟨g, o, none⟩)]] w fun e w' => e = .returned (.agg #[.bool b, .string ⟨#[]⟩]) ∧ Below w.heap.size w w' := by
  have d0 : ∀ x y, ((w.alloc x).alloc y).cell? ⟨g, o, none⟩ = some (.bool b) := fun x y => cell_new_old _ (cell_new_old _ h0)
  have d1 : ∀ x y, ((w.alloc x).alloc y).cell? ⟨g, o + 1, none⟩ = some (.string ⟨#[]⟩) := fun x y => cell_new_old _ (cell_new_old _ h1)
  go_enter Tryd.func94, Tryd.ntmps94
  go_wp2_with fail
  refine bodyPost_ret (results_cell_row rfl _ _ (w.heap.size + 1) _ _ _ _ rfl (by simpa [Blk] using Blk.new (w.alloc _) _ _) Tryd.underlying146 rfl (by kernel_rfl)) rfl ?_
  exact ⟨rfl, ((Below.refl _ _).alloc (Nat.le_refl _) _).alloc (by simp) _⟩

theorem field_two {P : Program} (w : World) (t e : TypeId) (F1 F2 : Field) (x y : Value) (hu : P.underlying t = some (.struct #[F1, F2])) (h2 : F2.type = e) (o2 : F2.offset = 1) (ha : (isAgg e).run P w = .ok false w) :
    (Instr.field t (.agg #[x, y]) 1).run P w = .ok y w := by
  simp [Instr.field, run_underlying hu, part, h2, o2, ha, asAgg, Result.andThen]
theorem detail_field (w : World) (x y : Value) : (Instr.field 146 (.agg #[x, y]) 1).run Tryd.prog w = .ok y w :=
  field_two w _ 9 _ _ x y Tryd.underlying146 rfl rfl (by kernel_rfl)

set_option maxRecDepth 100000 in
set_option maxHeartbeats 4000000 in
theorem zone_sp (g4 o4 g6 o6 hi lo g o : Nat) (b : Bool) (w : World) (hI : IpVars w g4 o4 g6 o6) (h0 : w.cell? ⟨g, o, none⟩ = some (.bool b)) (h1 : w.cell? ⟨g, o + 1, none⟩ = some (.string ⟨#[]⟩)) :
    Calls Tryd.prog 71 #[.agg #[.int .u64 (hi : Int), .int .u64 (lo : Int), .pointer (some ⟨g, o, none⟩)]] w fun e w' => e = .returned (.string ⟨#[]⟩) ∧ Below w.heap.size w w' := by
  obtain ⟨W1, hW1⟩ : ∃ W1, w.alloc (Obj.cells #[Value.int IntKind.u64 (hi : Int), Value.int IntKind.u64 (lo : Int), Value.pointer (some ⟨g, o, none⟩)] 119) = W1 := ⟨_, rfl⟩
  have hb : Below w.heap.size w W1 := by rw [← hW1]; exact (Below.refl _ _).alloc (Nat.le_refl _) _
  have hz := (hI.below hb (Nat.le_refl _)).z0
  have hv := hval_sp g o b W1 (by rw [← hW1]; exact cell_new_old _ h0) (by rw [← hW1]; exact cell_new_old _ h1)
  have hn := ptr_nil W1 ⟨g, o, none⟩
  have hA : Blk W1 w.heap.size #[Value.int IntKind.u64 (hi : Int), Value.int IntKind.u64 (lo : Int), Value.pointer (some ⟨g, o, none⟩)] 119 := by rw [← hW1]; exact Blk.new w _ _
  obtain ⟨gb, hgb⟩ : ∃ gb, w.heap.size = gb := ⟨_, rfl⟩
  rw [hgb] at hA
  obtain ⟨c0, c1, c2, _⟩ := blk3 hA
  have hfd := fun W => detail_field W (.bool b) (.string ⟨#[]⟩)
  have HV := Lib.hid hv
  have HB := Lib.hid hb
  clear hv hb hA hI h0 h1
  go_enter Tryd.func71, Tryd.ntmps71
  go_wp2_with (go_at_call 94; refine HV.out.mono ?_; rintro e w2 ⟨rfl, hb2⟩; have HB2 := Lib.hid (HB.out.trans (hb2.mono HB.out.size)); clear hb2)
  go_ret
  exact ⟨rfl, HB2.out⟩

set_option maxRecDepth 100000 in
set_option maxHeartbeats 4000000 in
theorem bl4_sp (g4 o4 g6 o6 hi lo : Nat) (w : World) (hI : IpVars w g4 o4 g6 o6) :
    Calls Tryd.prog 73 #[.agg #[.int .u64 (hi : Int), .int .u64 (lo : Int), .pointer (some ⟨g4, o4, none⟩)]] w fun e w' => e = .returned (.int .i64 32) ∧ Below w.heap.size w w' := by
  have h0 := fun o => (hI.alloc o).z0
  have h4 := fun o => (hI.alloc o).z4
  have n4 := fun o => ptr_nil (w.alloc o) ⟨g4, o4, none⟩
  have s4 := fun o => ptr_same (w.alloc o) ⟨g4, o4, none⟩
  go_enter Tryd.func73, Tryd.ntmps73
  go_wp2_with fail
  go_ret
  exact ⟨rfl, (Below.refl _ _).alloc (Nat.le_refl _) _⟩

set_option maxRecDepth 100000 in
set_option maxHeartbeats 4000000 in
theorem bl6_sp (g4 o4 g6 o6 hi lo : Nat) (w : World) (hI : IpVars w g4 o4 g6 o6) :
    Calls Tryd.prog 73 #[.agg #[.int .u64 (hi : Int), .int .u64 (lo : Int), .pointer (some ⟨g6, o6, none⟩)]] w fun e w' => e = .returned (.int .i64 128) ∧ Below w.heap.size w w' := by
  have h0 := fun o => (hI.alloc o).z0
  have h4 := fun o => (hI.alloc o).z4
  have n6 := fun o => ptr_nil (w.alloc o) ⟨g6, o6, none⟩
  have e2 := fun o => (hI.alloc o).eqs.2
  go_enter Tryd.func73, Tryd.ntmps73
  go_wp2_with fail
  go_ret
  exact ⟨rfl, (Below.refl _ _).alloc (Nat.le_refl _) _⟩

end Go.Proofs.YtfkohahlpfejbaaDoor

/- Net5: WALKS: net/netip: an address as 16 bytes. -/
namespace Go.Proofs.YtfkohahlpfejbaaDoor
open Go.RowKit

set_option maxRecDepth 100000 in
set_option maxHeartbeats 8000000 in
theorem put0_sp (g n c v : Nat) (a0 a1 a2 a3 a4 a5 a6 a7 a8 a9 a10 a11 a12 a13 a14 a15 b0 b1 b2 b3 b4 b5 b6 b7 : UInt8) (ty : TypeId) (w : World) (hn : 8 ≤ n) (hv : v = pl.be [b0, b1, b2, b3, b4, b5, b6, b7]) (hB : BBlk w g [a0, a1, a2, a3, a4, a5, a6, a7, a8, a9, a10, a11, a12, a13, a14, a15] ty) :
    Calls Tryd.prog 95 #[.slice (some ⟨g, 0, none⟩) n c, .int .u64 (v : Int)] w fun e w' => e = .returned (.tuple #[]) ∧ BBlk w' g [b0, b1, b2, b3, b4, b5, b6, b7, a8, a9, a10, a11, a12, a13, a14, a15] ty ∧ Below g w w' ∧ w'.heap.size = w.heap.size := by
  have h0 := b0.toNat_lt
  have h1 := b1.toNat_lt
  have h2 := b2.toNat_lt
  have h3 := b3.toNat_lt
  have h4 := b4.toNat_lt
  have h5 := b5.toNat_lt
  have h6 := b6.toNat_lt
  have h7 := b7.toNat_lt
  have hp : v = b0.toNat * 72057594037927936 + b1.toNat * 281474976710656 + b2.toNat * 1099511627776 + b3.toNat * 4294967296 + b4.toNat * 16777216 + b5.toNat * 65536 + b6.toNat * 256 + b7.toNat * 1 := by
    rw [hv]; simp only [pl.be, List.foldl_cons, List.foldl_nil]; omega
  have hv64 : v < 18446744073709551616 := by omega
  have q0 : (v : Int) / 72057594037927936 = (b0.toNat : Int) := by omega
  have q1 : (v : Int) / 281474976710656 % 256 = (b1.toNat : Int) := by omega
  have q2 : (v : Int) / 1099511627776 % 256 = (b2.toNat : Int) := by omega
  have q3 : (v : Int) / 4294967296 % 256 = (b3.toNat : Int) := by omega
  have q4 : (v : Int) / 16777216 % 256 = (b4.toNat : Int) := by omega
  have q5 : (v : Int) / 65536 % 256 = (b5.toNat : Int) := by omega
  have q6 : (v : Int) / 256 % 256 = (b6.toNat : Int) := by omega
  have q7 : (v : Int) % 256 = (b7.toNat : Int) := by omega
  have e0 : w.cell? ⟨g, 0, none⟩ = some (pl.byteV a0) := hB.cell 0 (by simp)
  have n0 := hB.frozen 0
  have e1 : w.cell? ⟨g, 1, none⟩ = some (pl.byteV a1) := hB.cell 1 (by simp)
  have n1 := hB.frozen 1
  have e2 : w.cell? ⟨g, 2, none⟩ = some (pl.byteV a2) := hB.cell 2 (by simp)
  have n2 := hB.frozen 2
  have e3 : w.cell? ⟨g, 3, none⟩ = some (pl.byteV a3) := hB.cell 3 (by simp)
  have n3 := hB.frozen 3
  have e4 : w.cell? ⟨g, 4, none⟩ = some (pl.byteV a4) := hB.cell 4 (by simp)
  have n4 := hB.frozen 4
  have e5 : w.cell? ⟨g, 5, none⟩ = some (pl.byteV a5) := hB.cell 5 (by simp)
  have n5 := hB.frozen 5
  have e6 : w.cell? ⟨g, 6, none⟩ = some (pl.byteV a6) := hB.cell 6 (by simp)
  have n6 := hB.frozen 6
  have e7 : w.cell? ⟨g, 7, none⟩ = some (pl.byteV a7) := hB.cell 7 (by simp)
  have n7 := hB.frozen 7
  have s0 := hB.set 0 b0
  have s1 := s0.set 1 b1
  have s2 := s1.set 2 b2
  have s3 := s2.set 3 b3
  have s4 := s3.set 4 b4
  have s5 := s4.set 5 b5
  have s6 := s5.set 6 b6
  have s7 := s6.set 7 b7
  have HS := Lib.hid s7
  clear hv hp hB s0 s1 s2 s3 s4 s5 s6 s7 h0 h1 h2 h3 h4 h5 h6 h7
  have l0 : (0 : Int) < (n : Int) := by omega
  have l1 : (1 : Int) < (n : Int) := by omega
  have l2 : (2 : Int) < (n : Int) := by omega
  have l3 : (3 : Int) < (n : Int) := by omega
  have l4 : (4 : Int) < (n : Int) := by omega
  have l5 : (5 : Int) < (n : Int) := by omega
  have l6 : (6 : Int) < (n : Int) := by omega
  have l7 : (7 : Int) < (n : Int) := by omega
  go_enter Tryd.func95, Tryd.ntmps95
  go_wp2_with fail
  go_end0
  exact ⟨rfl, HS.out, (((((((((Below.refl g w).setCell (p := ⟨g, 0, none⟩) (Nat.le_refl _) _).setCell (p := ⟨g, 1, none⟩) (Nat.le_refl _) _).setCell (p := ⟨g, 2, none⟩) (Nat.le_refl _) _).setCell (p := ⟨g, 3, none⟩) (Nat.le_refl _) _).setCell (p := ⟨g, 4, none⟩) (Nat.le_refl _) _).setCell (p := ⟨g, 5, none⟩) (Nat.le_refl _) _).setCell (p := ⟨g, 6, none⟩) (Nat.le_refl _) _).setCell (p := ⟨g, 7, none⟩) (Nat.le_refl _) _), by simp [World.setCell]⟩

set_option maxRecDepth 100000 in
set_option maxHeartbeats 8000000 in
theorem put8_sp (g n c v : Nat) (a0 a1 a2 a3 a4 a5 a6 a7 a8 a9 a10 a11 a12 a13 a14 a15 b0 b1 b2 b3 b4 b5 b6 b7 : UInt8) (ty : TypeId) (w : World) (hn : 8 ≤ n) (hv : v = pl.be [b0, b1, b2, b3, b4, b5, b6, b7]) (hB : BBlk w g [a0, a1, a2, a3, a4, a5, a6, a7, a8, a9, a10, a11, a12, a13, a14, a15] ty) :
    Calls Tryd.prog 95 #[.slice (some ⟨g, 8, none⟩) n c, .int .u64 (v : Int)] w fun e w' => e = .returned (.tuple #[]) ∧ BBlk w' g [a0, a1, a2, a3, a4, a5, a6, a7, b0, b1, b2, b3, b4, b5, b6, b7] ty ∧ Below g w w' ∧ w'.heap.size = w.heap.size := by
  have h0 := b0.toNat_lt
  have h1 := b1.toNat_lt
  have h2 := b2.toNat_lt
  have h3 := b3.toNat_lt
  have h4 := b4.toNat_lt
  have h5 := b5.toNat_lt
  have h6 := b6.toNat_lt
  have h7 := b7.toNat_lt
  have hp : v = b0.toNat * 72057594037927936 + b1.toNat * 281474976710656 + b2.toNat * 1099511627776 + b3.toNat * 4294967296 + b4.toNat * 16777216 + b5.toNat * 65536 + b6.toNat * 256 + b7.toNat * 1 := by
    rw [hv]; simp only [pl.be, List.foldl_cons, List.foldl_nil]; omega
  have hv64 : v < 18446744073709551616 := by omega
  have q0 : (v : Int) / 72057594037927936 = (b0.toNat : Int) := by omega
  have q1 : (v : Int) / 281474976710656 % 256 = (b1.toNat : Int) := by omega
  have q2 : (v : Int) / 1099511627776 % 256 = (b2.toNat : Int) := by omega
  have q3 : (v : Int) / 4294967296 % 256 = (b3.toNat : Int) := by omega
  have q4 : (v : Int) / 16777216 % 256 = (b4.toNat : Int) := by omega
  have q5 : (v : Int) / 65536 % 256 = (b5.toNat : Int) := by omega
  have q6 : (v : Int) / 256 % 256 = (b6.toNat : Int) := by omega
  have q7 : (v : Int) % 256 = (b7.toNat : Int) := by omega
  have e0 : w.cell? ⟨g, 8, none⟩ = some (pl.byteV a8) := hB.cell 8 (by simp)
  have n0 := hB.frozen 8
  have e1 : w.cell? ⟨g, 9, none⟩ = some (pl.byteV a9) := hB.cell 9 (by simp)
  have n1 := hB.frozen 9
  have e2 : w.cell? ⟨g, 10, none⟩ = some (pl.byteV a10) := hB.cell 10 (by simp)
  have n2 := hB.frozen 10
  have e3 : w.cell? ⟨g, 11, none⟩ = some (pl.byteV a11) := hB.cell 11 (by simp)
  have n3 := hB.frozen 11
  have e4 : w.cell? ⟨g, 12, none⟩ = some (pl.byteV a12) := hB.cell 12 (by simp)
  have n4 := hB.frozen 12
  have e5 : w.cell? ⟨g, 13, none⟩ = some (pl.byteV a13) := hB.cell 13 (by simp)
  have n5 := hB.frozen 13
  have e6 : w.cell? ⟨g, 14, none⟩ = some (pl.byteV a14) := hB.cell 14 (by simp)
  have n6 := hB.frozen 14
  have e7 : w.cell? ⟨g, 15, none⟩ = some (pl.byteV a15) := hB.cell 15 (by simp)
  have n7 := hB.frozen 15
  have s0 := hB.set 8 b0
  have s1 := s0.set 9 b1
  have s2 := s1.set 10 b2
  have s3 := s2.set 11 b3
  have s4 := s3.set 12 b4
  have s5 := s4.set 13 b5
  have s6 := s5.set 14 b6
  have s7 := s6.set 15 b7
  have HS := Lib.hid s7
  clear hv hp hB s0 s1 s2 s3 s4 s5 s6 s7 h0 h1 h2 h3 h4 h5 h6 h7
  have l0 : (0 : Int) < (n : Int) := by omega
  have l1 : (1 : Int) < (n : Int) := by omega
  have l2 : (2 : Int) < (n : Int) := by omega
  have l3 : (3 : Int) < (n : Int) := by omega
  have l4 : (4 : Int) < (n : Int) := by omega
  have l5 : (5 : Int) < (n : Int) := by omega
  have l6 : (6 : Int) < (n : Int) := by omega
  have l7 : (7 : Int) < (n : Int) := by omega
  go_enter Tryd.func95, Tryd.ntmps95
  go_wp2_with fail
  go_end0
  exact ⟨rfl, HS.out, (((((((((Below.refl g w).setCell (p := ⟨g, 8, none⟩) (Nat.le_refl _) _).setCell (p := ⟨g, 9, none⟩) (Nat.le_refl _) _).setCell (p := ⟨g, 10, none⟩) (Nat.le_refl _) _).setCell (p := ⟨g, 11, none⟩) (Nat.le_refl _) _).setCell (p := ⟨g, 12, none⟩) (Nat.le_refl _) _).setCell (p := ⟨g, 13, none⟩) (Nat.le_refl _) _).setCell (p := ⟨g, 14, none⟩) (Nat.le_refl _) _).setCell (p := ⟨g, 15, none⟩) (Nat.le_refl _) _), by simp [World.setCell]⟩

end Go.Proofs.YtfkohahlpfejbaaDoor

/- Net6: WALKS: net/netip: As16. -/
namespace Go.Proofs.YtfkohahlpfejbaaDoor
open Go.RowKit

set_option maxRecDepth 100000 in
set_option maxHeartbeats 8000000 in
theorem as16_sp (b : List UInt8) (hb : b.length = 16) (g o hi lo : Nat) (hhi : hi = pl.be (b.take 8)) (hlo : lo = pl.be (b.drop 8)) (w : World) :
    Calls Tryd.prog 75 #[.agg #[.int .u64 (hi : Int), .int .u64 (lo : Int), .pointer (some ⟨g, o, none⟩)]] w fun e w' => e = .returned (.agg (b.map pl.byteV).toArray) ∧ Below w.heap.size w w' := by
  obtain ⟨b0, b1, b2, b3, b4, b5, b6, b7, b8, b9, b10, b11, b12, b13, b14, b15, rfl⟩ := pl.list16 b hb
  have hres : (([b0, b1, b2, b3, b4, b5, b6, b7, b8, b9, b10, b11, b12, b13, b14, b15] : List UInt8).map pl.byteV).toArray = #[pl.byteV b0, pl.byteV b1, pl.byteV b2, pl.byteV b3, pl.byteV b4, pl.byteV b5, pl.byteV b6, pl.byteV b7, pl.byteV b8, pl.byteV b9, pl.byteV b10, pl.byteV b11, pl.byteV b12, pl.byteV b13, pl.byteV b14, pl.byteV b15] := rfl
  rw [hres]
  clear hres
  obtain ⟨g1, hg1⟩ : ∃ g1, w.heap.size = g1 := ⟨_, rfl⟩
  obtain ⟨W0, hW0⟩ : ∃ W0, w.alloc (Obj.cells #[Value.int IntKind.u64 (hi : Int), Value.int IntKind.u64 (lo : Int), Value.pointer (some ⟨g, o, none⟩)] 119) = W0 := ⟨_, rfl⟩
  obtain ⟨W1, hW1⟩ : ∃ W1, W0.alloc (Obj.cells #[Value.int IntKind.u8 0, Value.int IntKind.u8 0, Value.int IntKind.u8 0, Value.int IntKind.u8 0, Value.int IntKind.u8 0, Value.int IntKind.u8 0, Value.int IntKind.u8 0, Value.int IntKind.u8 0, Value.int IntKind.u8 0, Value.int IntKind.u8 0, Value.int IntKind.u8 0, Value.int IntKind.u8 0, Value.int IntKind.u8 0, Value.int IntKind.u8 0, Value.int IntKind.u8 0, Value.int IntKind.u8 0] 127) = W1 := ⟨_, rfl⟩
  have hs0 : W0.heap.size = g1 + 1 := by rw [← hW0, ← hg1]; simp
  have hA : Blk W1 g1 #[Value.int IntKind.u64 (hi : Int), Value.int IntKind.u64 (lo : Int), Value.pointer (some ⟨g, o, none⟩)] 119 := by
    rw [← hW1, ← hW0, ← hg1]; exact (Blk.new w _ _).alloc _
  have hR : BBlk W1 (g1 + 1) [0, 0, 0, 0, 0, 0, 0, 0, 0, 0, 0, 0, 0, 0, 0, 0] 127 := by
    rw [← hW1, ← hs0]; exact Blk.new W0 _ _
  have hb1 : Below g1 w W1 := by rw [← hW1, ← hW0, ← hg1]; exact ((Below.refl _ _).alloc (Nat.le_refl _) _).alloc (by simp) _
  have hp0 : ∀ W, W.heap = W1.heap → Calls Tryd.prog 95 #[.slice (some ⟨g1 + 1, 0, none⟩) 8 16, .int .u64 (hi : Int)] W fun e w' => e = .returned (.tuple #[]) ∧ Hid (BBlk w' (g1 + 1) [b0, b1, b2, b3, b4, b5, b6, b7, 0, 0, 0, 0, 0, 0, 0, 0] 127) ∧ Hid (Below (g1 + 1) W w') := fun W hW =>
    (put0_sp (g1 + 1) 8 16 hi 0 0 0 0 0 0 0 0 0 0 0 0 0 0 0 0 b0 b1 b2 b3 b4 b5 b6 b7 _ W (Nat.le_refl _) hhi (hR.keep (by rw [hW]))).mono fun e w' ⟨h1, h2, h3, _⟩ => ⟨h1, Lib.hid h2, Lib.hid h3⟩
  have hp1 : ∀ W V, BBlk V (g1 + 1) [b0, b1, b2, b3, b4, b5, b6, b7, 0, 0, 0, 0, 0, 0, 0, 0] 127 → W.heap = V.heap → Calls Tryd.prog 95 #[.slice (some ⟨g1 + 1, 8, none⟩) 8 8, .int .u64 (lo : Int)] W fun e w' => e = .returned (.tuple #[]) ∧ Hid (BBlk w' (g1 + 1) [b0, b1, b2, b3, b4, b5, b6, b7, b8, b9, b10, b11, b12, b13, b14, b15] 127) ∧ Hid (Below (g1 + 1) W w') := fun W V hV hW =>
    (put8_sp (g1 + 1) 8 8 lo b0 b1 b2 b3 b4 b5 b6 b7 0 0 0 0 0 0 0 0 b8 b9 b10 b11 b12 b13 b14 b15 _ W (Nat.le_refl _) hlo (hV.keep (by rw [hW]))).mono fun e w' ⟨h1, h2, h3, _⟩ => ⟨h1, Lib.hid h2, Lib.hid h3⟩
  have HP0 := Lib.hid hp0
  have HP1 := Lib.hid hp1
  have HA := Lib.hid hA
  have HB1 := Lib.hid hb1
  obtain ⟨c0, c1, c2, _⟩ := blk3 hA
  clear hp0 hp1 hA hR hb1 hhi hlo hb
  go_enter Tryd.func75, Tryd.ntmps75
  go_wp2_with fail
  have hcd : W1.drew.cell? ⟨g1, 0, none⟩ = some (.int .u64 (hi : Int)) := c0
  go_region_with (go_at_call 95; refine (HP0.out _ (by rfl)).mono ?_; rintro e w3 ⟨rfl, HB3, HW3⟩)
  have HA3 := Lib.hid ((HA.out.drewN 1).below HW3.out (Nat.lt_succ_self _))
  have HBW3 : Hid (Below g1 w w3) := Lib.hid ((below_drewN HB1.out 1).trans (HW3.out.mono (Nat.le_succ _)))
  obtain ⟨d0, d1, d2, _⟩ := blk3 HA3.out
  clear hcd
  go_wp2_with fail
  have hcd : w3.drew.cell? ⟨g1, 1, none⟩ = some (.int .u64 (lo : Int)) := d1
  go_region_with (go_at_call 95; refine (HP1.out _ w3 HB3.out (by rfl)).mono ?_; rintro e w4 ⟨rfl, HB4, HW4⟩)
  have HBW4 : Hid (Below g1 w w4) := Lib.hid ((below_drewN HBW3.out 1).trans (HW4.out.mono (Nat.le_succ _)))
  have q0 : w4.cell? ⟨g1 + 1, 0, none⟩ = some (.int .u8 (b0.toNat : Int)) := HB4.out.cell 0 (by simp)
  have n0 := HB4.out.frozen 0
  have q1 : w4.cell? ⟨g1 + 1, 1, none⟩ = some (.int .u8 (b1.toNat : Int)) := HB4.out.cell 1 (by simp)
  have n1 := HB4.out.frozen 1
  have q2 : w4.cell? ⟨g1 + 1, 2, none⟩ = some (.int .u8 (b2.toNat : Int)) := HB4.out.cell 2 (by simp)
  have n2 := HB4.out.frozen 2
  have q3 : w4.cell? ⟨g1 + 1, 3, none⟩ = some (.int .u8 (b3.toNat : Int)) := HB4.out.cell 3 (by simp)
  have n3 := HB4.out.frozen 3
  have q4 : w4.cell? ⟨g1 + 1, 4, none⟩ = some (.int .u8 (b4.toNat : Int)) := HB4.out.cell 4 (by simp)
  have n4 := HB4.out.frozen 4
  have q5 : w4.cell? ⟨g1 + 1, 5, none⟩ = some (.int .u8 (b5.toNat : Int)) := HB4.out.cell 5 (by simp)
  have n5 := HB4.out.frozen 5
  have q6 : w4.cell? ⟨g1 + 1, 6, none⟩ = some (.int .u8 (b6.toNat : Int)) := HB4.out.cell 6 (by simp)
  have n6 := HB4.out.frozen 6
  have q7 : w4.cell? ⟨g1 + 1, 7, none⟩ = some (.int .u8 (b7.toNat : Int)) := HB4.out.cell 7 (by simp)
  have n7 := HB4.out.frozen 7
  have q8 : w4.cell? ⟨g1 + 1, 8, none⟩ = some (.int .u8 (b8.toNat : Int)) := HB4.out.cell 8 (by simp)
  have n8 := HB4.out.frozen 8
  have q9 : w4.cell? ⟨g1 + 1, 9, none⟩ = some (.int .u8 (b9.toNat : Int)) := HB4.out.cell 9 (by simp)
  have n9 := HB4.out.frozen 9
  have q10 : w4.cell? ⟨g1 + 1, 10, none⟩ = some (.int .u8 (b10.toNat : Int)) := HB4.out.cell 10 (by simp)
  have n10 := HB4.out.frozen 10
  have q11 : w4.cell? ⟨g1 + 1, 11, none⟩ = some (.int .u8 (b11.toNat : Int)) := HB4.out.cell 11 (by simp)
  have n11 := HB4.out.frozen 11
  have q12 : w4.cell? ⟨g1 + 1, 12, none⟩ = some (.int .u8 (b12.toNat : Int)) := HB4.out.cell 12 (by simp)
  have n12 := HB4.out.frozen 12
  have q13 : w4.cell? ⟨g1 + 1, 13, none⟩ = some (.int .u8 (b13.toNat : Int)) := HB4.out.cell 13 (by simp)
  have n13 := HB4.out.frozen 13
  have q14 : w4.cell? ⟨g1 + 1, 14, none⟩ = some (.int .u8 (b14.toNat : Int)) := HB4.out.cell 14 (by simp)
  have n14 := HB4.out.frozen 14
  have q15 : w4.cell? ⟨g1 + 1, 15, none⟩ = some (.int .u8 (b15.toNat : Int)) := HB4.out.cell 15 (by simp)
  have n15 := HB4.out.frozen 15
  have s0 := HB4.out.set 0 b0
  have s1 := s0.set 1 b1
  have s2 := s1.set 2 b2
  have s3 := s2.set 3 b3
  have s4 := s3.set 4 b4
  have s5 := s4.set 5 b5
  have s6 := s5.set 6 b6
  have s7 := s6.set 7 b7
  have s8 := s7.set 8 b8
  have s9 := s8.set 9 b9
  have s10 := s9.set 10 b10
  have s11 := s10.set 11 b11
  have s12 := s11.set 12 b12
  have s13 := s12.set 13 b13
  have s14 := s13.set 14 b14
  have s15 := s14.set 15 b15
  have HS := Lib.hid s15
  clear hcd d0 d1 d2 c0 c1 c2 s0 s1 s2 s3 s4 s5 s6 s7 s8 s9 s10 s11 s12 s13 s14 s15
  go_wp2_with fail
  refine bodyPost_ret (results_cell_row rfl _ _ (g1 + 1) _ _ _ _ rfl HS.out Tryd.underlying127 rfl (by kernel_rfl)) rfl ?_
  exact ⟨rfl, by rw [hg1]; exact ((((((((((((((((HBW4.out.setCell (p := ⟨g1 + 1, 0, none⟩) (Nat.le_succ _) _).setCell (p := ⟨g1 + 1, 1, none⟩) (Nat.le_succ _) _).setCell (p := ⟨g1 + 1, 2, none⟩) (Nat.le_succ _) _).setCell (p := ⟨g1 + 1, 3, none⟩) (Nat.le_succ _) _).setCell (p := ⟨g1 + 1, 4, none⟩) (Nat.le_succ _) _).setCell (p := ⟨g1 + 1, 5, none⟩) (Nat.le_succ _) _).setCell (p := ⟨g1 + 1, 6, none⟩) (Nat.le_succ _) _).setCell (p := ⟨g1 + 1, 7, none⟩) (Nat.le_succ _) _).setCell (p := ⟨g1 + 1, 8, none⟩) (Nat.le_succ _) _).setCell (p := ⟨g1 + 1, 9, none⟩) (Nat.le_succ _) _).setCell (p := ⟨g1 + 1, 10, none⟩) (Nat.le_succ _) _).setCell (p := ⟨g1 + 1, 11, none⟩) (Nat.le_succ _) _).setCell (p := ⟨g1 + 1, 12, none⟩) (Nat.le_succ _) _).setCell (p := ⟨g1 + 1, 13, none⟩) (Nat.le_succ _) _).setCell (p := ⟨g1 + 1, 14, none⟩) (Nat.le_succ _) _).setCell (p := ⟨g1 + 1, 15, none⟩) (Nat.le_succ _) _)⟩

end Go.Proofs.YtfkohahlpfejbaaDoor

/- Mask: WALKS: CIDRMask. -/
namespace Go.Proofs.YtfkohahlpfejbaaDoor
open Go.RowKit

set_option maxRecDepth 100000 in
set_option maxHeartbeats 4000000 in
theorem cm_4 (ones : Nat) (w : World) (ho : ones ≤ 32) :
    Calls Tryd.prog 74 #[.int .i64 (ones : Int), .int .i64 32] w fun e w' => ∃ v, e = .returned v ∧ Byts w' w.heap.size v (pl.mask ones 4) ∧ Below w.heap.size w w' := by
  obtain ⟨i0, hi, hz0, hz1, hz2⟩ := info_parts infoByte
  have hoB : (ones : Int) ≤ 32 := by omega
  go_enter Tryd.func74, Tryd.ntmps74
  go_wp2_with (at_make; refine wpList_make_full _ rfl _ _ 84 rfl w.heap.size 5 i0 (.int .u8 0) 1 Tryd.underlying84 hi hz0 hz1 _ _ _ _ 4 rfl rfl rfl rfl (by rw [hz2]; omega) (by unfold maxLen; omega) (Nat.le_refl _) ?_)
  intro w1 hown1 hg1
  have hbel1 : Below w.heap.size w w1 := (Below.refl _ _).grown hg1 (Nat.le_refl _) (fun k hk => by simp at hk)
  have hby1 := Byts.made hown1
  clear hown1 hg1
  go_wp2_with fail
  go_loopw [7, 8] (fun nv i wr => ∃ k n : Nat, k ≤ 4 ∧ i = .int .i64 k ∧ nv = .int .u64 n ∧ Hid (n = ones - 8 * k) ∧ n ≤ 128 ∧ Byts wr w.heap.size (.slice (some ⟨w.heap.size, 0, none⟩) 4 4) (pl.rowOf ((pl.mask ones 4).take k) 4) ∧ Below w.heap.size w wr) (fun _ i _ => 4 - (intOf i).toNat)
  case atStart => exact ⟨0, ones, by omega, rfl, rfl, Lib.hid (by omega), by omega, by simpa [pl.rowOf] using hby1, hbel1⟩
  case round =>
    obtain ⟨k, n, hk, rfl, rfl, HN, hn, hrow, hbel⟩ := hrel
    by_cases hlt : k < 4
    · have hlen : (pl.rowOf ((pl.mask ones 4).take k) 4).length = 4 := pl.rowOf_len _ 4 (by rw [List.length_take, pl.mask_len]; omega)
      obtain ⟨old, hcell⟩ := hrow.cell hlen k hlt
      have hfr := hrow.frozen hlen k
      have hset := hrow.set hlen k (pl.hb n)
      rw [show pl.hb n = pl.hb (ones - 8 * k) by rw [HN.out], pl.mask_row ones 4 k hlt, ← HN.out] at hset
      have HS := Lib.hid hset
      clear hset hlen
      by_cases h8 : 8 ≤ n
      · have hv : pl.hb n = 255 := by unfold pl.hb; rw [if_pos h8]
        rw [hv] at HS
        clear hv
        go_wp2_with fail
        go_roundw
        case rel => exact ⟨k + 1, n - 8, by omega, by go_num, by go_num, Lib.hid (by rw [HN.out]; omega), by omega, HS.out, hbel.setCell (Nat.le_refl _) _⟩
        case measure => simp [intOf]; omega
      · have hn8 : n = 0 ∨ n = 1 ∨ n = 2 ∨ n = 3 ∨ n = 4 ∨ n = 5 ∨ n = 6 ∨ n = 7 := by omega
        rcases hn8 with rfl | rfl | rfl | rfl | rfl | rfl | rfl | rfl
        all_goals
          go_wp2_with fail
          go_roundw
          case rel => exact ⟨k + 1, 0, by omega, by go_num, by go_num, Lib.hid (by have := HN.out; omega), by omega, HS.out, hbel.setCell (Nat.le_refl _) _⟩
          case measure => simp [intOf]; omega
    · have hke : k = 4 := by omega
      subst hke
      rw [List.take_of_length_le (by rw [pl.mask_len]; omega)] at hrow
      have hf : pl.rowOf (pl.mask ones 4) 4 = pl.mask ones 4 := by have := pl.rowOf_full (pl.mask ones 4); rwa [pl.mask_len] at this
      rw [hf] at hrow
      clear hf
      go_wp2_with fail
      go_ret
      exact ⟨_, rfl, hrow, hbel⟩

set_option maxRecDepth 100000 in
set_option maxHeartbeats 4000000 in
theorem cm_16 (ones : Nat) (w : World) (ho : ones ≤ 128) :
    Calls Tryd.prog 74 #[.int .i64 (ones : Int), .int .i64 128] w fun e w' => ∃ v, e = .returned v ∧ Byts w' w.heap.size v (pl.mask ones 16) ∧ Below w.heap.size w w' := by
  obtain ⟨i0, hi, hz0, hz1, hz2⟩ := info_parts infoByte
  have hoB : (ones : Int) ≤ 128 := by omega
  go_enter Tryd.func74, Tryd.ntmps74
  go_wp2_with (at_make; refine wpList_make_full _ rfl _ _ 84 rfl w.heap.size 5 i0 (.int .u8 0) 1 Tryd.underlying84 hi hz0 hz1 _ _ _ _ 16 rfl rfl rfl rfl (by rw [hz2]; omega) (by unfold maxLen; omega) (Nat.le_refl _) ?_)
  intro w1 hown1 hg1
  have hbel1 : Below w.heap.size w w1 := (Below.refl _ _).grown hg1 (Nat.le_refl _) (fun k hk => by simp at hk)
  have hby1 := Byts.made hown1
  clear hown1 hg1
  go_wp2_with fail
  go_loopw [7, 8] (fun nv i wr => ∃ k n : Nat, k ≤ 16 ∧ i = .int .i64 k ∧ nv = .int .u64 n ∧ Hid (n = ones - 8 * k) ∧ n ≤ 128 ∧ Byts wr w.heap.size (.slice (some ⟨w.heap.size, 0, none⟩) 16 16) (pl.rowOf ((pl.mask ones 16).take k) 16) ∧ Below w.heap.size w wr) (fun _ i _ => 16 - (intOf i).toNat)
  case atStart => exact ⟨0, ones, by omega, rfl, rfl, Lib.hid (by omega), by omega, by simpa [pl.rowOf] using hby1, hbel1⟩
  case round =>
    obtain ⟨k, n, hk, rfl, rfl, HN, hn, hrow, hbel⟩ := hrel
    by_cases hlt : k < 16
    · have hlen : (pl.rowOf ((pl.mask ones 16).take k) 16).length = 16 := pl.rowOf_len _ 16 (by rw [List.length_take, pl.mask_len]; omega)
      obtain ⟨old, hcell⟩ := hrow.cell hlen k hlt
      have hfr := hrow.frozen hlen k
      have hset := hrow.set hlen k (pl.hb n)
      rw [show pl.hb n = pl.hb (ones - 8 * k) by rw [HN.out], pl.mask_row ones 16 k hlt, ← HN.out] at hset
      have HS := Lib.hid hset
      clear hset hlen
      by_cases h8 : 8 ≤ n
      · have hv : pl.hb n = 255 := by unfold pl.hb; rw [if_pos h8]
        rw [hv] at HS
        clear hv
        go_wp2_with fail
        go_roundw
        case rel => exact ⟨k + 1, n - 8, by omega, by go_num, by go_num, Lib.hid (by rw [HN.out]; omega), by omega, HS.out, hbel.setCell (Nat.le_refl _) _⟩
        case measure => simp [intOf]; omega
      · have hn8 : n = 0 ∨ n = 1 ∨ n = 2 ∨ n = 3 ∨ n = 4 ∨ n = 5 ∨ n = 6 ∨ n = 7 := by omega
        rcases hn8 with rfl | rfl | rfl | rfl | rfl | rfl | rfl | rfl
        all_goals
          go_wp2_with fail
          go_roundw
          case rel => exact ⟨k + 1, 0, by omega, by go_num, by go_num, Lib.hid (by have := HN.out; omega), by omega, HS.out, hbel.setCell (Nat.le_refl _) _⟩
          case measure => simp [intOf]; omega
    · have hke : k = 16 := by omega
      subst hke
      rw [List.take_of_length_le (by rw [pl.mask_len]; omega)] at hrow
      have hf : pl.rowOf (pl.mask ones 16) 16 = pl.mask ones 16 := by have := pl.rowOf_full (pl.mask ones 16); rwa [pl.mask_len] at this
      rw [hf] at hrow
      clear hf
      go_wp2_with fail
      go_ret
      exact ⟨_, rfl, hrow, hbel⟩

end Go.Proofs.YtfkohahlpfejbaaDoor

/- SplitLaws: WALKS: Cut, HostPort, the laws FnSplit, FnSplitJoined. -/
namespace Go.Proofs.YtfkohahlpfejbaaDoor
open Go.RowKit

set_option maxHeartbeats 400000 in
theorem cut_sp (s : ByteArray) (c : Int) (w : World) (hs : s.size ≤ 17592186044416) :
    Calls Tryd.prog 52 #[.string s, .int .u8 c] w fun e w' => e = .returned (.tuple #[.string ⟨(pl.cutS s.data.toList c).1.toArray⟩, .string ⟨(pl.cutS s.data.toList c).2.1.toArray⟩, .bool (pl.cutS s.data.toList c).2.2]) ∧ ∃ n, w' = w.drewN n := by
  go_enter Tryd.func52, Tryd.ntmps52
  go_wp2
  go_loop [10] (fun i => ∃ k : Nat, k ≤ s.size ∧ i = .int .i64 k ∧ ∀ x ∈ s.data.toList.take k, pl.isB c x = false) (fun i => s.size - (intOf i).toNat)
  case atStart => exact ⟨0, Nat.zero_le _, rfl, by simp⟩
  case round =>
    obtain ⟨k, hk, rfl, hn⟩ := hrel
    have HN := Lib.hid hn
    clear hn
    by_cases hlt : k < s.size
    · go_wp2
      · have hc : (↑s[k].toNat == c) = true := by assumption
        have E := Lib.hid (pl.cutS_hit s c k hlt HN.out hc)
        go_quiet (fail)
        go_wp2
        go_ret3
        rw [E.out]
        exact ⟨ret_hp (pl.ext_take s k) (pl.ext_drop s (k + 1)) rfl, _, rfl⟩
      · go_round
        case rel => exact ⟨k + 1, by omega, by go_num, pl.none_succ s c k hlt HN.out (by assumption)⟩
        case measure => simp [intOf]; omega
    · have E := Lib.hid (pl.cutS_miss s.data.toList c (pl.none_all s c k (by omega) HN.out))
      go_wp2
      go_ret3
      rw [E.out]
      exact ⟨ret_hp (Lib.mk_data s).symm rfl rfl, 0, rfl⟩

theorem cut_val (s A B : ByteArray) (c : Int) (b : Bool) (w : World) (hs : s.size ≤ 17592186044416) (h : pl.cutS s.data.toList c = (A.data.toList, B.data.toList, b)) :
    Calls Tryd.prog 52 #[.string s, .int .u8 c] w fun e w' => e = .returned (.tuple #[.string A, .string B, .bool b]) ∧ ∃ n, w' = w.drewN n := by
  refine (cut_sp s c w hs).mono fun e w' ⟨he, hw⟩ => ⟨?_, hw⟩
  rw [he, h]

theorem has_val (s t : ByteArray) (b : Bool) (w : World) (hs : s.size ≤ 17592186044416) (ht : t.size ≤ 17592186044416) (h : pl.has s.data.toList t.data.toList = b) :
    Calls Tryd.prog 35 #[.string s, .string t] w fun e w' => e = .returned (.bool b) ∧ ∃ n, w' = w.drewN n := by
  rw [← h]; exact has_any s t w hs ht

/-- what HostPort returns -/
def HPsp (A B : ByteArray) (b : Bool) (w : World) (e : Ending) (w' : World) : Prop := e = .returned (.tuple #[.string A, .string B, .bool b]) ∧ ∃ n, w' = w.drewN n

end Go.Proofs.YtfkohahlpfejbaaDoor

/- MaskSp: WALKS: the reference's Mask. -/
namespace Go.Proofs.YtfkohahlpfejbaaDoor
open Go.RowKit

set_option maxRecDepth 100000 in
set_option maxHeartbeats 4000000 in
theorem msk_sp (ones L : Nat) (w : World) (hL : L ≤ 16) (ho : ones ≤ 8 * L) :
    Calls Tryd.prog 28 #[.int .i64 (ones : Int), .int .i64 (L : Int)] w fun e w' => ∃ v, e = .returned v ∧ Byts w' w.heap.size v (pl.mask ones L) ∧ Below w.heap.size w w' := by
  obtain ⟨i0, hi, hz0, hz1, hz2⟩ := info_parts infoByte
  go_enter Tryd.func28, Tryd.ntmps28
  go_wp2_with (at_make; refine wpList_make_full _ rfl _ _ 26 rfl w.heap.size 5 i0 (.int .u8 0) 1 Tryd.underlying26 hi hz0 hz1 _ _ _ _ L rfl rfl rfl rfl (by rw [hz2]; omega) (by unfold maxLen; omega) (Nat.le_refl _) ?_)
  intro w1 hown1 hg1
  have hbel1 : Below w.heap.size w w1 := (Below.refl _ _).grown hg1 (Nat.le_refl _) (fun k hk => by simp at hk)
  have hby1 := Byts.made (n := L) (by rw [Nat.mul_one]; exact hown1)
  rw [← pl.mask_zero] at hby1
  clear hown1 hg1
  go_wp2_with fail
  go_loopw [10] (fun iv wr => ∃ i : Nat, i ≤ ones ∧ iv = .int .i64 i ∧ Byts wr w.heap.size (.slice (some ⟨w.heap.size, 0, none⟩) L L) (pl.mask i L) ∧ Below w.heap.size w wr) (fun iv _ => ones - (intOf iv).toNat)
  case atStart => exact ⟨0, by omega, rfl, hby1, hbel1⟩
  case round =>
    obtain ⟨i, hk, rfl, hrow, hbel⟩ := hrel
    by_cases hlt : i < ones
    · obtain ⟨q, r, hq, hr, hiq⟩ : ∃ q r, q < L ∧ r < 8 ∧ i = 8 * q + r := ⟨i / 8, i % 8, by omega, by omega, by omega⟩
      have hlen := pl.mask_len i L
      have hat := pl.mask_at i L q hq
      rw [show i - 8 * q = r by omega] at hat
      have hcell : wr.cell? ⟨w.heap.size, q, none⟩ = some (.int .u8 ((pl.hb r).toNat : Int)) := by
        have := World.ownsRow.cellAt (by have h := hrow; unfold Byts at h; rw [hlen] at h; exact h) q (by omega)
        rw [this, List.getElem?_map, hat]; rfl
      have hfr := hrow.frozen hlen q
      have hset := hrow.set hlen q (pl.hb (r + 1))
      rw [pl.mask_succ i L q r hiq hr hq] at hset
      have HS := Lib.hid hset
      have t1 : Int.tdiv (i : Int) 8 = (q : Int) := by rw [Int.tdiv_eq_ediv_of_nonneg (by omega)]; omega
      have t2 : Int.tmod (i : Int) 8 = (r : Int) := by rw [Int.tmod_eq_emod_of_nonneg (by omega)]; omega
      have q0 : (0 : Int) ≤ (q : Int) := by omega
      have q1 : (q : Int) < (L : Int) := by omega
      have HQ := Lib.hid hiq
      clear hset hlen hat hiq
      have hr8 : r = 0 ∨ r = 1 ∨ r = 2 ∨ r = 3 ∨ r = 4 ∨ r = 5 ∨ r = 6 ∨ r = 7 := by omega
      rcases hr8 with rfl | rfl | rfl | rfl | rfl | rfl | rfl | rfl
      all_goals
        go_wp2_with fail
        go_region
        go_wp2_with fail
        go_roundw
        case rel => exact ⟨i + 1, by omega, by go_num, HS.out, (hbel.setCell (Nat.le_refl _) _).drew⟩
        case measure => simp [intOf]; omega
    · have hie : i = ones := by omega
      subst hie
      go_wp2_with fail
      go_ret
      exact ⟨_, rfl, hrow, hbel⟩

end Go.Proofs.YtfkohahlpfejbaaDoor

/- LitBytes: THE WALK of FnLiteralBytes. -/
namespace Go.Proofs.YtfkohahlpfejbaaDoor
open Go.RowKit

theorem pl.num16_no37 (n : Nat) (h : n < 65536) : (37 : UInt8) ∉ pl.num 16 n := by
  intro hm
  have h1 := (pl.okG_num n h).1
  rw [List.all_eq_true] at h1
  have := h1 37 hm
  revert this; decide
theorem pl.num10_no37 (x : UInt8) : (37 : UInt8) ∉ pl.num 10 x.toNat := by
  intro hm
  have h1 := (pl.oct_num x).2.1
  rw [List.all_eq_true] at h1
  have := h1 37 hm
  revert this; decide
theorem pl.jn_no37 (g : List Nat) (hs : pl.small g) : (37 : UInt8) ∉ pl.jn g := by
  induction g with
  | nil => simp [pl.jn]
  | cons a g ih =>
    cases g with
    | nil => exact pl.num16_no37 a (hs a (by simp))
    | cons b r =>
      have h1 := pl.num16_no37 a (hs a (by simp))
      have h2 := ih (fun y hy => hs y (by simp at hy ⊢; exact .inr hy))
      rw [pl.jn]
      intro hm
      rcases List.mem_append.1 hm with hm | hm
      · exact h1 hm
      · rcases List.mem_cons.1 hm with hm | hm
        · revert hm; decide
        · exact h2 hm
theorem pl.dots_no37 (b : List UInt8) : (37 : UInt8) ∉ pl.dots b := by
  unfold pl.dots
  split
  · rename_i x y z u
    have h1 := pl.num10_no37 x
    have h2 := pl.num10_no37 y
    have h3 := pl.num10_no37 z
    have h4 := pl.num10_no37 u
    simp only [List.mem_append, List.mem_cons, not_or]
    exact ⟨h1, by decide, h2, by decide, h3, by decide, h4⟩
  · simp
theorem pl.text_no37 (b : List UInt8) (hb : b.length = 4 ∨ b.length = 16) : (37 : UInt8) ∉ pl.text b := by
  unfold pl.text
  split
  · exact pl.dots_no37 b
  · split
    · intro hm
      rcases List.mem_append.1 hm with hm | hm
      · revert hm; decide
      · exact pl.dots_no37 _ hm
    · have hs : pl.small (pl.gs b) := pl.gs_lt 16 b (by omega)
      unfold pl.text6 pl.tx
      split
      · exact pl.jn_no37 _ (fun x hx => hs x (List.mem_of_mem_take hx))
      · intro hm
        rcases List.mem_append.1 hm with hm | hm
        · rcases List.mem_append.1 hm with hm | hm
          · exact pl.jn_no37 _ (fun x hx => hs x (List.mem_of_mem_take hx)) hm
          · revert hm; decide
        · exact pl.jn_no37 _ (pl.take_small _ hs _ _) hm
theorem pl.text_len (b : List UInt8) (hb : b.length = 4 ∨ b.length = 16) : (pl.text b).length ≤ 100 := by
  have hd : ∀ c : List UInt8, (pl.dots c).length ≤ 15 := fun c => by
    unfold pl.dots
    split
    · rename_i x y z u
      have n0 := (pl.oct_num x).2.2.2
      have n1 := (pl.oct_num y).2.2.2
      have n2 := (pl.oct_num z).2.2.2
      have n3 := (pl.oct_num u).2.2.2
      simp only [List.length_append, List.length_cons]; omega
    · simp
  unfold pl.text
  split
  · have := hd b; omega
  · split
    · have := hd (b.drop 12); simp only [List.length_append, List.length_cons, List.length_nil]; omega
    · exact pl.tx_len _ (pl.gs_lt 16 b (by omega)) (pl.gs_len 8 b (by omega)) _ _ _

/-- Text of bytes that came in -/
theorem text_reads (v : Value) (b : List UInt8) (w : World) (hb : b.length = 4 ∨ b.length = 16) (hv : Reads w v b) (w' : World) (hw : Below w.heap.size w w') :
    Calls Tryd.prog 33 #[v] w' fun e w2 => e = .returned (.string ⟨(pl.text b).toArray⟩) ∧ Below w'.heap.size w' w2 := by
  obtain ⟨a, cap, rfl, h1, _, _, h3⟩ := hv
  obtain ⟨g, o, ha, hg, _⟩ := h3 0 _ (List.getElem?_eq_getElem (by omega : 0 < b.length))
  subst ha
  have hc : InBlk w' g o b := fun k x hx => by
    obtain ⟨g', o', ha, hg', hc⟩ := h3 k x hx
    injection ha with ha
    injection ha with e1 e2
    subst e1 e2
    rw [hw.cell (p := ⟨g, o + k, none⟩) hg]
    exact hc
  have hgl' := Nat.lt_of_lt_of_le hg hw.size
  rcases hb with hb | hb
  · obtain ⟨x, y, z, u, rfl⟩ : ∃ x y z u, b = [x, y, z, u] := by
      match b, hb with
      | [x, y, z, u], _ => exact ⟨x, y, z, u, rfl⟩
    refine (text4_sp x y z u g o cap w' hc).mono fun e w2 ⟨he, k, hk⟩ => ⟨he, ?_⟩
    rw [hk]; exact below_drewN (Below.refl _ _) _
  · have := text16_sp b hb g o cap w' hc hgl' (by omega)
    rw [hb]
    exact this

set_option maxRecDepth 100000 in
set_option maxHeartbeats 8000000 in
theorem litb_law (g4 o4 g6 o6 : Nat) (a : Option Addr) (cap : Nat) (l : List UInt8) (w : World) (hv : Reads w (.slice a l.length cap) l) (hI : IpVars w g4 o4 g6 o6) :
    Calls Tryd.prog 10 #[.slice a l.length cap] w fun e w' => e = .returned (.bool true) ∧ Below w.heap.size w w' := by
  by_cases hs : 2147483647 < l.length
  · clear hv hI
    go_enter Tryd.func10, Tryd.ntmps10
    go_wp2_with fail
    go_ret
    exact ⟨rfl, Below.refl _ _⟩
  · have HWK := Lib.hid works_any
    by_cases hl : l.length = 4 ∨ l.length = 16
    · have htx := fun W => text_reads _ l w hl hv W
      have hlit : ∀ W, Below w.heap.size w W → Calls Tryd.prog 36 #[.string ⟨(pl.text l).toArray⟩] W fun e w' => e = .returned (.string ⟨(pl.text l).toArray⟩) ∧ Below W.heap.size W w' := fun W hb => by
        have h := ilit_sp g4 o4 g6 o6 ⟨(pl.text l).toArray⟩ W (by have := pl.text_len l hl; show (pl.text l).length ≤ _; omega) (hI.below hb (Nat.le_refl _)) (by simpa using pl.text_no37 l hl)
        have e : pl.lit (⟨(pl.text l).toArray⟩ : ByteArray).data.toList = pl.text l := by
          show pl.lit (pl.text l) = _
          unfold pl.lit
          rw [pl.text_addr l hl]
        rw [e] at h
        exact h
      obtain ⟨T, hT⟩ : ∃ T : ByteArray, (⟨(pl.text l).toArray⟩ : ByteArray) = T := ⟨_, rfl⟩
      simp only [hT] at hlit htx
      obtain ⟨n, hn⟩ : ∃ n, l.length = n := ⟨_, rfl⟩
      rw [hn] at hl htx ⊢
      have HTX := Lib.hid htx
      have HLIT := Lib.hid hlit
      clear hlit htx hv hI hT hs hn
      rcases hl with rfl | rfl
      · go_enter Tryd.func10, Tryd.ntmps10
        go_wp2_with (first
          | (go_at_call 33; have hx0 := HB2; refine (HTX.out _ HB2.out).mono ?_; rintro e w3 ⟨rfl, hb3⟩; have HB3 := Lib.hid (HB2.out.trans (hb3.mono HB2.out.size)); clear hb3)
          | (go_at_call 36; refine (HLIT.out _ HB1.out).mono ?_; rintro e w2 ⟨rfl, hb2⟩; have HB2 := Lib.hid (HB1.out.trans (hb2.mono HB1.out.size)); clear hb2)
          | (go_at_call 33; refine (HTX.out _ (Below.refl _ _)).mono ?_; rintro e w1 ⟨rfl, hb1⟩; have HB1 := Lib.hid hb1; clear hb1))
        go_ret
        exact ⟨rfl, HB3.out⟩
      · go_enter Tryd.func10, Tryd.ntmps10
        go_wp2_with (first
          | (go_at_call 33; have hx0 := HB2; refine (HTX.out _ HB2.out).mono ?_; rintro e w3 ⟨rfl, hb3⟩; have HB3 := Lib.hid (HB2.out.trans (hb3.mono HB2.out.size)); clear hb3)
          | (go_at_call 36; refine (HLIT.out _ HB1.out).mono ?_; rintro e w2 ⟨rfl, hb2⟩; have HB2 := Lib.hid (HB1.out.trans (hb2.mono HB1.out.size)); clear hb2)
          | (go_at_call 33; refine (HTX.out _ (Below.refl _ _)).mono ?_; rintro e w1 ⟨rfl, hb1⟩; have HB1 := Lib.hid hb1; clear hb1))
        go_ret
        exact ⟨rfl, HB3.out⟩
    · obtain ⟨n, hn⟩ : ∃ n, l.length = n := ⟨_, rfl⟩
      rw [hn] at hl hs ⊢
      have h4 : ((n : Int) == 4) = false := beqN n 4 (fun h => hl (.inl h))
      have h16 : ((n : Int) == 16) = false := beqN n 16 (fun h => hl (.inr h))
      have g4' : ((n : Int) != 4) = true := by rw [bne, h4]; rfl
      have g16' : ((n : Int) != 16) = true := by rw [bne, h16]; rfl
      clear hv hI hl hn
      go_enter Tryd.func10, Tryd.ntmps10
      go_wp2_with (go_at_call 16; refine (HWK.out _).mono ?_; rintro e w2 ⟨rfl, hb2⟩)
      go_ret
      exact ⟨rfl, hb2⟩

theorem walk_FnLiteralBytes (a : Option Addr) (len cap : Nat) (zs : List Int) (W : World) (hr : IsRow .u8 W a len cap zs) (hL : laidMetH Tryd.prog Rows.fnLiteralBytesRow.laid W) :
    Calls Tryd.prog 10 #[.slice a len cap] W fun e w' => e = .returned (.bool true) ∧ Below W.heap.size W w' := by
  rw [MakeChecks.laidMetH_plain _ _ _ (by kernel_rfl)] at hL
  obtain ⟨g4, o4, g6, o6, hI⟩ := ip_of_laid hL
  obtain ⟨l, rfl, hv⟩ := Reads.of_row hr
  exact litb_law g4 o4 g6 o6 a cap l W hv hI

end Go.Proofs.YtfkohahlpfejbaaDoor

/- MaskL: WALKS: the thin package's masks. -/
namespace Go.Proofs.YtfkohahlpfejbaaDoor
open Go.RowKit

theorem bel_d1 {w w' : World} (h : Below w.drew.heap.size w.drew w') : Below w.heap.size w w' := (below_drewN (Below.refl _ _) 1).trans (h.mono (by simp))

set_option maxRecDepth 100000 in
theorem ipi_4 (vb vm : Value) (b m : List UInt8) (w : World) (hb : Reads w vb b) (hm : Reads w vm m) (hL : b.length = 4) (hl : m.length = 4) :
    Calls Tryd.prog 34 #[vb, vm] w fun e w' => ∃ v, e = .returned v ∧ Byts w' w.heap.size v (pl.and b m) ∧ Below w.heap.size w w' := by
  have H := ipm_4 vb vm b m w hb hm hL hl
  have HH := Lib.hid H
  clear H hb hm
  go_enter Tryd.func34, Tryd.ntmps34
  go_wp2_with fail
  refine (HH.out).mono ?_
  rintro e w1 ⟨v, rfl, hY, hb⟩
  go_wp2_with fail
  go_ret
  exact ⟨_, rfl, hY, hb⟩

set_option maxRecDepth 100000 in
theorem ipi_16 (vb vm : Value) (b m : List UInt8) (w : World) (hb : Reads w vb b) (hm : Reads w vm m) (hL : b.length = 16) (hl : m.length = 16) :
    Calls Tryd.prog 34 #[vb, vm] w fun e w' => ∃ v, e = .returned v ∧ Byts w' w.heap.size v (pl.and b m) ∧ Below w.heap.size w w' := by
  have H := ipm_16 vb vm b m w hb hm hL hl
  have HH := Lib.hid H
  clear H hb hm
  go_enter Tryd.func34, Tryd.ntmps34
  go_wp2_with fail
  refine (HH.out).mono ?_
  rintro e w1 ⟨v, rfl, hY, hb⟩
  go_wp2_with fail
  go_ret
  exact ⟨_, rfl, hY, hb⟩

end Go.Proofs.YtfkohahlpfejbaaDoor
