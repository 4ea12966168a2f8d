/-
  WALKS: the reference's Mapped and Text.
-/
import Derived.Test.YtfkohahlpfejbaaDoorNumber
import Derived.Test.YtfkohahlpfejbaaDoorPlTrip
import Derived.Test.YtfkohahlpfejbaaDoorByt
import Derived.Test.YtfkohahlpfejbaaDoorBlk
import Derived.Deep.RegionHeld3
import Derived.Laws.BitsLemmas
namespace Go.Proofs.YtfkohahlpfejbaaDoor
open Go.RowKit

theorem pl.mapped_iff (b : List UInt8) : pl.mapped b = true ↔ (∀ j, j < 10 → b[j]? = some 0) ∧ b[10]? = some 255 ∧ b[11]? = some 255 := by
  unfold pl.mapped
  rw [beq_iff_eq]
  constructor
  · intro h
    have k : ∀ j, j < 12 → b[j]? = pl.pre12[j]? := fun j hj => by
      rw [← h, List.getElem?_take, if_pos hj]
    refine ⟨fun j hj => ?_, k 10 (by omega), k 11 (by omega)⟩
    rw [k j (by omega)]
    match j, hj with
    | 0, _ => rfl
    | 1, _ => rfl
    | 2, _ => rfl
    | 3, _ => rfl
    | 4, _ => rfl
    | 5, _ => rfl
    | 6, _ => rfl
    | 7, _ => rfl
    | 8, _ => rfl
    | 9, _ => rfl
  · rintro ⟨h0, h1, h2⟩
    apply List.ext_getElem?
    intro j
    rw [List.getElem?_take]
    by_cases hj : j < 12
    · rw [if_pos hj]
      match j, hj with
      | 0, _ => rw [h0 0 (by omega)]; rfl
      | 1, _ => rw [h0 1 (by omega)]; rfl
      | 2, _ => rw [h0 2 (by omega)]; rfl
      | 3, _ => rw [h0 3 (by omega)]; rfl
      | 4, _ => rw [h0 4 (by omega)]; rfl
      | 5, _ => rw [h0 5 (by omega)]; rfl
      | 6, _ => rw [h0 6 (by omega)]; rfl
      | 7, _ => rw [h0 7 (by omega)]; rfl
      | 8, _ => rw [h0 8 (by omega)]; rfl
      | 9, _ => rw [h0 9 (by omega)]; rfl
      | 10, _ => rw [h1]; rfl
      | 11, _ => rw [h2]; rfl
    · rw [if_neg hj]
      have : pl.pre12.length ≤ j := by show 12 ≤ j; omega
      rw [List.getElem?_eq_none this]

/-- the bytes lie in a block -/
def InBlk (w : World) (g o : Nat) (b : List UInt8) : Prop := ∀ k x, b[k]? = some x → w.cell? ⟨g, o + k, none⟩ = some (pl.byteV x)

set_option maxRecDepth 100000 in
set_option maxHeartbeats 4000000 in
theorem mp_sp (b : List UInt8) (hb : b.length = 16) (g o cap : Nat) (w : World) (hc : InBlk w g o b) :
    Calls Tryd.prog 31 #[.slice (some ⟨g, o, none⟩) 16 cap] w fun e w' => e = .returned (.bool (pl.mapped b)) ∧ w = w' := by
  have hmi := pl.mapped_iff b
  obtain ⟨M, hM⟩ : ∃ M, pl.mapped b = M := ⟨_, rfl⟩
  rw [hM] at hmi ⊢
  have HMI := Lib.hid hmi
  have HC := Lib.hid hc
  have HB := Lib.hid hb
  clear hmi hc hb hM
  go_enter Tryd.func31, Tryd.ntmps31
  go_wp2_with fail
  go_loopw [4] (fun iv wr => ∃ k : Nat, iv = .int .i64 (k : Int) ∧ k ≤ 10 ∧ Hid (∀ j, j < k → b[j]? = some 0) ∧ wr = w) (fun iv _ => 10 - (intOf iv).toNat)
  case atStart => exact ⟨0, rfl, by omega, Lib.hid (fun j hj => absurd hj (by omega)), rfl⟩
  case round =>
    obtain ⟨k, rfl, hk, HZ, hwr⟩ := hrel
    replace hwr := hwr.symm
    subst hwr
    by_cases hlt : k < 10
    · obtain ⟨x, hx⟩ : ∃ x, b[k]? = some x := ⟨_, List.getElem?_eq_getElem (by rw [HB.out]; omega)⟩
      have hcell : w.cell? ⟨g, o + k, none⟩ = some (.int .u8 (x.toNat : Int)) := HC.out k x hx
      have HX := Lib.hid hx
      clear hx
      by_cases h0 : x = 0
      · subst h0
        have h1 : ((0 : UInt8).toNat : Int) = 0 := rfl
        go_wp2_with fail
        go_roundw
        case rel => exact ⟨k + 1, by go_num, by omega, Lib.hid (fun j hj => by
          rcases Nat.lt_or_ge j k with h | h
          · exact HZ.out j h
          · rw [show j = k by omega]; exact HX.out), by first | rfl | trivial⟩
        case measure => simp [intOf]; omega
      · have hne : ((x.toNat : Int) == 0) = false := by
          rw [beq_eq_false_iff_ne]; intro e; exact h0 (UInt8.toNat_inj.1 (by show x.toNat = 0; omega))
        have HMF : Hid (M = false) := Lib.hid (by
          rw [← Bool.not_eq_true]
          intro h
          have := (HMI.out.1 h).1 k hlt
          rw [HX.out] at this
          injection this with this
          exact h0 this)
        go_wp2_with fail
        go_ret
        exact ⟨by rw [HMF.out]; rfl, rfl⟩
    · have hk10 : k = 10 := by omega
      subst hk10
      obtain ⟨x, hx⟩ : ∃ x, b[10]? = some x := ⟨_, List.getElem?_eq_getElem (by rw [HB.out]; omega)⟩
      obtain ⟨y, hy⟩ : ∃ y, b[11]? = some y := ⟨_, List.getElem?_eq_getElem (by rw [HB.out]; omega)⟩
      have c10 : w.cell? ⟨g, o + 10, none⟩ = some (.int .u8 (x.toNat : Int)) := HC.out 10 x hx
      have c11 : w.cell? ⟨g, o + 11, none⟩ = some (.int .u8 (y.toNat : Int)) := HC.out 11 y hy
      have hi : M = true ↔ (x = 255 ∧ y = 255) := by
        rw [HMI.out, hx, hy]
        constructor
        · rintro ⟨_, h1, h2⟩; injection h1 with h1; injection h2 with h2; exact ⟨h1, h2⟩
        · rintro ⟨h1, h2⟩; exact ⟨HZ.out, by rw [h1], by rw [h2]⟩
      have HI := Lib.hid hi
      clear hx hy hi
      have n255 : ∀ z : UInt8, z ≠ 255 → ((z.toNat : Int) == 255) = false := fun z hz => by
        rw [beq_eq_false_iff_ne]; intro e; exact hz (UInt8.toNat_inj.1 (by show z.toNat = 255; omega))
      by_cases hx : x = 255
      · subst hx
        by_cases hy : y = 255
        · subst hy
          have HM : Hid (M = true) := Lib.hid (HI.out.2 ⟨rfl, rfl⟩)
          clear n255
          go_wp2_with fail
          go_ret
          exact ⟨by rw [HM.out]; rfl, rfl⟩
        · have hyb := n255 y hy
          have HM : Hid (M = false) := Lib.hid (by rw [← Bool.not_eq_true]; intro h; exact hy (HI.out.1 h).2)
          clear n255
          go_wp2_with fail
          go_ret
          exact ⟨by rw [HM.out]; rfl, rfl⟩
      · have hxb := n255 x hx
        have HM : Hid (M = false) := Lib.hid (by rw [← Bool.not_eq_true]; intro h; exact hx (HI.out.1 h).1)
        clear n255
        go_wp2_with fail
        go_ret
        exact ⟨by rw [HM.out]; rfl, rfl⟩

theorem pl.ba (S : ByteArray) (l : List UInt8) (h : S.data.toList = l) : S = ⟨l.toArray⟩ := by rw [← h]
theorem num_app (S : ByteArray) (n : Nat) : (S ++ ⟨(pl.num 10 n).toArray⟩).data.toList = S.data.toList ++ pl.num 10 n := by simp [ByteArray.data_append]

set_option maxRecDepth 100000 in
set_option maxHeartbeats 8000000 in
theorem text4_sp (x y z u : UInt8) (g o cap : Nat) (w : World) (hc : InBlk w g o [x, y, z, u]) :
    Calls Tryd.prog 33 #[.slice (some ⟨g, o, none⟩) 4 cap] w fun e w' => e = .returned (.string ⟨(pl.dots [x, y, z, u]).toArray⟩) ∧ ∃ k, w' = w.drewN k := by
  have c0 : w.cell? ⟨g, o, none⟩ = some (.int .u8 (x.toNat : Int)) := hc 0 x rfl
  have c1 : w.cell? ⟨g, o + 1, none⟩ = some (.int .u8 (y.toNat : Int)) := hc 1 y rfl
  have c2 : w.cell? ⟨g, o + 2, none⟩ = some (.int .u8 (z.toNat : Int)) := hc 2 z rfl
  have c3 : w.cell? ⟨g, o + 3, none⟩ = some (.int .u8 (u.toNat : Int)) := hc 3 u rfl
  have hx := x.toNat_lt
  have hy := y.toNat_lt
  have hz := z.toNat_lt
  have hu := u.toNat_lt
  obtain ⟨NS, hNS⟩ : ∃ NS : UInt8 → ByteArray, NS = fun c => ⟨(pl.num 10 c.toNat).toArray⟩ := ⟨_, rfl⟩
  have hnum : ∀ (c : UInt8) (k : Nat), Calls Tryd.prog 55 #[.int .i64 (c.toNat : Int), .int .i64 10] (w.drewN k) fun e w' => e = .returned (.string (NS c)) ∧ ∃ n, w' = w.drewN n := fun c k => by
    rw [hNS]
    refine (num_10 c.toNat (w.drewN k) (by have := c.toNat_lt; omega)).mono fun e w' ⟨he, n, hn⟩ => ⟨he, k + n, ?_⟩
    rw [hn]; simp
  have HN := Lib.hid hnum
  have HNS : Hid (∀ c, (NS c).data.toList = pl.num 10 c.toNat) := Lib.hid (fun c => by rw [hNS])
  have sx : (NS x).size ≤ 3 := by rw [hNS]; exact (pl.oct_num x).2.2.2
  have sy : (NS y).size ≤ 3 := by rw [hNS]; exact (pl.oct_num y).2.2.2
  have sz : (NS z).size ≤ 3 := by rw [hNS]; exact (pl.oct_num z).2.2.2
  have su : (NS u).size ≤ 3 := by rw [hNS]; exact (pl.oct_num u).2.2.2
  clear hc hnum hNS
  go_enter Tryd.func33, Tryd.ntmps33
  go_wp2_with fail
  go_quiet (first | (go_at_call 55; exact HN.out _ _))
  go_wp2_with fail
  go_ret
  exact ⟨ret_str (pl.ba _ _ (by simp [ByteArray.data_append, HNS.out, pl.dots])), _, rfl⟩

end Go.Proofs.YtfkohahlpfejbaaDoor
