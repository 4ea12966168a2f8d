/-
  WALKS: the reference's Text of 16 bytes.
-/
import Derived.Test.YtfkohahlpfejbaaDoorText
import Derived.Test.YtfkohahlpfejbaaDoorStr9
import Derived.Deep.CutBlock
import Derived.Deep.DeepCutAuto
import Derived.Deep.LoopGhost
import Derived.StillTailTactics
namespace Go.Proofs.YtfkohahlpfejbaaDoor
open Go.RowKit

/-- Block g holds these numbers. -/
def IBlk (w : World) (g : Nat) (l : List Nat) : Prop := Blk w g (l.map (fun n : Nat => Value.int .i64 (n : Int))).toArray 88
theorem IBlk.cell {w : World} {g : Nat} {l : List Nat} (h : IBlk w g l) (k x : Nat) (hx : l[k]? = some x) : w.cell? ⟨g, k, none⟩ = some (.int .i64 (x : Int)) := by
  rw [Blk.cell h k]
  simp [hx]
theorem IBlk.set {w : World} {g : Nat} {l : List Nat} (h : IBlk w g l) (k x : Nat) : IBlk (w.setCell ⟨g, k, none⟩ (.int .i64 (x : Int))) g (l.set k x) := by
  have := Blk.set h k (.int .i64 (x : Int))
  unfold IBlk
  rw [List.map_set, ← List.setIfInBounds_toArray]
  exact this
/-- the run that is known when k groups have been tried -/
def LongV (G : List Nat) (k : Nat) (av lv : Value) : Prop :=
  (av = .int .i64 (-1) ∧ lv = .int .i64 1 ∧ Hid (pl.best G k = (8, 1))) ∨
  (∃ a l : Nat, av = .int .i64 (a : Int) ∧ lv = .int .i64 (l : Int) ∧ a + l ≤ 8 ∧ 2 ≤ l ∧ Hid (pl.best G k = (a, l)))
theorem pl.len_eq (S : ByteArray) : S.data.toList.length = S.size := by simp
theorem pl.z58 (x : UInt8) (h : x ≠ 58) : ((x.toNat : Int) == 58) = false := by
  rw [beq_eq_false_iff_ne]; intro e; exact h (UInt8.toNat_inj.1 (by show x.toNat = 58; omega))
theorem beqN0 (a b : Nat) (h : a ≠ b) : ((a : Int) == (b : Int)) = false := by rw [beq_eq_false_iff_ne]; omega
theorem wraps_i64 (n : Int) (h₀ : 0 ≤ n) (h₁ : n < 2 ^ 63) : IntKind.i64.wrap n = n := by rw [IntKind.wrap_i64]; omega
theorem i64_or8 (x y : Int) (hx₀ : 0 ≤ x) (hx : x % 256 = 0) (hx₁ : x < 9223372036854775808) (hy₀ : 0 ≤ y) (hy : y < 256) : bits .or .i64 x y = x + y :=
  bits_join .i64 63 (by decide) wraps_i64 8 x y hx₀ hx hx₁ hy₀ hy (by omega)
theorem pl.gs_at : ∀ (b : List UInt8) (k : Nat) (x y : UInt8), b[2 * k]? = some x → b[2 * k + 1]? = some y → (pl.gs b)[k]? = some (x.toNat * 256 + y.toNat)
  | [], k, x, y, h, _ => by simp at h
  | [a], k, x, y, _, h => by
    have := (List.getElem?_eq_some_iff.1 h).1
    simp at this
  | a :: c :: r, 0, x, y, h1, h2 => by
    injection h1 with h1
    injection h2 with h2
    subst h1 h2
    rfl
  | a :: c :: r, k + 1, x, y, h1, h2 => by
    show (pl.gs r)[k]? = _
    refine pl.gs_at r k x y ?_ ?_
    · rw [show 2 * (k + 1) = 2 * k + 1 + 1 by omega] at h1; exact h1
    · rw [show 2 * (k + 1) + 1 = 2 * k + 1 + 1 + 1 by omega] at h2; exact h2
theorem pl.fill_one (G : List Nat) (k x : Nat) (h8 : G.length = 8) (hk : k < 8) (hx : G[k]? = some x) : (G.take k ++ List.replicate (8 - k) 0).set k x = G.take (k + 1) ++ List.replicate (8 - (k + 1)) 0 := by
  have hl : (G.take k).length = k := by rw [List.length_take]; omega
  rw [List.set_append_right _ _ (by omega), hl, Nat.sub_self, show 8 - k = 8 - (k + 1) + 1 by omega, List.replicate_succ, List.set_cons_zero, List.take_add_one, hx]
  simp

set_option maxRecDepth 100000 in
set_option maxHeartbeats 40000000 in
theorem text16_sp (b : List UInt8) (hb : b.length = 16) (g o cap : Nat) (w : World) (hc : InBlk w g o b) (hgl : g < w.heap.size) (hcap : 16 ≤ cap) :
    Calls Tryd.prog 33 #[.slice (some ⟨g, o, none⟩) 16 cap] w fun e w' => e = .returned (.string ⟨(pl.text b).toArray⟩) ∧ Below w.heap.size w w' := by
  have hmp := mp_sp b hb g o cap w hc
  unfold pl.text
  rw [if_neg (by omega)]
  by_cases hm : pl.mapped b = true
  · rw [if_pos hm]
    rw [hm] at hmp
    have hd : (b.drop 12).length = 4 := by rw [List.length_drop]; omega
    match hx : b.drop 12, hd with
    | [x, y, z, u], _ =>
      have ht := fun cap2 => text4_sp x y z u g (o + 12) cap2 w (fun k c h => by
        rw [← hx, List.getElem?_drop] at h
        have := hc _ _ h
        rw [show o + 12 + k = o + (12 + k) by omega]; exact this)
      have hl : (pl.dots [x, y, z, u]).length ≤ 15 := by
        have n0 := (pl.oct_num x).2.2.2
        have n1 := (pl.oct_num y).2.2.2
        have n2 := (pl.oct_num z).2.2.2
        have n3 := (pl.oct_num u).2.2.2
        simp only [pl.dots, List.length_append, List.length_cons]; omega
      obtain ⟨D, hD⟩ : ∃ D : ByteArray, (⟨(pl.dots [x, y, z, u]).toArray⟩ : ByteArray) = D := ⟨_, rfl⟩
      have hDd : D.data.toList = pl.dots [x, y, z, u] := by rw [← hD]
      have hDs : D.size ≤ 15 := by rw [← hD]; exact hl
      simp only [hD] at ht
      have HT := Lib.hid ht
      have HMP := Lib.hid hmp
      have HDD := Lib.hid hDd
      have hcn : ¬ cap = 12 := by omega
      have hci : (12 : Int) ≤ (cap : Int) := by omega
      clear ht hmp hDd hD hl hm hc
      go_enter Tryd.func33, Tryd.ntmps33
      go_wp2_with (go_at_call 31; refine HMP.out.mono ?_; rintro e w' ⟨rfl, rfl⟩)
      go_wp2_with (first
        | (go_at_call 33; refine (HT.out _).mono ?_; rintro e w' ⟨rfl, k, rfl⟩))
      go_ret
      exact ⟨ret_str (pl.ba _ _ (by simp [ByteArray.data_append, HDD.out])), below_drewN (Below.refl _ _) _⟩
  · rw [if_neg hm]
    have hmf : pl.mapped b = false := by simpa using hm
    rw [hmf] at hmp
    have hG8 := pl.gs_len 8 b hb
    have hsm : pl.small (pl.gs b) := pl.gs_lt 16 b (by omega)
    have hga := pl.gs_at b
    unfold pl.text6
    obtain ⟨G, hG⟩ : ∃ G, pl.gs b = G := ⟨_, rfl⟩
    rw [hG] at hG8 hsm hga ⊢
    obtain ⟨R, hR⟩ : ∃ R, pl.tx G (pl.best G 8).1 (pl.best G 8).2 8 = R := ⟨_, rfl⟩
    rw [hR]
    obtain ⟨g8, hg8⟩ : ∃ g8, w.heap.size = g8 := ⟨_, rfl⟩
    obtain ⟨W1, hW1⟩ : ∃ W1, w.alloc (Obj.cells (List.replicate 8 (Value.int IntKind.i64 0)).toArray 88) = W1 := ⟨_, rfl⟩
    have hW1' : w.alloc (Obj.cells #[Value.int IntKind.i64 0, Value.int IntKind.i64 0, Value.int IntKind.i64 0, Value.int IntKind.i64 0, Value.int IntKind.i64 0, Value.int IntKind.i64 0, Value.int IntKind.i64 0, Value.int IntKind.i64 0] 88) = W1 := hW1
    have hA : IBlk W1 g8 (List.replicate 8 0) := by rw [← hW1, ← hg8]; exact Blk.new w _ _
    have hb1 : Below g8 w W1 := by rw [← hW1, ← hg8]; exact (Below.refl _ _).alloc (Nat.le_refl _) _
    have hgl8 : g < g8 := by omega
    have HMP := Lib.hid hmp
    have HSM := Lib.hid hsm
    have HR := Lib.hid hR
    have HG8 := Lib.hid hG8
    have HGA := Lib.hid hga
    have HA := Lib.hid hA
    have HB1 := Lib.hid hb1
    have HC := Lib.hid hc
    have HB := Lib.hid hb
    clear hmp hsm hR hG8 hga hA hb1 hc hb hm hmf hG hW1 hgl
    go_enter Tryd.func33, Tryd.ntmps33
    go_upto_block 0 with (go_at_call 31; refine HMP.out.mono ?_; rintro e w' ⟨rfl, rfl⟩)
    go_cut [46, 4] (fun iv z4 wx => Hid (IBlk wx g8 G) ∧ Hid (Below g8 w wx))
    case first =>
     as_aux_lemma =>
      go_wp2_with fail
      go_loopw [46] (fun iv wr => ∃ k : Nat, iv = .int .i64 (k : Int) ∧ k ≤ 8 ∧ Hid (IBlk wr g8 (G.take k ++ List.replicate (8 - k) 0)) ∧ Hid (Below g8 w wr)) (fun iv _ => 8 - (intOf iv).toNat)
      case atStart => exact ⟨0, rfl, by omega, HA, HB1⟩
      case round =>
        obtain ⟨k, rfl, hk, HI, HBW⟩ := hrel
        by_cases hk8 : k < 8
        · obtain ⟨x, hx⟩ : ∃ x, b[2 * k]? = some x := ⟨_, List.getElem?_eq_getElem (by rw [HB.out]; omega)⟩
          obtain ⟨y, hy⟩ : ∃ y, b[2 * k + 1]? = some y := ⟨_, List.getElem?_eq_getElem (by rw [HB.out]; omega)⟩
          have hgk := HGA.out k x y hx hy
          have cx : wr.cell? ⟨g, o + 2 * k, none⟩ = some (.int .u8 (x.toNat : Int)) := by rw [HBW.out.cell (p := ⟨g, o + 2 * k, none⟩) hgl8]; exact HC.out _ _ hx
          have cy : wr.cell? ⟨g, o + (2 * k + 1), none⟩ = some (.int .u8 (y.toNat : Int)) := by rw [HBW.out.cell (p := ⟨g, o + (2 * k + 1), none⟩) hgl8]; exact HC.out _ _ hy
          have hxl := x.toNat_lt
          have hyl := y.toNat_lt
          have hor : bits .or .i64 ((x.toNat : Int) * 256) (y.toNat : Int) = (x.toNat : Int) * 256 + (y.toNat : Int) := i64_or8 _ _ (by omega) (by omega) (by omega) (by omega) (by omega)
          have hlen : (G.take k ++ List.replicate (8 - k) 0).length = 8 := by have := HG8.out; simp; omega
          obtain ⟨zz, hcell⟩ : ∃ v, wr.cell? ⟨g8, k, none⟩ = some v := ⟨_, HI.out.cell k _ (List.getElem?_eq_getElem (by rw [hlen]; omega))⟩
          have hfro : wr.frozen? ⟨g8, k, none⟩ = false := Blk.frozen HI.out k
          have hset := HI.out.set k (x.toNat * 256 + y.toNat)
          rw [pl.fill_one G k _ HG8.out hk8 hgk, show ((x.toNat * 256 + y.toNat : Nat) : Int) = (x.toNat : Int) * 256 + (y.toNat : Int) by omega] at hset
          have HSET := Lib.hid hset
          have hk0 : (0 : Int) ≤ (k : Int) := by omega
          have h2k : (0 : Int) ≤ 2 * (k : Int) := by omega
          have h2k1 : 2 * (k : Int) + 1 < 16 := by omega
          have h2k2 : 2 * (k : Int) < 16 := by omega
          clear hx hy hgk hset hlen
          go_wp2_with fail
          go_region
          go_wp2_with fail
          refine ⟨⟨k + 1, by go_num, by omega, Lib.hid (Blk.keep HSET.out rfl), Lib.hid (below_drewN (HBW.out.setCell (p := ⟨g8, k, none⟩) (Nat.le_refl _) _) 1)⟩, ?_⟩
          simp [intOf]; omega
        · have hk8' : k = 8 := by omega
          subst hk8'
          go_wp2_with fail
          go_meet
          case rel => exact ⟨Lib.hid (by have h := HI.out; rw [List.take_of_length_le (by rw [HG8.out]; omega), Nat.sub_self, List.replicate_zero, List.append_nil] at h; exact h), HBW⟩
    case rest =>
      obtain ⟨HI, HBW⟩ := hcut
      go_upto_block 2 with fail
      go_cut [67, 5, 6, 7, 8] (fun z67 av lv z7 z8 wx => LongV G 8 av lv ∧ wx = wc)
      case first =>
       as_aux_lemma =>
        go_wp2_with fail
        go_loopw [5, 6, 67] (fun av lv iv wr => ∃ k : Nat, iv = .int .i64 (k : Int) ∧ k ≤ 8 ∧ LongV G k av lv ∧ wr = wc) (fun _ _ iv _ => 8 - (intOf iv).toNat)
        case atStart => exact ⟨0, rfl, by omega, .inl ⟨rfl, rfl, Lib.hid rfl⟩, rfl⟩
        case round =>
          obtain ⟨k, rfl, hk, HBV, hwr⟩ := hrel
          replace hwr := hwr.symm
          subst hwr
          by_cases hk8 : k < 8
          · have hd8 : decide ((k : Int) < 8) = true := decide_eq_true (by omega)
            go_wp2_with fail
            clear hd8
            go_loopg [8] (8 - k) (fun n nv wi => ∃ m : Nat, nv = .int .i64 (m : Int) ∧ k + m ≤ 8 ∧ Hid (n + (k + m) = 8) ∧ Hid (pl.run0 G k = m + pl.run0 G (k + m)) ∧ wi = wc)
            case atStart => exact ⟨0, rfl, by omega, Lib.hid (by omega), Lib.hid (by simp), rfl⟩
            case round =>
              obtain ⟨m, rfl, hkm, HN, HR0, hwi⟩ := hrel
              replace hwi := hwi.symm
              subst hwi
              by_cases hlt : k + m < 8
              · obtain ⟨x, hx⟩ : ∃ x, G[k + m]? = some x := ⟨_, List.getElem?_eq_getElem (by rw [HG8.out]; exact hlt)⟩
                have HXE : Hid (∀ h : k + m < G.length, G[k + m] = x) := Lib.hid (fun h => (List.getElem?_eq_some_iff.1 hx).2)
                have hcell := HI.out.cell (k + m) x hx
                have hltI : (k : Int) + (m : Int) < 8 := by omega
                have hge : (0 : Int) ≤ (k : Int) + (m : Int) := by omega
                clear hx
                by_cases hx0 : x = 0
                · subst hx0
                  have HR2 : Hid (pl.run0 G k = m + 1 + pl.run0 G (k + (m + 1))) := Lib.hid (pl.run0_go G k m (by rw [HG8.out]; exact hlt) (HXE.out _) HR0.out)
                  go_wp2_with fail
                  go_roundg (gk - 1)
                  case rel => exact ⟨m + 1, by go_num, by omega, Lib.hid (by have := HN.out; omega), HR2, by first | rfl | trivial⟩
                  case measure => have := HN.out; omega
                · have HRUN : Hid (pl.run0 G k = m) := Lib.hid (by
                    rw [HR0.out, pl.run0_stop G (k + m) (by rw [HG8.out]; exact hlt) (by rw [HXE.out _]; exact hx0)]; rfl)
                  have hxb : ((x : Int) == 0) = false := beqN0 x 0 hx0
                  clear HR0
                  rcases HBV with ⟨rfl, rfl, HB0⟩ | ⟨a, l, rfl, rfl, hal, hl2, HB0⟩
                  · by_cases h2 : 1 < m
                    · have HB2 : Hid (pl.best G (k + 1) = (k, m)) := Lib.hid (by rw [pl.best_take G k (by rw [HB0.out, HRUN.out]; exact h2), HRUN.out])
                      go_wp2_with fail
                      go_roundw
                      case rel => exact ⟨k + 1, by go_num, by omega, .inr ⟨k, m, rfl, rfl, hkm, h2, HB2⟩, by first | rfl | trivial⟩
                      case measure => simp [intOf]; omega
                    · have HB2 : Hid (pl.best G (k + 1) = (8, 1)) := Lib.hid (by rw [pl.best_leave G k (by rw [HB0.out, HRUN.out]; exact fun h => h2 h), HB0.out])
                      go_wp2_with fail
                      go_roundw
                      case rel => exact ⟨k + 1, by go_num, by omega, .inl ⟨rfl, rfl, HB2⟩, by first | rfl | trivial⟩
                      case measure => simp [intOf]; omega
                  · by_cases h2 : l < m
                    · have HB2 : Hid (pl.best G (k + 1) = (k, m)) := Lib.hid (by rw [pl.best_take G k (by rw [HB0.out, HRUN.out]; exact h2), HRUN.out])
                      go_wp2_with fail
                      go_roundw
                      case rel => exact ⟨k + 1, by go_num, by omega, .inr ⟨k, m, rfl, rfl, hkm, by omega, HB2⟩, by first | rfl | trivial⟩
                      case measure => simp [intOf]; omega
                    · have HB2 : Hid (pl.best G (k + 1) = (a, l)) := Lib.hid (by rw [pl.best_leave G k (by rw [HB0.out, HRUN.out]; exact h2), HB0.out])
                      go_wp2_with fail
                      go_roundw
                      case rel => exact ⟨k + 1, by go_num, by omega, .inr ⟨a, l, rfl, rfl, hal, hl2, HB2⟩, by first | rfl | trivial⟩
                      case measure => simp [intOf]; omega
              · have HRUN : Hid (pl.run0 G k = m) := Lib.hid (by
                  rw [HR0.out, pl.run0_end G (k + m) (by rw [HG8.out]; omega)]; rfl)
                have hltI : ¬ (k : Int) + (m : Int) < 8 := by omega
                clear HR0
                rcases HBV with ⟨rfl, rfl, HB0⟩ | ⟨a, l, rfl, rfl, hal, hl2, HB0⟩
                · by_cases h2 : 1 < m
                  · have HB2 : Hid (pl.best G (k + 1) = (k, m)) := Lib.hid (by rw [pl.best_take G k (by rw [HB0.out, HRUN.out]; exact h2), HRUN.out])
                    go_wp2_with fail
                    go_roundw
                    case rel => exact ⟨k + 1, by go_num, by omega, .inr ⟨k, m, rfl, rfl, hkm, h2, HB2⟩, by first | rfl | trivial⟩
                    case measure => simp [intOf]; omega
                  · have HB2 : Hid (pl.best G (k + 1) = (8, 1)) := Lib.hid (by rw [pl.best_leave G k (by rw [HB0.out, HRUN.out]; exact fun h => h2 h), HB0.out])
                    go_wp2_with fail
                    go_roundw
                    case rel => exact ⟨k + 1, by go_num, by omega, .inl ⟨rfl, rfl, HB2⟩, by first | rfl | trivial⟩
                    case measure => simp [intOf]; omega
                · by_cases h2 : l < m
                  · have HB2 : Hid (pl.best G (k + 1) = (k, m)) := Lib.hid (by rw [pl.best_take G k (by rw [HB0.out, HRUN.out]; exact h2), HRUN.out])
                    go_wp2_with fail
                    go_roundw
                    case rel => exact ⟨k + 1, by go_num, by omega, .inr ⟨k, m, rfl, rfl, hkm, by omega, HB2⟩, by first | rfl | trivial⟩
                    case measure => simp [intOf]; omega
                  · have HB2 : Hid (pl.best G (k + 1) = (a, l)) := Lib.hid (by rw [pl.best_leave G k (by rw [HB0.out, HRUN.out]; exact h2), HB0.out])
                    go_wp2_with fail
                    go_roundw
                    case rel => exact ⟨k + 1, by go_num, by omega, .inr ⟨a, l, rfl, rfl, hal, hl2, HB2⟩, by first | rfl | trivial⟩
                    case measure => simp [intOf]; omega
          · have hk8' : k = 8 := by omega
            subst hk8'
            go_wp2_with fail
            go_meet
            case rel => exact ⟨HBV, rfl⟩
      case rest =>
        obtain ⟨HBV, hwc⟩ := hcut
        subst hwc
        obtain ⟨A, L, at', rfl, rfl, HB0, hL1, hcase⟩ : ∃ (A L : Nat) (at' : Int), u5 = .int .i64 at' ∧ u6 = .int .i64 (L : Int) ∧ Hid (pl.best G 8 = (A, L)) ∧ 1 ≤ L ∧ ((A = 8 ∧ at' = -1 ∧ L = 1) ∨ (A < 8 ∧ at' = (A : Int) ∧ A + L ≤ 8)) := by
          rcases HBV with ⟨rfl, rfl, HB0⟩ | ⟨a, l, rfl, rfl, hal, hl2, HB0⟩
          · exact ⟨8, 1, -1, rfl, rfl, HB0, by omega, .inl ⟨rfl, rfl, rfl⟩⟩
          · exact ⟨a, l, a, rfl, rfl, HB0, by omega, .inr ⟨by omega, rfl, hal⟩⟩
        have HT : Hid (pl.tx G A L 8 = R) := Lib.hid (by rw [← HR.out, HB0.out])
        have HCASE := Lib.hid hcase
        have HL1 := Lib.hid hL1
        have hL8 : L ≤ 8 := by omega
        clear hcase
        go_wp2_with fail
        go_loopw [9, 10] (fun ov iv wr => ∃ (k n : Nat) (O : ByteArray), ov = .string O ∧ iv = .int .i64 (k : Int) ∧ k ≤ 8 ∧ Hid (k ≤ A ∨ A + L ≤ k) ∧ Hid (O.data.toList = pl.tx G A L k) ∧ O.size ≤ 100 ∧ wr = wc.drewN n) (fun _ iv _ => 8 - (intOf iv).toNat)
        case atStart => exact ⟨0, 0, ⟨#[]⟩, rfl, rfl, by omega, Lib.hid (by omega), Lib.hid (by rw [pl.tx_zero]), by decide, rfl⟩
        case round =>
          obtain ⟨k, n, O, rfl, rfl, hk, HK, HO, hOs, rfl⟩ := hrel
          by_cases hk8 : k < 8
          · by_cases hka : (k : Int) = at'
            · have hkA : k = A ∧ A + L ≤ 8 := by
                rcases HCASE.out with ⟨_, h, _⟩ | ⟨_, h, h2⟩ <;> omega
              have hrun := pl.tx_run G A L HL1.out (by rw [HG8.out]; exact hkA.2)
              have HTX : Hid ((O ++ ⟨#[58, 58]⟩).data.toList = pl.tx G A L (k + L)) := Lib.hid (by
                rw [ByteArray.data_append, Array.toList_append, HO.out, hkA.1, ← hrun])
              have HSZ : Hid ((O ++ (⟨#[58, 58]⟩ : ByteArray)).size ≤ 100) := Lib.hid (by
                have h := pl.tx_len G HSM.out HG8.out A L (k + L)
                rw [← HTX.out, pl.len_eq] at h
                exact h)
              have hkL : k + L ≤ 8 := by omega
              have hAk : Hid (A = k) := Lib.hid hkA.1.symm
              have HKL : Hid (A + L ≤ k + L) := Lib.hid (by omega)
              have hat : at' = (k : Int) := hka.symm
              clear hrun hkA hka
              subst hat
              go_wp2_with fail
              go_roundw
              case rel => exact ⟨k + L, _, _, rfl, by go_num, hkL, Lib.hid (.inr HKL.out), HTX, HSZ.out, rfl⟩
              case measure => simp [intOf]; omega
            · obtain ⟨x, hx⟩ : ∃ x, G[k]? = some x := ⟨_, List.getElem?_eq_getElem (by rw [HG8.out]; exact hk8)⟩
              have hxe : ∀ h : k < G.length, G[k] = x := fun h => (List.getElem?_eq_some_iff.1 hx).2
              have hx16 : x < 65536 := HSM.out x (List.mem_of_getElem? hx)
              have hkA : k < A ∨ A + L ≤ k := by
                have := HK.out
                rcases HCASE.out with ⟨_, h, _⟩ | ⟨_, h, h2⟩ <;> omega
              have hkb : ((k : Int) == at') = false := by rw [beq_eq_false_iff_ne]; exact hka
              have hcell := HI.out.cell k x hx
              have hcd : ∀ n, (wc.drewN n).cell? ⟨g8, k, none⟩ = some (.int .i64 (x : Int)) := fun n => hcell
              obtain ⟨NX, hNX⟩ : ∃ NX : ByteArray, (⟨(pl.num 16 x).toArray⟩ : ByteArray) = NX := ⟨_, rfl⟩
              have hnx : NX.data.toList = pl.num 16 x := by rw [← hNX]
              have hns : NX.size ≤ 4 := by rw [← hNX]; exact (pl.okG_num x hx16).2.2
              have hnum : ∀ W, Calls Tryd.prog 55 #[.int .i64 (x : Int), .int .i64 16] W fun e w' => e = .returned (.string NX) ∧ ∃ k, w' = W.drewN k := fun W => by rw [← hNX]; exact num_16 x W (by omega)
              have hsep := pl.tx_sep G HSM.out A L k (by rw [HG8.out]; exact hk8) HL1.out hkA
              have hk0 : (0 : Int) ≤ (k : Int) := by omega
              rw [← HO.out] at hsep
              have HNUM := Lib.hid hnum
              have HKA := Lib.hid hkA
              by_cases hb : pl.bare A L k
              · have htx := pl.tx_bare G A L k (by rw [HG8.out]; exact hk8) HL1.out hkA hb
                rw [hxe _, ← HO.out, ← hnx] at htx
                have HTX : Hid ((O ++ NX).data.toList = pl.tx G A L (k + 1)) := Lib.hid (by
                  rw [ByteArray.data_append, Array.toList_append, htx])
                have HSZ : Hid ((O ++ NX).size ≤ 100) := Lib.hid (by
                  have h := pl.tx_len G HSM.out HG8.out A L (k + 1)
                  rw [← HTX.out, pl.len_eq] at h
                  exact h)
                have hs1 := hsep.1 hb
                clear htx hb hsep hnum hnx hNX hcell hxe hx hkA hka
                by_cases hO0 : O.size = 0
                · have he := pl.emp_of O hO0
                  clear hs1
                  go_wp2_with (go_at_call 55; refine (HNUM.out _).mono ?_; rintro e w' ⟨rfl, n2, rfl⟩)
                  go_roundw
                  case rel => exact ⟨k + 1, _, _, rfl, by go_num, by omega, Lib.hid (by have := HKA.out; have := HL1.out; omega), HTX, HSZ.out, rfl⟩
                  case measure => simp [intOf]; omega
                · have he := pl.ne_empty O hO0
                  have hlast : O[O.size - 1] = 58 := by
                    rcases hs1 with h | h
                    · exact absurd (by have := congrArg List.length h; simpa using this) hO0
                    · rw [List.getLast?_eq_getElem?] at h
                      have hl : O.data.toList.length = O.size := by simp
                      rw [hl, pl.getElem_data O (O.size - 1) (by omega)] at h
                      injection h
                  have hl58 : ((O[O.size - 1].toNat : Int) == 58) = true := by rw [hlast]; rfl
                  clear hs1
                  go_wp2_with (go_at_call 55; refine (HNUM.out _).mono ?_; rintro e w' ⟨rfl, n2, rfl⟩)
                  go_roundw
                  case rel => exact ⟨k + 1, _, _, rfl, by go_num, by omega, Lib.hid (by have := HKA.out; have := HL1.out; omega), HTX, HSZ.out, rfl⟩
                  case measure => simp [intOf]; omega
              · have htx := pl.tx_colon G A L k (by rw [HG8.out]; exact hk8) HL1.out hkA hb
                rw [hxe _, ← HO.out, ← hnx] at htx
                have HTX : Hid ((O ++ ⟨#[58]⟩ ++ NX).data.toList = pl.tx G A L (k + 1)) := Lib.hid (by
                  rw [ByteArray.data_append, ByteArray.data_append, Array.toList_append, Array.toList_append, htx]; simp)
                have HSZ : Hid ((O ++ (⟨#[58]⟩ : ByteArray) ++ NX).size ≤ 100) := Lib.hid (by
                  have h := pl.tx_len G HSM.out HG8.out A L (k + 1)
                  rw [← HTX.out, pl.len_eq] at h
                  exact h)
                obtain ⟨hne, z, hz, hz58⟩ := hsep.2 hb
                have hO0 : O.size ≠ 0 := fun h => hne (pl.nil_of O h)
                have he := pl.ne_empty O hO0
                have hlast : O[O.size - 1] = z := by
                  rw [List.getLast?_eq_getElem?] at hz
                  have hl : O.data.toList.length = O.size := by simp
                  rw [hl, pl.getElem_data O (O.size - 1) (by omega)] at hz
                  injection hz
                have hzb := (pl.z58 z hz58)
                clear htx hb hsep hnum hnx hNX hcell hxe hx hkA hka hne hz hz58
                go_wp2_with (go_at_call 55; refine (HNUM.out _).mono ?_; rintro e w' ⟨rfl, n2, rfl⟩)
                go_roundw
                case rel => exact ⟨k + 1, _, _, rfl, by go_num, by omega, Lib.hid (by have := HKA.out; have := HL1.out; omega), HTX, HSZ.out, rfl⟩
                case measure => simp [intOf]; omega
          · have hk8' : k = 8 := by omega
            subst hk8'
            have HRR : Hid (O = ⟨R.toArray⟩) := Lib.hid (pl.ba _ _ (by rw [HO.out, HT.out]))
            go_wp2_with fail
            go_ret
            exact ⟨ret_str HRR.out, hg8 ▸ below_drewN HBW.out _⟩

end Go.Proofs.YtfkohahlpfejbaaDoor
