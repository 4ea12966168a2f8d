/-
  WALK: hexes of the reference.
-/
import Derived.Test.YtabeklpllphiaaaByt
import Derived.Test.YtabeklpllphiaaaHex
import Derived.Test.YtabeklpllphiaaaPlHw
namespace Go.Proofs.Ytabeklpllphiaaa
open Go.RowKit

theorem dig_val (b : UInt8) (v : Nat) (k : Bool) (w : World) (hv : (pl.hexv b).getD 0 = v) (hk : (pl.hexv b).isSome = k) :
    Calls Try.prog 38 #[.int .u8 b.toNat] w fun e w' => e = .returned (.tuple #[.int .i64 (v : Int), .bool k]) ∧ w = w' := by
  subst hv; subst hk; exact dig_sp b w

theorem or_val (x y : Nat) (hx : x < 16) (hy : y < 16) : Value.int .u8 (bits BinOp.or IntKind.i64 ((x : Int) * 16) (y : Int) % 256) = pl.byteV (UInt8.ofNat (x * 16 + y)) := by
  have : ∀ x y : Fin 16, bits BinOp.or IntKind.i64 ((x.val : Int) * 16) (y.val : Int) % 256 = ((UInt8.ofNat (x.val * 16 + y.val)).toNat : Int) := by decide +kernel
  unfold pl.byteV
  rw [← this ⟨x, hx⟩ ⟨y, hy⟩]

theorem ret_vb {v : Value} {a b : Bool} (h : a = b) : Ending.returned (.tuple #[v, .bool a]) = .returned (.tuple #[v, .bool b]) := by rw [h]

set_option maxRecDepth 100000 in
set_option maxHeartbeats 4000000 in
theorem hexes_any (s : ByteArray) (w : World) (hs : s.size ≤ 17592186044416) :
    Calls Try.prog 30 #[.string s] w fun e w' => ∃ v, e = .returned (.tuple #[v, .bool (pl.hexes s.data.toList).2]) ∧ Byts w' w.heap.size v (pl.hexes s.data.toList).1 ∧ Below w.heap.size w w' := by
  have hl : s.data.toList.length = s.size := by simp
  obtain ⟨R, hR⟩ : ∃ R, pl.prs s.data.toList = R := ⟨_, rfl⟩
  have e0 : pl.hexes s.data.toList = (R.getD [], R.isSome && s.size % 2 == 0) := by unfold pl.hexes; rw [hR, hl]
  rw [e0]
  have HR := Lib.hid hR
  clear hR e0 hl
  go_enter Try.func30, Try.ntmps30
  go_wp2_with fail
  go_loopw [4, 5] (fun v i wr => ∃ (k : Nat) (acc : List UInt8), k ≤ s.size + 1 ∧ i = .int .i64 k ∧ Hid (acc.length ≤ k) ∧ Byts wr w.heap.size v acc ∧ Below w.heap.size w wr ∧ Hid (R = (pl.prs (s.data.toList.drop k)).map (acc ++ ·))) (fun _ i _ => s.size + 2 - (intOf i).toNat)
  case atStart => exact ⟨0, [], by omega, rfl, Lib.hid (Nat.zero_le _), Byts.nil _ _, Below.refl _ _, Lib.hid (by rw [← HR.out]; simp)⟩
  case round =>
    obtain ⟨k, acc, hk, rfl, HA, hown, hbel, HG⟩ := hrel
    by_cases hlt : k + 1 < s.size
    · obtain ⟨a, ha⟩ : ∃ a, s[k] = a := ⟨_, rfl⟩
      obtain ⟨b, hb⟩ : ∃ b, s[k + 1] = b := ⟨_, rfl⟩
      have ha' : s.data.toList[k]? = some a := by rw [← ha]; exact List.getElem?_eq_getElem (by simp; omega)
      have hb' : s.data.toList[k + 1]? = some b := by rw [← hb]; exact List.getElem?_eq_getElem (by simp; omega)
      have HGA := Lib.hid ha'
      have HGB := Lib.hid hb'
      have hac := HA.out
      clear ha' hb'
      have hD : ∀ (c : UInt8) W, Calls Try.prog 38 #[.int .u8 c.toNat] W fun e w' => e = .returned (.tuple #[.int .i64 ((pl.hexv c).getD 0 : Nat), .bool (pl.hexv c).isSome]) ∧ W = w' := fun c W => dig_sp c W
      have h1 := hD a
      have h2 := hD b
      clear hD
      rcases hpa : pl.hexv a with _ | x
      · have hu : pl.pair a b = none := by unfold pl.pair; rw [hpa]
        rw [hpa] at h1
        have hRn := pl.prs_fail s.data.toList k a b acc R HG.out HGA.out HGB.out hu
        obtain ⟨p, q, hq⟩ : ∃ (p : Nat) (q : Bool), (((pl.hexv b).getD 0 : Nat) = p) ∧ (pl.hexv b).isSome = q := ⟨_, _, rfl, rfl⟩
        rw [hq.1, hq.2] at h2
        have H1 := Lib.hid h1
        have H2 := Lib.hid h2
        have HN := Lib.hid hRn
        clear h1 h2 hu hpa hRn hq
        rcases q with _ | _
        all_goals
          go_wp2_with (first | (go_at_call 38; ((with_reducible refine (H1.out _).mono ?_); rintro e w' ⟨rfl, rfl⟩)) | (go_at_call 38; ((with_reducible refine (H2.out _).mono ?_); rintro e w' ⟨rfl, rfl⟩)))
          go_ret2
          rw [HN.out]
          exact ⟨_, rfl, Byts.nil _ _, hbel⟩
      · rcases hpb : pl.hexv b with _ | y
        · have hu : pl.pair a b = none := by unfold pl.pair; rw [hpa, hpb]
          rw [hpa] at h1
          rw [hpb] at h2
          have hRn := pl.prs_fail s.data.toList k a b acc R HG.out HGA.out HGB.out hu
          have H1 := Lib.hid h1
          have H2 := Lib.hid h2
          have HN := Lib.hid hRn
          clear h1 h2 hu hpa hpb hRn
          go_wp2_with (first | (go_at_call 38; ((with_reducible refine (H1.out _).mono ?_); rintro e w' ⟨rfl, rfl⟩)) | (go_at_call 38; ((with_reducible refine (H2.out _).mono ?_); rintro e w' ⟨rfl, rfl⟩)))
          go_ret2
          rw [HN.out]
          exact ⟨_, rfl, Byts.nil _ _, hbel⟩
        · obtain ⟨u, hu⟩ : ∃ u, pl.pair a b = some u := ⟨_, pl.pair_val a b x y hpa hpb⟩
          have huv : UInt8.ofNat (x * 16 + y) = u := by have := pl.pair_val a b x y hpa hpb; rw [hu] at this; injection this with this; exact this.symm
          have hx := pl.hexv_lt a x hpa
          have hy := pl.hexv_lt b y hpb
          rw [hpa] at h1
          rw [hpb] at h2
          have hRs := pl.prs_step s.data.toList k a b u acc R HG.out HGA.out HGB.out hu
          have h1' : ∀ W, Calls Try.prog 38 #[.int .u8 a.toNat] W fun e w' => e = .returned (.tuple #[.int .i64 (x : Int), .bool true]) ∧ W = w' := h1
          have h2' : ∀ W, Calls Try.prog 38 #[.int .u8 b.toNat] W fun e w' => e = .returned (.tuple #[.int .i64 (y : Int), .bool true]) ∧ W = w' := h2
          have H1 := Lib.hid h1'
          have H2 := Lib.hid h2'
          have HS := Lib.hid hRs
          have HV := Lib.hid huv
          clear huv h1 h2 h1' h2' hu hpa hpb hRs
          go_wp2_with (first | (go_at_call 38; ((with_reducible refine (H1.out _).mono ?_); rintro e w' ⟨rfl, rfl⟩)) | (go_at_call 38; ((with_reducible refine (H2.out _).mono ?_); rintro e w' ⟨rfl, rfl⟩)) | (at_builtin; refine app_byte (w := w) u 33 Try.underlying33 rfl _ _ rfl rfl w.heap.size hown rfl (by rw [← HV.out]; exact or_val x y hx hy) (by omega) hbel (Nat.le_refl _) ?_))
          intro v1 w2 hown1 hbel1
          clear hown hbel
          go_wp2_with fail
          go_roundw
          case rel => exact ⟨k + 2, _, by omega, by go_num, Lib.hid (by rw [List.length_append, List.length_singleton]; omega), hown1, hbel1, HS⟩
          case measure => simp [intOf]; omega
    · have hd := pl.prs_end s.data.toList k acc R HG.out (by simp; omega)
      have HD := Lib.hid hd
      have hm : ((s.size : Int) % 2 == 0) = (s.size % 2 == 0) := by
        rw [Bool.eq_iff_iff, beq_iff_eq, beq_iff_eq]; omega
      have HM := Lib.hid hm
      clear hd hm
      go_wp2_with fail
      go_ret2
      rw [HD.out]
      exact ⟨_, ret_vb HM.out, hown, hbel⟩

end Go.Proofs.Ytabeklpllphiaaa
