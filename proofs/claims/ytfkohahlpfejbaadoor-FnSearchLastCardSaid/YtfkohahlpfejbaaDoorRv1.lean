/-
  WALK: spec.Option.text.
-/
import Derived.Test.YtfkohahlpfejbaaDoorNR1
import Derived.Deep.QuietTactic
import Derived.BigQuiet
import Derived.BigRegion
namespace Go.Proofs.YtfkohahlpfejbaaDoor
open Go.RowKit

abbrev Opt := Int × Int
def pl.optNm : Nat → List UInt8
  | 0 => [110, 100, 111, 116, 115]
  | 1 => [116, 105, 109, 101, 111, 117, 116]
  | 2 => [97, 116, 116, 101, 109, 112, 116, 115]
  | 3 => [114, 111, 116, 97, 116, 101]
  | 4 => [115, 105, 110, 103, 108, 101, 45, 114, 101, 113, 117, 101, 115, 116]
  | 5 => [117, 115, 101, 45, 118, 99]
  | 6 => [116, 114, 117, 115, 116, 45, 97, 100]
  | 7 => [110, 111, 45, 114, 101, 108, 111, 97, 100]
  | _ => [101, 100, 110, 115, 48]
def pl.optLo : Nat → Int
  | 0 => 0
  | _ => 1
def pl.optHi : Nat → Int
  | 0 => 15
  | 1 => 30
  | _ => 5
def pl.optOk (o : Opt) : Bool := decide (0 ≤ o.1) && decide (o.1 < 9) && (decide (2 < o.1) || (decide (pl.optLo o.1.toNat ≤ o.2) && decide (o.2 ≤ pl.optHi o.1.toNat)))
def pl.optTx (o : Opt) : List UInt8 := if 2 < o.1 then pl.optNm o.1.toNat else pl.optNm o.1.toNat ++ ([58] ++ pl.num 10 o.2.toNat)

theorem pl.optOk_low (k : Int) (n : Int) (h : k < 0) : pl.optOk (k, n) = false := by unfold pl.optOk; rw [decide_eq_false (by show ¬ (0 ≤ k); omega)]; rfl
theorem pl.optOk_big (k : Int) (n : Int) (h : 9 ≤ k) : pl.optOk (k, n) = false := by unfold pl.optOk; rw [decide_eq_false (p := (k, n).1 < 9) (by show ¬ (k < 9); omega)]; simp
theorem pl.optOk_flag (k : Int) (n : Int) (h : 2 < k) (h2 : k < 9) : pl.optOk (k, n) = true := by unfold pl.optOk; rw [decide_eq_true (p := 2 < (k, n).1) h, decide_eq_true (p := (k, n).1 < 9) h2, decide_eq_true (p := 0 ≤ (k, n).1) (by show 0 ≤ k; omega)]; rfl
theorem pl.optTx_flag (k : Int) (n : Int) (h : 2 < k) : pl.optTx (k, n) = pl.optNm k.toNat := by unfold pl.optTx; rw [if_pos (by show 2 < k; exact h)]

/-- an option without a number -/
def OptRes (o : Opt) (q : Bool) (w : World) (e : Ending) (w' : World) : Prop := ∃ T, e = .returned (.tuple #[.string T, .bool q]) ∧ Hid (q = true → T = ⟨(pl.optTx o).toArray⟩) ∧ Hid (Below w.heap.size w w')

set_option maxRecDepth 100000 in
set_option maxHeartbeats 4000000 in
theorem opt_out (k n : Int) (w : World) (hk : k < 0 ∨ 9 ≤ k) :
    Calls Tryd.prog 59 #[.agg #[.int .i64 k, .int .i64 n]] w (OptRes (k, n) false w) := by
  rcases hk with hk | hk
  · go_enter Tryd.func59, Tryd.ntmps59
    go_wp2_with fail
    go_ret2
    exact ⟨_, rfl, Lib.hid (fun h => by cases h), Lib.hid (((Below.refl _ _).alloc (Nat.le_refl _) _).alloc (by simp) _)⟩
  · have hk0 : ¬ (k < 0) := by omega
    go_enter Tryd.func59, Tryd.ntmps59
    go_wp2_with fail
    go_ret2
    exact ⟨_, rfl, Lib.hid (fun h => by cases h), Lib.hid (((Below.refl _ _).alloc (Nat.le_refl _) _).alloc (by simp) _)⟩

set_option maxRecDepth 100000 in
set_option maxHeartbeats 4000000 in
theorem opt_flag (k : Nat) (n : Int) (w : World) (h : 2 < k) (h2 : k < 9) :
    Calls Tryd.prog 59 #[.agg #[.int .i64 (k : Int), .int .i64 n]] w (OptRes ((k : Int), n) true w) := by
  unfold OptRes
  rw [pl.optTx_flag k n (by omega), show ((k : Int)).toNat = k from rfl]
  match k, h, h2 with
  | 3, _, _ | 4, _, _ | 5, _, _ | 6, _, _ | 7, _, _ | 8, _, _ =>
    go_enter Tryd.func59, Tryd.ntmps59
    go_wp2_with fail
    go_ret2
    exact ⟨_, rfl, Lib.hid (fun _ => rfl), Lib.hid (((Below.refl _ _).alloc (Nat.le_refl _) _).alloc (by simp) _)⟩

theorem pl.numF_len (b : Nat) : ∀ (f n : Nat), (pl.numF f b n).length ≤ f
  | 0, _ => Nat.le_refl _
  | f + 1, n => by
    show ((if n / b = 0 then [] else pl.numF f b (n / b)) ++ [pl.hx (n % b)]).length ≤ _
    rw [List.length_append]
    have := pl.numF_len b f (n / b)
    split <;> simp <;> omega
theorem pl.num_len10 (n : Nat) : (pl.num 10 n).length ≤ 64 := pl.numF_len 10 64 n

/-- the world gets a name -/
theorem wp_name {P : Program} {c : Code} {Q : Exit → Act → World → Prop} {a : Act} {w0 : World} (h : ∀ W, W = w0 → Code.wp P c Q a W) : Code.wp P c Q a w0 := h w0 rfl

theorem pl.optOk_num (k n : Int) (h0 : 0 ≤ k) (h2 : k ≤ 2) : pl.optOk (k, n) = (decide (pl.optLo k.toNat ≤ n) && decide (n ≤ pl.optHi k.toNat)) := by
  unfold pl.optOk
  rw [decide_eq_true (p := 0 ≤ (k, n).1) h0, decide_eq_true (p := (k, n).1 < 9) (by show k < 9; omega), decide_eq_false (p := 2 < (k, n).1) (by show ¬ (2 < k); omega)]
  simp
theorem pl.optTx_num (k n : Int) (h2 : k ≤ 2) : pl.optTx (k, n) = pl.optNm k.toNat ++ ([58] ++ pl.num 10 n.toNat) := by unfold pl.optTx; rw [if_neg (by show ¬ (2 < k); omega)]

def optNames : Array Value := #[.string ⟨#[110, 100, 111, 116, 115]⟩, .string ⟨#[116, 105, 109, 101, 111, 117, 116]⟩, .string ⟨#[97, 116, 116, 101, 109, 112, 116, 115]⟩, .string ⟨#[114, 111, 116, 97, 116, 101]⟩, .string ⟨#[115, 105, 110, 103, 108, 101, 45, 114, 101, 113, 117, 101, 115, 116]⟩, .string ⟨#[117, 115, 101, 45, 118, 99]⟩, .string ⟨#[116, 114, 117, 115, 116, 45, 97, 100]⟩, .string ⟨#[110, 111, 45, 114, 101, 108, 111, 97, 100]⟩, .string ⟨#[101, 100, 110, 115, 48]⟩]

set_option maxRecDepth 100000 in
set_option maxHeartbeats 8000000 in
theorem opt_num0 (n : Int) (q : Bool) (w : World) (hq : pl.optOk (0, n) = q) (hn : n < 9223372036854775808) :
    Calls Tryd.prog 59 #[.agg #[.int .i64 0, .int .i64 n]] w (OptRes (0, n) q w) := by
  rw [pl.optOk_num 0 n (by decide) (by decide)] at hq
  have hq' : (decide (0 ≤ n) && decide (n ≤ 15)) = q := hq
  have htx := pl.optTx_num 0 n (by decide)
  obtain ⟨W1, hW1⟩ : ∃ W1, (w.alloc (.cells #[.int .i64 0, .int .i64 n] 93)).alloc (.cells optNames 9) = W1 := ⟨_, rfl⟩
  have hB1 : Blk W1 w.heap.size #[.int .i64 0, .int .i64 n] 93 := by rw [← hW1]; exact (Blk.new w _ _).alloc _
  have hB2 : Blk W1 (w.heap.size + 1) optNames 9 := by
    rw [← hW1]
    have h := Blk.new (w.alloc (.cells #[.int .i64 0, .int .i64 n] 93)) optNames 9
    rw [show (w.alloc (.cells #[.int .i64 0, .int .i64 n] 93)).heap.size = w.heap.size + 1 by simp] at h
    exact h
  have hb1 : Below w.heap.size w W1 := by rw [← hW1]; exact ((Below.refl _ _).alloc (Nat.le_refl _) _).alloc (by simp) _
  have c10 : W1.cell? ⟨w.heap.size, 0, none⟩ = some (.int .i64 0) := hB1.cell 0
  have c1d : W1.drew.cell? ⟨w.heap.size, 0, none⟩ = some (.int .i64 0) := (hB1.drewN 1).cell 0
  have c11 : ∀ o, (W1.alloc o).cell? ⟨w.heap.size, 0, none⟩ = some (.int .i64 0) := fun o => (hB1.alloc o).cell 0
  have c12 : ∀ o, (W1.drew.alloc o).cell? ⟨w.heap.size, 0, none⟩ = some (.int .i64 0) := fun o => (Blk.alloc (hB1.drewN 1) o).cell 0
  have c13 : ∀ o o2, ((W1.alloc o).alloc o2).cell? ⟨w.heap.size, 0, none⟩ = some (.int .i64 0) := fun o o2 => ((hB1.alloc o).alloc o2).cell 0
  have c14 : ∀ o o2, ((W1.drew.alloc o).alloc o2).cell? ⟨w.heap.size, 0, none⟩ = some (.int .i64 0) := fun o o2 => (Blk.alloc (Blk.alloc (hB1.drewN 1) o) o2).cell 0
  have HW1 := Lib.hid hW1
  have HB1 := Lib.hid hB1
  have HB2 := Lib.hid hB2
  have HBL := Lib.hid hb1
  have HTX := Lib.hid htx
  clear hq hW1 hB1 hB2 hb1 htx
  obtain ⟨M, x, hM, hx, hmx⟩ : ∃ (M : Nat) (x : Int), M < 9223372036854775808 ∧ x = (M : Int) ∧ ((n < 0 ∧ x = 0) ∨ (0 ≤ n ∧ n = x)) := by
    by_cases h : n < 0
    · exact ⟨0, 0, by omega, rfl, .inl ⟨h, rfl⟩⟩
    · exact ⟨n.toNat, n, by omega, by omega, .inr ⟨by omega, rfl⟩⟩
  have hnum := fun W => num_10 M W hM
  obtain ⟨NB, hNB⟩ : ∃ NB : ByteArray, (⟨(pl.num 10 M).toArray⟩ : ByteArray) = NB := ⟨_, rfl⟩
  rw [hNB, ← hx] at hnum
  have hNBs : NB.size ≤ 64 := by rw [← hNB]; exact pl.num_len10 M
  have HNUM := Lib.hid hnum
  have HNB := Lib.hid hNB
  have HX := Lib.hid hx
  clear hnum hNB hx hM hn
  obtain ⟨NM, hNM⟩ : ∃ NM : ByteArray, (⟨(pl.optNm 0).toArray⟩ : ByteArray) = NM := ⟨_, rfl⟩
  have hNMs : NM.size ≤ 20 := by rw [← hNM]; decide
  have hHM : Hid (optNames[0]? = some (.string NM)) := Lib.hid (by rw [← hNM]; rfl)
  have HNM := Lib.hid hNM
  have HMX := Lib.hid hmx
  have HQ := Lib.hid hq'
  clear hNM hmx hq'
  go_enter Tryd.func59, Tryd.ntmps59
  go_wp2_with fail
  refine wp_name (fun W hW => ?_)
  have hWW : W = W1 := by rw [hW]; exact HW1.out
  clear hW
  subst hWW
  go_region
  all_goals
    go_wp2_with fail
    refine wp_name (fun V hV => ?_)
    have hV1 : Blk V w.heap.size #[.int .i64 0, .int .i64 n] 93 := by rw [hV]; first | exact (HB1.out.alloc _).alloc _ | exact Blk.alloc (Blk.alloc (HB1.out.drewN 1) _) _
    have hV2 : Blk V (w.heap.size + 1) optNames 9 := by rw [hV]; first | exact (HB2.out.alloc _).alloc _ | exact Blk.alloc (Blk.alloc (HB2.out.drewN 1) _) _
    have hVb : Below w.heap.size w V := by rw [hV]; first | exact (HBL.out.alloc HBL.out.size _).alloc (by have := HBL.out.size; simp; omega) _ | exact Below.alloc (Below.alloc HBL.out.drew HBL.out.size _) (by have := HBL.out.size; simp; omega) _
    have v0 : V.cell? ⟨w.heap.size, 0, none⟩ = some (.int .i64 0) := hV1.cell 0
    have v1 : V.cell? ⟨w.heap.size, 1, none⟩ = some (.int .i64 n) := hV1.cell 1
    have v2 : V.cell? ⟨w.heap.size + 1, 0, none⟩ = some (.string NM) := (hV2.cell 0).trans hHM.out
    have HVB := Lib.hid hVb
    clear hV hV1 hV2 hVb c10 c1d c11 c12 c13 c14
    rcases HMX.out with ⟨h0, hx0⟩ | ⟨h0, hx0⟩
    · have hd : decide (0 ≤ n) = false := decide_eq_false (by omega)
      have hqf : q = false := by rw [← HQ.out, hd]; rfl
      have HQF := Lib.hid hqf
      rw [hx0] at HNUM
      clear hqf hx0
      go_quiet ((go_at_call 55; exact Calls.quiet_of (HNUM.out _)))
      go_wp2_with fail
      go_ret2
      exact ⟨_, by rw [HQF.out]; rfl, Lib.hid (fun h => by rw [HQF.out] at h; cases h), Lib.hid (below_drewN HVB.out _)⟩
    · rw [← hx0] at HNUM
      have hneg : ¬ (n < 0) := by omega
      have HX2 := Lib.hid (hx0.trans HX.out)
      clear hx0
      rcases h1 : decide (0 ≤ n) with _ | _
      · exact absurd h0 (of_decide_eq_false h1)
      · have h1' : (0 : Int) ≤ n := of_decide_eq_true h1
        rcases h2 : decide (n ≤ 15) with _ | _
        · have hqf : q = false := by rw [← HQ.out, h1, h2]; rfl
          have HQF := Lib.hid hqf
          have HQD : Hid (decide (n ≤ 15) = q) := Lib.hid (by rw [h2, hqf])
          clear hqf
          go_quiet ((go_at_call 55; exact Calls.quiet_of (HNUM.out _)))
          go_wp2_with fail
          go_ret2
          exact ⟨_, by first | (rw [← HQD.out]; rfl) | (rw [HQF.out]; rfl), Lib.hid (fun h => by rw [HQF.out] at h; cases h), Lib.hid (below_drewN HVB.out _)⟩
        · have hqf : q = true := by rw [← HQ.out, h1, h2]; rfl
          have HQF := Lib.hid hqf
          have HQD : Hid (decide (n ≤ 15) = q) := Lib.hid (by rw [h2, hqf])
          have h2' : n ≤ (15 : Int) := of_decide_eq_true h2
          clear hqf
          go_quiet ((go_at_call 55; exact Calls.quiet_of (HNUM.out _)))
          go_wp2_with fail
          go_ret2
          refine ⟨_, by first | (rw [← HQD.out]; rfl) | (rw [HQF.out]; rfl), Lib.hid (fun _ => ?_), Lib.hid (below_drewN HVB.out _)⟩
          apply pl.ba_ext
          rw [HTX.out, show n.toNat = M by have := HX2.out; omega]
          simp [ByteArray.data_append, ← HNM.out, ← HNB.out]

set_option maxRecDepth 100000 in
set_option maxHeartbeats 8000000 in
theorem opt_num1 (n : Int) (q : Bool) (w : World) (hq : pl.optOk (1, n) = q) (hn : n < 9223372036854775808) :
    Calls Tryd.prog 59 #[.agg #[.int .i64 1, .int .i64 n]] w (OptRes (1, n) q w) := by
  rw [pl.optOk_num 1 n (by decide) (by decide)] at hq
  have hq' : (decide (1 ≤ n) && decide (n ≤ 30)) = q := hq
  have htx := pl.optTx_num 1 n (by decide)
  obtain ⟨W1, hW1⟩ : ∃ W1, (w.alloc (.cells #[.int .i64 1, .int .i64 n] 93)).alloc (.cells optNames 9) = W1 := ⟨_, rfl⟩
  have hB1 : Blk W1 w.heap.size #[.int .i64 1, .int .i64 n] 93 := by rw [← hW1]; exact (Blk.new w _ _).alloc _
  have hB2 : Blk W1 (w.heap.size + 1) optNames 9 := by
    rw [← hW1]
    have h := Blk.new (w.alloc (.cells #[.int .i64 1, .int .i64 n] 93)) optNames 9
    rw [show (w.alloc (.cells #[.int .i64 1, .int .i64 n] 93)).heap.size = w.heap.size + 1 by simp] at h
    exact h
  have hb1 : Below w.heap.size w W1 := by rw [← hW1]; exact ((Below.refl _ _).alloc (Nat.le_refl _) _).alloc (by simp) _
  have c10 : W1.cell? ⟨w.heap.size, 0, none⟩ = some (.int .i64 1) := hB1.cell 0
  have c1d : W1.drew.cell? ⟨w.heap.size, 0, none⟩ = some (.int .i64 1) := (hB1.drewN 1).cell 0
  have c11 : ∀ o, (W1.alloc o).cell? ⟨w.heap.size, 0, none⟩ = some (.int .i64 1) := fun o => (hB1.alloc o).cell 0
  have c12 : ∀ o, (W1.drew.alloc o).cell? ⟨w.heap.size, 0, none⟩ = some (.int .i64 1) := fun o => (Blk.alloc (hB1.drewN 1) o).cell 0
  have c13 : ∀ o o2, ((W1.alloc o).alloc o2).cell? ⟨w.heap.size, 0, none⟩ = some (.int .i64 1) := fun o o2 => ((hB1.alloc o).alloc o2).cell 0
  have c14 : ∀ o o2, ((W1.drew.alloc o).alloc o2).cell? ⟨w.heap.size, 0, none⟩ = some (.int .i64 1) := fun o o2 => (Blk.alloc (Blk.alloc (hB1.drewN 1) o) o2).cell 0
  have HW1 := Lib.hid hW1
  have HB1 := Lib.hid hB1
  have HB2 := Lib.hid hB2
  have HBL := Lib.hid hb1
  have HTX := Lib.hid htx
  clear hq hW1 hB1 hB2 hb1 htx
  obtain ⟨M, x, hM, hx, hmx⟩ : ∃ (M : Nat) (x : Int), M < 9223372036854775808 ∧ x = (M : Int) ∧ ((n < 0 ∧ x = 0) ∨ (0 ≤ n ∧ n = x)) := by
    by_cases h : n < 0
    · exact ⟨0, 0, by omega, rfl, .inl ⟨h, rfl⟩⟩
    · exact ⟨n.toNat, n, by omega, by omega, .inr ⟨by omega, rfl⟩⟩
  have hnum := fun W => num_10 M W hM
  obtain ⟨NB, hNB⟩ : ∃ NB : ByteArray, (⟨(pl.num 10 M).toArray⟩ : ByteArray) = NB := ⟨_, rfl⟩
  rw [hNB, ← hx] at hnum
  have hNBs : NB.size ≤ 64 := by rw [← hNB]; exact pl.num_len10 M
  have HNUM := Lib.hid hnum
  have HNB := Lib.hid hNB
  have HX := Lib.hid hx
  clear hnum hNB hx hM hn
  obtain ⟨NM, hNM⟩ : ∃ NM : ByteArray, (⟨(pl.optNm 1).toArray⟩ : ByteArray) = NM := ⟨_, rfl⟩
  have hNMs : NM.size ≤ 20 := by rw [← hNM]; decide
  have hHM : Hid (optNames[1]? = some (.string NM)) := Lib.hid (by rw [← hNM]; rfl)
  have HNM := Lib.hid hNM
  have HMX := Lib.hid hmx
  have HQ := Lib.hid hq'
  clear hNM hmx hq'
  go_enter Tryd.func59, Tryd.ntmps59
  go_wp2_with fail
  refine wp_name (fun W hW => ?_)
  have hWW : W = W1 := by rw [hW]; exact HW1.out
  clear hW
  subst hWW
  go_region
  all_goals
    go_wp2_with fail
    refine wp_name (fun V hV => ?_)
    have hV1 : Blk V w.heap.size #[.int .i64 1, .int .i64 n] 93 := by rw [hV]; first | exact (HB1.out.alloc _).alloc _ | exact Blk.alloc (Blk.alloc (HB1.out.drewN 1) _) _
    have hV2 : Blk V (w.heap.size + 1) optNames 9 := by rw [hV]; first | exact (HB2.out.alloc _).alloc _ | exact Blk.alloc (Blk.alloc (HB2.out.drewN 1) _) _
    have hVb : Below w.heap.size w V := by rw [hV]; first | exact (HBL.out.alloc HBL.out.size _).alloc (by have := HBL.out.size; simp; omega) _ | exact Below.alloc (Below.alloc HBL.out.drew HBL.out.size _) (by have := HBL.out.size; simp; omega) _
    have v0 : V.cell? ⟨w.heap.size, 0, none⟩ = some (.int .i64 1) := hV1.cell 0
    have v1 : V.cell? ⟨w.heap.size, 1, none⟩ = some (.int .i64 n) := hV1.cell 1
    have v2 : V.cell? ⟨w.heap.size + 1, 1, none⟩ = some (.string NM) := (hV2.cell 1).trans hHM.out
    have HVB := Lib.hid hVb
    clear hV hV1 hV2 hVb c10 c1d c11 c12 c13 c14
    rcases HMX.out with ⟨h0, hx0⟩ | ⟨h0, hx0⟩
    · have hd : decide (1 ≤ n) = false := decide_eq_false (by omega)
      have hqf : q = false := by rw [← HQ.out, hd]; rfl
      have HQF := Lib.hid hqf
      rw [hx0] at HNUM
      clear hqf hx0
      go_quiet ((go_at_call 55; exact Calls.quiet_of (HNUM.out _)))
      go_wp2_with fail
      go_ret2
      exact ⟨_, by rw [HQF.out]; rfl, Lib.hid (fun h => by rw [HQF.out] at h; cases h), Lib.hid (below_drewN HVB.out _)⟩
    · rw [← hx0] at HNUM
      have hneg : ¬ (n < 0) := by omega
      have HX2 := Lib.hid (hx0.trans HX.out)
      clear hx0
      rcases h1 : decide (1 ≤ n) with _ | _
      · have hqf : q = false := by rw [← HQ.out, h1]; rfl
        have HQF := Lib.hid hqf
        clear hqf
        go_quiet ((go_at_call 55; exact Calls.quiet_of (HNUM.out _)))
        go_wp2_with fail
        go_ret2
        exact ⟨_, by rw [HQF.out]; rfl, Lib.hid (fun h => by rw [HQF.out] at h; cases h), Lib.hid (below_drewN HVB.out _)⟩
      · have h1' : (1 : Int) ≤ n := of_decide_eq_true h1
        rcases h2 : decide (n ≤ 30) with _ | _
        · have hqf : q = false := by rw [← HQ.out, h1, h2]; rfl
          have HQF := Lib.hid hqf
          have HQD : Hid (decide (n ≤ 30) = q) := Lib.hid (by rw [h2, hqf])
          clear hqf
          go_quiet ((go_at_call 55; exact Calls.quiet_of (HNUM.out _)))
          go_wp2_with fail
          go_ret2
          exact ⟨_, by first | (rw [← HQD.out]; rfl) | (rw [HQF.out]; rfl), Lib.hid (fun h => by rw [HQF.out] at h; cases h), Lib.hid (below_drewN HVB.out _)⟩
        · have hqf : q = true := by rw [← HQ.out, h1, h2]; rfl
          have HQF := Lib.hid hqf
          have HQD : Hid (decide (n ≤ 30) = q) := Lib.hid (by rw [h2, hqf])
          have h2' : n ≤ (30 : Int) := of_decide_eq_true h2
          clear hqf
          go_quiet ((go_at_call 55; exact Calls.quiet_of (HNUM.out _)))
          go_wp2_with fail
          go_ret2
          refine ⟨_, by first | (rw [← HQD.out]; rfl) | (rw [HQF.out]; rfl), Lib.hid (fun _ => ?_), Lib.hid (below_drewN HVB.out _)⟩
          apply pl.ba_ext
          rw [HTX.out, show n.toNat = M by have := HX2.out; omega]
          simp [ByteArray.data_append, ← HNM.out, ← HNB.out]

set_option maxRecDepth 100000 in
set_option maxHeartbeats 8000000 in
theorem opt_num2 (n : Int) (q : Bool) (w : World) (hq : pl.optOk (2, n) = q) (hn : n < 9223372036854775808) :
    Calls Tryd.prog 59 #[.agg #[.int .i64 2, .int .i64 n]] w (OptRes (2, n) q w) := by
  rw [pl.optOk_num 2 n (by decide) (by decide)] at hq
  have hq' : (decide (1 ≤ n) && decide (n ≤ 5)) = q := hq
  have htx := pl.optTx_num 2 n (by decide)
  obtain ⟨W1, hW1⟩ : ∃ W1, (w.alloc (.cells #[.int .i64 2, .int .i64 n] 93)).alloc (.cells optNames 9) = W1 := ⟨_, rfl⟩
  have hB1 : Blk W1 w.heap.size #[.int .i64 2, .int .i64 n] 93 := by rw [← hW1]; exact (Blk.new w _ _).alloc _
  have hB2 : Blk W1 (w.heap.size + 1) optNames 9 := by
    rw [← hW1]
    have h := Blk.new (w.alloc (.cells #[.int .i64 2, .int .i64 n] 93)) optNames 9
    rw [show (w.alloc (.cells #[.int .i64 2, .int .i64 n] 93)).heap.size = w.heap.size + 1 by simp] at h
    exact h
  have hb1 : Below w.heap.size w W1 := by rw [← hW1]; exact ((Below.refl _ _).alloc (Nat.le_refl _) _).alloc (by simp) _
  have c10 : W1.cell? ⟨w.heap.size, 0, none⟩ = some (.int .i64 2) := hB1.cell 0
  have c1d : W1.drew.cell? ⟨w.heap.size, 0, none⟩ = some (.int .i64 2) := (hB1.drewN 1).cell 0
  have c11 : ∀ o, (W1.alloc o).cell? ⟨w.heap.size, 0, none⟩ = some (.int .i64 2) := fun o => (hB1.alloc o).cell 0
  have c12 : ∀ o, (W1.drew.alloc o).cell? ⟨w.heap.size, 0, none⟩ = some (.int .i64 2) := fun o => (Blk.alloc (hB1.drewN 1) o).cell 0
  have c13 : ∀ o o2, ((W1.alloc o).alloc o2).cell? ⟨w.heap.size, 0, none⟩ = some (.int .i64 2) := fun o o2 => ((hB1.alloc o).alloc o2).cell 0
  have c14 : ∀ o o2, ((W1.drew.alloc o).alloc o2).cell? ⟨w.heap.size, 0, none⟩ = some (.int .i64 2) := fun o o2 => (Blk.alloc (Blk.alloc (hB1.drewN 1) o) o2).cell 0
  have HW1 := Lib.hid hW1
  have HB1 := Lib.hid hB1
  have HB2 := Lib.hid hB2
  have HBL := Lib.hid hb1
  have HTX := Lib.hid htx
  clear hq hW1 hB1 hB2 hb1 htx
  obtain ⟨M, x, hM, hx, hmx⟩ : ∃ (M : Nat) (x : Int), M < 9223372036854775808 ∧ x = (M : Int) ∧ ((n < 0 ∧ x = 0) ∨ (0 ≤ n ∧ n = x)) := by
    by_cases h : n < 0
    · exact ⟨0, 0, by omega, rfl, .inl ⟨h, rfl⟩⟩
    · exact ⟨n.toNat, n, by omega, by omega, .inr ⟨by omega, rfl⟩⟩
  have hnum := fun W => num_10 M W hM
  obtain ⟨NB, hNB⟩ : ∃ NB : ByteArray, (⟨(pl.num 10 M).toArray⟩ : ByteArray) = NB := ⟨_, rfl⟩
  rw [hNB, ← hx] at hnum
  have hNBs : NB.size ≤ 64 := by rw [← hNB]; exact pl.num_len10 M
  have HNUM := Lib.hid hnum
  have HNB := Lib.hid hNB
  have HX := Lib.hid hx
  clear hnum hNB hx hM hn
  obtain ⟨NM, hNM⟩ : ∃ NM : ByteArray, (⟨(pl.optNm 2).toArray⟩ : ByteArray) = NM := ⟨_, rfl⟩
  have hNMs : NM.size ≤ 20 := by rw [← hNM]; decide
  have hHM : Hid (optNames[2]? = some (.string NM)) := Lib.hid (by rw [← hNM]; rfl)
  have HNM := Lib.hid hNM
  have HMX := Lib.hid hmx
  have HQ := Lib.hid hq'
  clear hNM hmx hq'
  go_enter Tryd.func59, Tryd.ntmps59
  go_wp2_with fail
  refine wp_name (fun W hW => ?_)
  have hWW : W = W1 := by rw [hW]; exact HW1.out
  clear hW
  subst hWW
  go_region
  all_goals
    go_wp2_with fail
    refine wp_name (fun V hV => ?_)
    have hV1 : Blk V w.heap.size #[.int .i64 2, .int .i64 n] 93 := by rw [hV]; first | exact (HB1.out.alloc _).alloc _ | exact Blk.alloc (Blk.alloc (HB1.out.drewN 1) _) _
    have hV2 : Blk V (w.heap.size + 1) optNames 9 := by rw [hV]; first | exact (HB2.out.alloc _).alloc _ | exact Blk.alloc (Blk.alloc (HB2.out.drewN 1) _) _
    have hVb : Below w.heap.size w V := by rw [hV]; first | exact (HBL.out.alloc HBL.out.size _).alloc (by have := HBL.out.size; simp; omega) _ | exact Below.alloc (Below.alloc HBL.out.drew HBL.out.size _) (by have := HBL.out.size; simp; omega) _
    have v0 : V.cell? ⟨w.heap.size, 0, none⟩ = some (.int .i64 2) := hV1.cell 0
    have v1 : V.cell? ⟨w.heap.size, 1, none⟩ = some (.int .i64 n) := hV1.cell 1
    have v2 : V.cell? ⟨w.heap.size + 1, 2, none⟩ = some (.string NM) := (hV2.cell 2).trans hHM.out
    have HVB := Lib.hid hVb
    clear hV hV1 hV2 hVb c10 c1d c11 c12 c13 c14
    rcases HMX.out with ⟨h0, hx0⟩ | ⟨h0, hx0⟩
    · have hd : decide (1 ≤ n) = false := decide_eq_false (by omega)
      have hqf : q = false := by rw [← HQ.out, hd]; rfl
      have HQF := Lib.hid hqf
      rw [hx0] at HNUM
      clear hqf hx0
      go_quiet ((go_at_call 55; exact Calls.quiet_of (HNUM.out _)))
      go_wp2_with fail
      go_ret2
      exact ⟨_, by rw [HQF.out]; rfl, Lib.hid (fun h => by rw [HQF.out] at h; cases h), Lib.hid (below_drewN HVB.out _)⟩
    · rw [← hx0] at HNUM
      have hneg : ¬ (n < 0) := by omega
      have HX2 := Lib.hid (hx0.trans HX.out)
      clear hx0
      rcases h1 : decide (1 ≤ n) with _ | _
      · have hqf : q = false := by rw [← HQ.out, h1]; rfl
        have HQF := Lib.hid hqf
        clear hqf
        go_quiet ((go_at_call 55; exact Calls.quiet_of (HNUM.out _)))
        go_wp2_with fail
        go_ret2
        exact ⟨_, by rw [HQF.out]; rfl, Lib.hid (fun h => by rw [HQF.out] at h; cases h), Lib.hid (below_drewN HVB.out _)⟩
      · have h1' : (1 : Int) ≤ n := of_decide_eq_true h1
        rcases h2 : decide (n ≤ 5) with _ | _
        · have hqf : q = false := by rw [← HQ.out, h1, h2]; rfl
          have HQF := Lib.hid hqf
          have HQD : Hid (decide (n ≤ 5) = q) := Lib.hid (by rw [h2, hqf])
          clear hqf
          go_quiet ((go_at_call 55; exact Calls.quiet_of (HNUM.out _)))
          go_wp2_with fail
          go_ret2
          exact ⟨_, by first | (rw [← HQD.out]; rfl) | (rw [HQF.out]; rfl), Lib.hid (fun h => by rw [HQF.out] at h; cases h), Lib.hid (below_drewN HVB.out _)⟩
        · have hqf : q = true := by rw [← HQ.out, h1, h2]; rfl
          have HQF := Lib.hid hqf
          have HQD : Hid (decide (n ≤ 5) = q) := Lib.hid (by rw [h2, hqf])
          have h2' : n ≤ (5 : Int) := of_decide_eq_true h2
          clear hqf
          go_quiet ((go_at_call 55; exact Calls.quiet_of (HNUM.out _)))
          go_wp2_with fail
          go_ret2
          refine ⟨_, by first | (rw [← HQD.out]; rfl) | (rw [HQF.out]; rfl), Lib.hid (fun _ => ?_), Lib.hid (below_drewN HVB.out _)⟩
          apply pl.ba_ext
          rw [HTX.out, show n.toNat = M by have := HX2.out; omega]
          simp [ByteArray.data_append, ← HNM.out, ← HNB.out]

end Go.Proofs.YtfkohahlpfejbaaDoor
