/-
  THE WALK of FnNetwork, joined.
-/
import Derived.Test.YtfkohahlpfejbaaDoorNetw4
import Derived.Test.YtfkohahlpfejbaaDoorNetw16
import Derived.Test.YtfkohahlpfejbaaDoorNetwM
namespace Go.Proofs.YtfkohahlpfejbaaDoor
open Go.RowKit

/-- impl.Mask, spelt with the length -/
theorem ipi_len (L : Nat) (b M : List UInt8) (hb : b.length = L) (hM : M.length = L) (hL : L = 4 ∨ L = 16) (W : World) (va vm : Value) (h1 : Reads W va b) (h2 : Reads W vm M) :
    Calls Tryd.prog 34 #[va, vm] W fun e w' => ∃ a c, e = .returned (.slice a L c) ∧ Hid (Reads w' (.slice a L c) (pl.and b M)) ∧ Hid (Below W.heap.size W w') := by
  have h : Calls Tryd.prog 34 #[va, vm] W fun e w' => ∃ v, e = .returned v ∧ Byts w' W.heap.size v (pl.and b M) ∧ Below W.heap.size W w' := by
    rcases hL with rfl | rfl
    · exact ipi_4 va vm b M W h1 h2 hb hM
    · exact ipi_16 va vm b M W h1 h2 hb hM
  refine h.mono fun e w' ⟨v, he, hY, hB⟩ => ?_
  have hR := hY.reads
  obtain ⟨a, c, rfl, _⟩ := hY.reads
  rw [pl.and_len b M (by omega), hb] at hR he
  exact ⟨a, c, he, Lib.hid hR, Lib.hid hB⟩

set_option maxRecDepth 100000 in
set_option maxHeartbeats 4000000 in
theorem net_law (g4 o4 g6 o6 : Nat) (a0 : Option Addr) (len0 cap0 : Nat) (l : List UInt8) (a1 : Int) (w : World) (hl : l.length = len0) (hrd : Reads w (.slice a0 len0 cap0) l) (hI : IpVars w g4 o4 g6 o6) :
    Calls Tryd.prog 8 #[.slice a0 len0 cap0, .int .i64 a1] w fun e w' => e = .returned (.bool true) ∧ Below w.heap.size w w' := by
  by_cases hbig : len0 ≤ 2147483647
  · by_cases h0 : 0 ≤ a1
    · obtain ⟨n, rfl⟩ : ∃ n : Nat, a1 = n := ⟨a1.toNat, by omega⟩
      have hgood : ∀ L, len0 = L → (L = 4 ∨ L = 16) → n ≤ 8 * L → (L = 16 → pl.mapped l = false) → Calls Tryd.prog 8 #[.slice a0 len0 cap0, .int .i64 (n : Int)] w fun e w' => e = .returned (.bool true) ∧ Below w.heap.size w w' := fun L hL hL2 hn hmap => by
        subst hL
        have hb : l.length = 4 ∨ l.length = 16 := by omega
        have hn' : n ≤ 8 * l.length := by omega
        obtain ⟨T, hT⟩ : ∃ T : ByteArray, (⟨(pl.text l).toArray⟩ : ByteArray) = T := ⟨_, rfl⟩
        obtain ⟨D, hD⟩ : ∃ D : ByteArray, (⟨(pl.num 10 n).toArray⟩ : ByteArray) = D := ⟨_, rfl⟩
        have hMl : (pl.mask n len0).length = len0 := pl.mask_len _ _
        have hNl : (pl.and l (pl.mask n len0)).length = len0 := by rw [pl.and_len _ _ (by omega), hl]
        have hb2 : (pl.and l (pl.mask n len0)).length = 4 ∨ (pl.and l (pl.mask n len0)).length = 16 := by omega
        obtain ⟨T2, hT2⟩ : ∃ T2 : ByteArray, (⟨(pl.text (pl.and l (pl.mask n len0))).toArray⟩ : ByteArray) = T2 := ⟨_, rfl⟩
        have hTs : T.size ≤ 1000 := by rw [← hT]; show (pl.text l).length ≤ 1000; have := pl.text_len l hb; omega
        have hT2s : T2.size ≤ 1000 := by rw [← hT2]; show (pl.text _).length ≤ 1000; have := pl.text_len _ hb2; omega
        have hDs : D.size ≤ 1000 := by rw [← hD]; show (pl.num 10 n).length ≤ 1000; have := (pl.num_dec n (by omega)).2.1; omega
        have HT1 : Hid (∀ W, Below w.heap.size w W → Calls Tryd.prog 33 #[.slice a0 len0 cap0] W fun e w' => e = .returned (.string T) ∧ Below W.heap.size W w') := Lib.hid fun W hW => by
          rw [← hT]; exact text_reads _ l w hb hrd W hW
        have HD : Hid (∀ W, Calls Tryd.prog 32 #[.int .i64 (n : Int)] W fun e w' => e = .returned (.string D) ∧ ∃ k, w' = W.drewN k) := Lib.hid fun W => by
          rw [← hD]; exact dig_s n W (by omega)
        have HI1 : Hid (∀ W, Below w.heap.size w W → Calls Tryd.prog 27 #[.string (T ++ (⟨#[47]⟩ ++ D))] W fun e w' => ∃ a1 c1 a2 c2 a3 c3, e = .returned (.tuple #[.slice a1 16 c1, .slice a2 len0 c2, .slice a3 len0 c3, .bool true]) ∧ Hid (Below W.heap.size W w') ∧ Hid (Reads w' (.slice a2 len0 c2) (pl.and l (pl.mask n len0))) ∧ Hid (Reads w' (.slice a3 len0 c3) (pl.mask n len0))) := Lib.hid fun W hW =>
          (ici_text g4 o4 g6 o6 l n len0 T D W (hI.below hW (Nat.le_refl _)) hT hD hb hl hn').mono fun e w' ⟨a1, c1, a2, c2, a3, c3, h1, h2, _, h3, h4⟩ => ⟨a1, c1, a2, c2, a3, c3, h1, h2, h3, h4⟩
        have HT2 : Hid (∀ W v, Reads W v (pl.and l (pl.mask n len0)) → Calls Tryd.prog 33 #[v] W fun e w' => e = .returned (.string T2) ∧ Below W.heap.size W w') := Lib.hid fun W v hv => by
          rw [← hT2]; exact text_reads v _ W hb2 hv W (Below.refl _ _)
        have HI2 : Hid (∀ W, Below w.heap.size w W → Calls Tryd.prog 27 #[.string (T2 ++ (⟨#[47]⟩ ++ D))] W fun e w' => ∃ a1 c1 a2 c2 a3 c3, e = .returned (.tuple #[.slice a1 16 c1, .slice a2 len0 c2, .slice a3 len0 c3, .bool true]) ∧ Hid (Below W.heap.size W w') ∧ Hid (Reads w' (.slice a2 len0 c2) (pl.and l (pl.mask n len0))) ∧ Hid (Reads w' (.slice a3 len0 c3) (pl.mask n len0))) := Lib.hid fun W hW =>
          (ici_text g4 o4 g6 o6 (pl.and l (pl.mask n len0)) n len0 T2 D W (hI.below hW (Nat.le_refl _)) hT2 hD hb2 hNl (by omega)).mono fun e w' ⟨a1, c1, a2, c2, a3, c3, h1, h2, _, h3, h4⟩ => ⟨a1, c1, a2, c2, a3, c3, h1, h2, by rw [pl.and_and] at h3; exact h3, h4⟩
        have HIM : Hid (∀ W va vm, Reads W va l → Reads W vm (pl.mask n len0) → Calls Tryd.prog 34 #[va, vm] W fun e w' => ∃ a c, e = .returned (.slice a len0 c) ∧ Hid (Reads w' (.slice a len0 c) (pl.and l (pl.mask n len0))) ∧ Hid (Below W.heap.size W w')) := Lib.hid fun W va vm h1 h2 => ipi_len len0 l (pl.mask n len0) hl hMl hL2 W va vm h1 h2
        rcases hL2 with rfl | rfl
        · exact netw_4 a0 cap0 n l (pl.mask n 4) (pl.and l (pl.mask n 4)) T D T2 w (by omega) hTs hDs hT2s (Lib.hid hrd) HT1 HD HI1 HT2 HI2 HIM
        · have HM1 : Hid (∀ W a c, Reads W (.slice a 16 c) l → Calls Tryd.prog 31 #[.slice a 16 c] W fun e w' => e = .returned (.bool false) ∧ W = w') := Lib.hid fun W a c h => mp_reads a c l W hl h false (hmap rfl)
          cases hm2 : pl.mapped (pl.and l (pl.mask n 16)) with
          | true => exact netw_M a0 cap0 n l (pl.mask n 16) (pl.and l (pl.mask n 16)) T D T2 w (by omega) hTs hDs hT2s (Lib.hid hrd) HT1 HD HI1 HM1 (Lib.hid fun W a c h => mp_reads a c _ W hNl h true hm2)
          | false => exact netw_16 a0 cap0 n l (pl.mask n 16) (pl.and l (pl.mask n 16)) T D T2 w (by omega) hTs hDs hT2s (Lib.hid hrd) HT1 HD HI1 HT2 HI2 HIM HM1 (Lib.hid fun W a c h => mp_reads a c _ W hNl h false hm2)
      by_cases h4 : len0 = 4
      · by_cases hn : n ≤ 32
        · exact hgood 4 h4 (.inl rfl) (by omega) (fun h => by omega)
        · subst h4
          have hn' : (32 : Int) < n := by omega
          have hn0 : ¬ ((n : Int) < 0) := by omega
          clear hrd hgood
          go_enter Tryd.func8, Tryd.ntmps8
          go_wp2_with (go_at_call 16; refine (works_any _).mono ?_; rintro e w4 ⟨rfl, hb4⟩)
          go_ret
          exact ⟨rfl, hb4⟩
      · by_cases h16 : len0 = 16
        · by_cases hn : n ≤ 128
          · cases hm : pl.mapped l with
            | false => exact hgood 16 h16 (.inr rfl) (by omega) (fun _ => hm)
            | true =>
              subst h16
              have hn0 : ¬ ((n : Int) < 0) := by omega
              have hn1 : ¬ ((128 : Int) < n) := by omega
              have HM1 : Hid (∀ W a c, Reads W (.slice a 16 c) l → Calls Tryd.prog 31 #[.slice a 16 c] W fun e w' => e = .returned (.bool true) ∧ W = w') := Lib.hid fun W a c h => mp_reads a c l W hl h true hm
              have HRD := Lib.hid hrd
              clear hrd hgood hm hn
              go_enter Tryd.func8, Tryd.ntmps8
              go_wp2_with (first
                | (go_at_call 31; refine (HM1.out _ _ _ HRD.out).mono ?_; rintro e w3 ⟨rfl, rfl⟩)
                | (go_at_call 16; refine (works_any _).mono ?_; rintro e w4 ⟨rfl, hb4⟩))
              go_ret
              exact ⟨rfl, hb4⟩
          · subst h16
            have hn' : (128 : Int) < n := by omega
            have hn0 : ¬ ((n : Int) < 0) := by omega
            clear hrd hgood
            go_enter Tryd.func8, Tryd.ntmps8
            go_wp2_with (go_at_call 16; refine (works_any _).mono ?_; rintro e w4 ⟨rfl, hb4⟩)
            go_ret
            exact ⟨rfl, hb4⟩
        · have t1 : ((len0 : Int) != 4) = true := by simp; omega
          have t2 : ((len0 : Int) != 16) = true := by simp; omega
          have H4 := Lib.hid h4
          have H16 := Lib.hid h16
          clear hrd h4 h16 hgood
          go_enter Tryd.func8, Tryd.ntmps8
          go_wp2_with (go_at_call 16; refine (works_any _).mono ?_; rintro e w4 ⟨rfl, hb4⟩)
          go_ret
          exact ⟨rfl, hb4⟩
    · have hneg : a1 < 0 := by omega
      clear hrd
      go_enter Tryd.func8, Tryd.ntmps8
      go_wp2_with (go_at_call 16; refine (works_any _).mono ?_; rintro e w4 ⟨rfl, hb4⟩)
      all_goals go_ret
      all_goals exact ⟨rfl, hb4⟩
  · go_enter Tryd.func8, Tryd.ntmps8
    go_wp2_with fail
    go_ret
    exact ⟨rfl, Below.refl _ _⟩

theorem walk_FnNetwork (a0 : Option Addr) (len0 cap0 : Nat) (zs : List Int) (a1 : Int) (W : World) (hr : IsRow .u8 W a0 len0 cap0 zs) (_ : (Lit.int .i64 a1).wf = true) (hL : laidMetH Tryd.prog Rows.fnNetworkRow.laid W) :
    Calls Tryd.prog 8 #[.slice a0 len0 cap0, .int .i64 a1] W fun e w' => e = .returned (.bool true) ∧ Below W.heap.size W w' := by
  rw [MakeChecks.laidMetH_plain _ _ _ (by kernel_rfl)] at hL
  obtain ⟨g4, o4, g6, o6, hI⟩ := ip_of_laid hL
  obtain ⟨l, hl, hv⟩ := Reads.of_row hr
  exact net_law g4 o4 g6 o6 a0 len0 cap0 l a1 W hl hv hI

end Go.Proofs.YtfkohahlpfejbaaDoor
