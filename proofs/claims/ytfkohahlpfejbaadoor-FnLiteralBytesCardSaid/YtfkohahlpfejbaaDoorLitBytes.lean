/-
  THE WALK of FnLiteralBytes.
-/
import Derived.Test.YtfkohahlpfejbaaDoorLitLaw
namespace Go.Proofs.YtfkohahlpfejbaaDoor
open Go.RowKit

theorem pl.num16_no37 (n : Nat) (h : n < 65536) : (37 : UInt8) ∉ pl.num 16 n := by
  intro hm
  have h1 := (pl.okG_num n h).1
  rw [List.all_eq_true] at h1
  have := h1 37 hm
  revert this; decide
theorem pl.num10_no37 (x : UInt8) : (37 : UInt8) ∉ pl.num 10 x.toNat := by
  intro hm
  have h1 := (pl.oct_num x).2.1
  rw [List.all_eq_true] at h1
  have := h1 37 hm
  revert this; decide
theorem pl.jn_no37 (g : List Nat) (hs : pl.small g) : (37 : UInt8) ∉ pl.jn g := by
  induction g with
  | nil => simp [pl.jn]
  | cons a g ih =>
    cases g with
    | nil => exact pl.num16_no37 a (hs a (by simp))
    | cons b r =>
      have h1 := pl.num16_no37 a (hs a (by simp))
      have h2 := ih (fun y hy => hs y (by simp at hy ⊢; exact .inr hy))
      rw [pl.jn]
      intro hm
      rcases List.mem_append.1 hm with hm | hm
      · exact h1 hm
      · rcases List.mem_cons.1 hm with hm | hm
        · revert hm; decide
        · exact h2 hm
theorem pl.dots_no37 (b : List UInt8) : (37 : UInt8) ∉ pl.dots b := by
  unfold pl.dots
  split
  · rename_i x y z u
    have h1 := pl.num10_no37 x
    have h2 := pl.num10_no37 y
    have h3 := pl.num10_no37 z
    have h4 := pl.num10_no37 u
    simp only [List.mem_append, List.mem_cons, not_or]
    exact ⟨h1, by decide, h2, by decide, h3, by decide, h4⟩
  · simp
theorem pl.text_no37 (b : List UInt8) (hb : b.length = 4 ∨ b.length = 16) : (37 : UInt8) ∉ pl.text b := by
  unfold pl.text
  split
  · exact pl.dots_no37 b
  · split
    · intro hm
      rcases List.mem_append.1 hm with hm | hm
      · revert hm; decide
      · exact pl.dots_no37 _ hm
    · have hs : pl.small (pl.gs b) := pl.gs_lt 16 b (by omega)
      unfold pl.text6 pl.tx
      split
      · exact pl.jn_no37 _ (fun x hx => hs x (List.mem_of_mem_take hx))
      · intro hm
        rcases List.mem_append.1 hm with hm | hm
        · rcases List.mem_append.1 hm with hm | hm
          · exact pl.jn_no37 _ (fun x hx => hs x (List.mem_of_mem_take hx)) hm
          · revert hm; decide
        · exact pl.jn_no37 _ (pl.take_small _ hs _ _) hm
theorem pl.text_len (b : List UInt8) (hb : b.length = 4 ∨ b.length = 16) : (pl.text b).length ≤ 100 := by
  have hd : ∀ c : List UInt8, (pl.dots c).length ≤ 15 := fun c => by
    unfold pl.dots
    split
    · rename_i x y z u
      have n0 := (pl.oct_num x).2.2.2
      have n1 := (pl.oct_num y).2.2.2
      have n2 := (pl.oct_num z).2.2.2
      have n3 := (pl.oct_num u).2.2.2
      simp only [List.length_append, List.length_cons]; omega
    · simp
  unfold pl.text
  split
  · have := hd b; omega
  · split
    · have := hd (b.drop 12); simp only [List.length_append, List.length_cons, List.length_nil]; omega
    · exact pl.tx_len _ (pl.gs_lt 16 b (by omega)) (pl.gs_len 8 b (by omega)) _ _ _

/-- Text of bytes that came in -/
theorem text_reads (v : Value) (b : List UInt8) (w : World) (hb : b.length = 4 ∨ b.length = 16) (hv : Reads w v b) (w' : World) (hw : Below w.heap.size w w') :
    Calls Tryd.prog 33 #[v] w' fun e w2 => e = .returned (.string ⟨(pl.text b).toArray⟩) ∧ Below w'.heap.size w' w2 := by
  obtain ⟨a, cap, rfl, h1, _, _, h3⟩ := hv
  obtain ⟨g, o, ha, hg, _⟩ := h3 0 _ (List.getElem?_eq_getElem (by omega : 0 < b.length))
  subst ha
  have hc : InBlk w' g o b := fun k x hx => by
    obtain ⟨g', o', ha, hg', hc⟩ := h3 k x hx
    injection ha with ha
    injection ha with e1 e2
    subst e1 e2
    rw [hw.cell (p := ⟨g, o + k, none⟩) hg]
    exact hc
  have hgl' := Nat.lt_of_lt_of_le hg hw.size
  rcases hb with hb | hb
  · obtain ⟨x, y, z, u, rfl⟩ : ∃ x y z u, b = [x, y, z, u] := by
      match b, hb with
      | [x, y, z, u], _ => exact ⟨x, y, z, u, rfl⟩
    refine (text4_sp x y z u g o cap w' hc).mono fun e w2 ⟨he, k, hk⟩ => ⟨he, ?_⟩
    rw [hk]; exact below_drewN (Below.refl _ _) _
  · have := text16_sp b hb g o cap w' hc hgl' (by omega)
    rw [hb]
    exact this

set_option maxRecDepth 100000 in
set_option maxHeartbeats 8000000 in
theorem litb_law (g4 o4 g6 o6 : Nat) (a : Option Addr) (cap : Nat) (l : List UInt8) (w : World) (hv : Reads w (.slice a l.length cap) l) (hI : IpVars w g4 o4 g6 o6) :
    Calls Tryd.prog 10 #[.slice a l.length cap] w fun e w' => e = .returned (.bool true) ∧ Below w.heap.size w w' := by
  by_cases hs : 2147483647 < l.length
  · clear hv hI
    go_enter Tryd.func10, Tryd.ntmps10
    go_wp2_with fail
    go_ret
    exact ⟨rfl, Below.refl _ _⟩
  · have HWK := Lib.hid works_any
    by_cases hl : l.length = 4 ∨ l.length = 16
    · have htx := fun W => text_reads _ l w hl hv W
      have hlit : ∀ W, Below w.heap.size w W → Calls Tryd.prog 36 #[.string ⟨(pl.text l).toArray⟩] W fun e w' => e = .returned (.string ⟨(pl.text l).toArray⟩) ∧ Below W.heap.size W w' := fun W hb => by
        have h := ilit_sp g4 o4 g6 o6 ⟨(pl.text l).toArray⟩ W (by have := pl.text_len l hl; show (pl.text l).length ≤ _; omega) (hI.below hb (Nat.le_refl _)) (by simpa using pl.text_no37 l hl)
        have e : pl.lit (⟨(pl.text l).toArray⟩ : ByteArray).data.toList = pl.text l := by
          show pl.lit (pl.text l) = _
          unfold pl.lit
          rw [pl.text_addr l hl]
        rw [e] at h
        exact h
      obtain ⟨T, hT⟩ : ∃ T : ByteArray, (⟨(pl.text l).toArray⟩ : ByteArray) = T := ⟨_, rfl⟩
      simp only [hT] at hlit htx
      obtain ⟨n, hn⟩ : ∃ n, l.length = n := ⟨_, rfl⟩
      rw [hn] at hl htx ⊢
      have HTX := Lib.hid htx
      have HLIT := Lib.hid hlit
      clear hlit htx hv hI hT hs hn
      rcases hl with rfl | rfl
      · go_enter Tryd.func10, Tryd.ntmps10
        go_wp2_with (first
          | (go_at_call 33; have hx0 := HB2; refine (HTX.out _ HB2.out).mono ?_; rintro e w3 ⟨rfl, hb3⟩; have HB3 := Lib.hid (HB2.out.trans (hb3.mono HB2.out.size)); clear hb3)
          | (go_at_call 36; refine (HLIT.out _ HB1.out).mono ?_; rintro e w2 ⟨rfl, hb2⟩; have HB2 := Lib.hid (HB1.out.trans (hb2.mono HB1.out.size)); clear hb2)
          | (go_at_call 33; refine (HTX.out _ (Below.refl _ _)).mono ?_; rintro e w1 ⟨rfl, hb1⟩; have HB1 := Lib.hid hb1; clear hb1))
        go_ret
        exact ⟨rfl, HB3.out⟩
      · go_enter Tryd.func10, Tryd.ntmps10
        go_wp2_with (first
          | (go_at_call 33; have hx0 := HB2; refine (HTX.out _ HB2.out).mono ?_; rintro e w3 ⟨rfl, hb3⟩; have HB3 := Lib.hid (HB2.out.trans (hb3.mono HB2.out.size)); clear hb3)
          | (go_at_call 36; refine (HLIT.out _ HB1.out).mono ?_; rintro e w2 ⟨rfl, hb2⟩; have HB2 := Lib.hid (HB1.out.trans (hb2.mono HB1.out.size)); clear hb2)
          | (go_at_call 33; refine (HTX.out _ (Below.refl _ _)).mono ?_; rintro e w1 ⟨rfl, hb1⟩; have HB1 := Lib.hid hb1; clear hb1))
        go_ret
        exact ⟨rfl, HB3.out⟩
    · obtain ⟨n, hn⟩ : ∃ n, l.length = n := ⟨_, rfl⟩
      rw [hn] at hl hs ⊢
      have h4 : ((n : Int) == 4) = false := beqN n 4 (fun h => hl (.inl h))
      have h16 : ((n : Int) == 16) = false := beqN n 16 (fun h => hl (.inr h))
      have g4' : ((n : Int) != 4) = true := by rw [bne, h4]; rfl
      have g16' : ((n : Int) != 16) = true := by rw [bne, h16]; rfl
      clear hv hI hl hn
      go_enter Tryd.func10, Tryd.ntmps10
      go_wp2_with (go_at_call 16; refine (HWK.out _).mono ?_; rintro e w2 ⟨rfl, hb2⟩)
      go_ret
      exact ⟨rfl, hb2⟩

theorem walk_FnLiteralBytes (a : Option Addr) (len cap : Nat) (zs : List Int) (W : World) (hr : IsRow .u8 W a len cap zs) (hL : laidMetH Tryd.prog Rows.fnLiteralBytesRow.laid W) :
    Calls Tryd.prog 10 #[.slice a len cap] W fun e w' => e = .returned (.bool true) ∧ Below W.heap.size W w' := by
  rw [MakeChecks.laidMetH_plain _ _ _ (by kernel_rfl)] at hL
  obtain ⟨g4, o4, g6, o6, hI⟩ := ip_of_laid hL
  obtain ⟨l, rfl, hv⟩ := Reads.of_row hr
  exact litb_law g4 o4 g6 o6 a cap l W hv hI

end Go.Proofs.YtfkohahlpfejbaaDoor
