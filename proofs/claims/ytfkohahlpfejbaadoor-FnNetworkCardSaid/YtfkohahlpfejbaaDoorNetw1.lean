/-
  PLAIN AND CONTRACTS for FnNetwork: the text of an address with a length behind it is read again; Mapped, Digits, impl.Mask.
-/
import Derived.Test.YtfkohahlpfejbaaDoorCid6
import Derived.Test.YtfkohahlpfejbaaDoorNB6
namespace Go.Proofs.YtfkohahlpfejbaaDoor
open Go.RowKit

theorem pl.num16_no47 (n : Nat) (h : n < 65536) : (47 : UInt8) ∉ pl.num 16 n := by
  intro hm
  have h1 := (pl.okG_num n h).1
  rw [List.all_eq_true] at h1
  have := h1 47 hm
  revert this; decide
theorem pl.num10_no47 (x : UInt8) : (47 : UInt8) ∉ pl.num 10 x.toNat := by
  intro hm
  have h1 := (pl.oct_num x).2.1
  rw [List.all_eq_true] at h1
  have := h1 47 hm
  revert this; decide
theorem pl.jn_no47 (g : List Nat) (hs : pl.small g) : (47 : UInt8) ∉ pl.jn g := by
  induction g with
  | nil => simp [pl.jn]
  | cons a g ih =>
    cases g with
    | nil => exact pl.num16_no47 a (hs a (by simp))
    | cons b r =>
      have h1 := pl.num16_no47 a (hs a (by simp))
      have h2 := ih (fun y hy => hs y (by simp at hy ⊢; exact .inr hy))
      rw [pl.jn]
      intro hm
      rcases List.mem_append.1 hm with hm | hm
      · exact h1 hm
      · rcases List.mem_cons.1 hm with hm | hm
        · revert hm; decide
        · exact h2 hm
theorem pl.dots_no47 (b : List UInt8) : (47 : UInt8) ∉ pl.dots b := by
  unfold pl.dots
  split
  · rename_i x y z u
    have h1 := pl.num10_no47 x
    have h2 := pl.num10_no47 y
    have h3 := pl.num10_no47 z
    have h4 := pl.num10_no47 u
    simp only [List.mem_append, List.mem_cons, not_or]
    exact ⟨h1, by decide, h2, by decide, h3, by decide, h4⟩
  · simp
theorem pl.text_no47 (b : List UInt8) (hb : b.length = 4 ∨ b.length = 16) : (47 : UInt8) ∉ pl.text b := by
  unfold pl.text
  split
  · exact pl.dots_no47 b
  · split
    · intro hm
      rcases List.mem_append.1 hm with hm | hm
      · revert hm; decide
      · exact pl.dots_no47 _ hm
    · have hs : pl.small (pl.gs b) := pl.gs_lt 16 b (by omega)
      unfold pl.text6 pl.tx
      split
      · exact pl.jn_no47 _ (fun x hx => hs x (List.mem_of_mem_take hx))
      · intro hm
        rcases List.mem_append.1 hm with hm | hm
        · rcases List.mem_append.1 hm with hm | hm
          · exact pl.jn_no47 _ (fun x hx => hs x (List.mem_of_mem_take hx)) hm
          · revert hm; decide
        · exact pl.jn_no47 _ (pl.take_small _ hs _ _) hm

theorem pl.cidr_text (b : List UInt8) (n : Nat) (hb : b.length = 4 ∨ b.length = 16) (hn : n ≤ 8 * b.length) :
    pl.cidr (pl.text b ++ 47 :: pl.num 10 n) = some (b, n) ∧ (37 : UInt8) ∉ pl.text b ++ 47 :: pl.num 10 n ∧ (pl.cutS (pl.text b ++ 47 :: pl.num 10 n) 47).2.1.length < 7 := by
  obtain ⟨h1, h2, h3⟩ := pl.num_dec n (by omega)
  have hc := pl.cutS_app (pl.text b) (pl.num 10 n) (pl.text_no47 b hb)
  refine ⟨?_, ?_, ?_⟩
  · unfold pl.cidr
    rw [hc]
    show (if true = true then _ else _) = _
    rw [if_pos rfl]
    show (match pl.addr (pl.text b), pl.decimal (pl.num 10 n) with | some b, some n => if n ≤ 8 * b.length then some (b, n) else none | _, _ => none) = _
    rw [pl.text_addr b hb, h1]
    show (if n ≤ 8 * b.length then some (b, n) else none) = _
    rw [if_pos hn]
  · intro hm
    rcases List.mem_append.1 hm with hm | hm
    · exact pl.text_no37 b hb hm
    · rcases List.mem_cons.1 hm with hm | hm
      · revert hm; decide
      · exact h3 hm
  · rw [hc]
    show (pl.num 10 n).length < 7
    omega

theorem mp_reads (a : Option Addr) (c : Nat) (b : List UInt8) (w : World) (hb : b.length = 16) (hv : Reads w (.slice a 16 c) b) (r : Bool) (hr : pl.mapped b = r) :
    Calls Tryd.prog 31 #[.slice a 16 c] w fun e w' => e = .returned (.bool r) ∧ w = w' := by
  obtain ⟨a', cap, he, h1, _, _, h3⟩ := hv
  obtain ⟨g, o, ha, hg, _⟩ := h3 0 _ (List.getElem?_eq_getElem (by omega : 0 < b.length))
  injection he with e1 e2 e3
  subst e1 ha
  rw [← hr]
  refine mp_sp b hb g o c w fun k x hx => ?_
  obtain ⟨g', o', ha, _, hc⟩ := h3 k x hx
  injection ha with ha
  injection ha with e1 e2
  subst e1 e2
  exact hc

theorem dig_s (n : Nat) (w : World) (hn : n < 9223372036854775808) :
    Calls Tryd.prog 32 #[.int .i64 (n : Int)] w fun e w' => e = .returned (.string ⟨(pl.num 10 n).toArray⟩) ∧ ∃ k, w' = w.drewN k := by
  have h := fun W => num_10 n W hn
  obtain ⟨D, hD⟩ : ∃ D : ByteArray, (⟨(pl.num 10 n).toArray⟩ : ByteArray) = D := ⟨_, rfl⟩
  rw [hD] at h ⊢
  have H := Lib.hid h
  clear h hD
  go_enter Tryd.func32, Tryd.ntmps32
  go_wp2_with (go_at_call 55; refine (H.out _).mono ?_; rintro e w2 ⟨rfl, k, rfl⟩)
  go_ret
  exact ⟨rfl, k, rfl⟩

theorem app_dt (a b : ByteArray) : (a ++ b).data.toList = a.data.toList ++ b.data.toList := by simp [ByteArray.data_append]

/-- ParseCIDR at the text of an address -/
theorem ici_text (g4 o4 g6 o6 : Nat) (b : List UInt8) (n L : Nat) (T D : ByteArray) (w : World) (hI : IpVars w g4 o4 g6 o6) (hT : (⟨(pl.text b).toArray⟩ : ByteArray) = T) (hD : (⟨(pl.num 10 n).toArray⟩ : ByteArray) = D) (hb : b.length = 4 ∨ b.length = 16) (hL : b.length = L) (hn : n ≤ 8 * b.length) :
    Calls Tryd.prog 27 #[.string (T ++ (⟨#[47]⟩ ++ D))] w fun e w' => ∃ a1 c1 a2 c2 a3 c3, e = .returned (.tuple #[.slice a1 16 c1, .slice a2 L c2, .slice a3 L c3, .bool true]) ∧ Hid (Below w.heap.size w w') ∧
      Hid (Reads w' (.slice a1 16 c1) (pl.long b)) ∧ Hid (Reads w' (.slice a2 L c2) (pl.and b (pl.mask n L))) ∧ Hid (Reads w' (.slice a3 L c3) (pl.mask n L)) := by
  have hl : (T ++ ((⟨#[47]⟩ : ByteArray) ++ D)).data.toList = pl.text b ++ 47 :: pl.num 10 n := by
    rw [app_dt, app_dt, ← hT, ← hD]; rfl
  obtain ⟨h1, h2, h3⟩ := pl.cidr_text b n hb hn
  rw [← hl] at h1 h2 h3
  have hsz : (T ++ ((⟨#[47]⟩ : ByteArray) ++ D)).size ≤ 2147483648 := by
    have e : (T ++ ((⟨#[47]⟩ : ByteArray) ++ D)).data.toList.length = (T ++ ((⟨#[47]⟩ : ByteArray) ++ D)).size := Array.length_toList
    rw [hl] at e
    have := pl.text_len b hb
    have := (pl.num_dec n (by omega)).2.1
    rw [List.length_append, List.length_cons] at e
    omega
  exact ici_yes _ b n L w (icidr_sp g4 o4 g6 o6 _ w hsz hI h2 h3) h1 hL

end Go.Proofs.YtfkohahlpfejbaaDoor
