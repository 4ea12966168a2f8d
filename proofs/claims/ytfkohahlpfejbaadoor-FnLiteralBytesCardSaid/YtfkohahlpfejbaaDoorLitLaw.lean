/-
  THE WALK of FnLiteral.
-/
import Derived.Test.YtfkohahlpfejbaaDoorLit
import Derived.Test.YtfkohahlpfejbaaDoorText16
import Derived.Test.YtfkohahlpfejbaaDoorVars
import Derived.Test.YtfkohahlpfejbaaDoorAddress
import Derived.Test.YtfkohahlpfejbaaDoorHost2
namespace Go.Proofs.YtfkohahlpfejbaaDoor
open Go.RowKit

theorem pl.addr_len (s b : List UInt8) (h : pl.addr s = some b) : b.length = 4 ∨ b.length = 16 := by
  unfold pl.addr at h
  cases hf : pl.four s with
  | some l => rw [hf] at h; injection h with h; subst h; exact .inl (pl.four_l4 _ _ hf)
  | none =>
    rw [hf] at h
    cases hd : pl.dd s with
    | some k =>
      rw [hd] at h
      simp only at h
      split at h
      · split at h
        · cases h
        · injection h with h
          subst h
          right
          simp only [List.length_append, List.length_replicate]
          omega
      · cases h
    | none =>
      rw [hd] at h
      simp only at h
      split at h
      · split at h
        · injection h with h; subst h; right; assumption
        · cases h
      · cases h
/-- Text of bytes that a row bears -/
theorem text_row (v : Value) (b : List UInt8) (B : Nat) (w w' : World) (hb : b.length = 4 ∨ b.length = 16) (hv : Byts w B v b) (hw : Below w.heap.size w w') :
    Calls Tryd.prog 33 #[v] w' fun e w2 => e = .returned (.string ⟨(pl.text b).toArray⟩) ∧ Below w'.heap.size w' w2 := by
  have hn : b.length ≠ 0 := by omega
  rcases hv.2 with ⟨_, h⟩ | ⟨g, cap, cur, rfl, hg, hh, hnc, hcm, _⟩
  · exact absurd h hn
  · have hgl := (Array.getElem?_eq_some_iff.1 hh).1
    have hc : InBlk w' g 0 b := fun k x hx => by
      have h := World.ownsRow.cells hv (g := g) rfl k (pl.byteV x) (by simp [hx])
      rw [Addr.add_lit] at h
      rw [hw.cell (p := ⟨g, 0 + k, none⟩) hgl]
      exact h
    have hgl' := Nat.lt_of_lt_of_le hgl hw.size
    rcases hb with hb | hb
    · match b, hb with
      | [x, y, z, u], _ =>
        refine (text4_sp x y z u g 0 cap w' hc).mono fun e w2 ⟨he, k, hk⟩ => ⟨he, ?_⟩
        rw [hk]; exact below_drewN (Below.refl _ _) _
    · have := text16_sp b hb g 0 cap w' hc hgl' (by omega)
      rw [hb]
      exact this

theorem addr_no2 (s : ByteArray) (w : World) (hs : s.size ≤ 2147483648) (h : pl.addr s.data.toList = none) :
    Calls Tryd.prog 15 #[.string s] w fun e w' => (∃ a n c, e = .returned (.tuple #[.slice a n c, .bool false])) ∧ Hid (Below w.heap.size w w') := by
  refine (addr_sp s w hs).mono fun e w' ⟨hb, hr⟩ => ?_
  rcases hr with ⟨v, l, h2, _⟩ | ⟨_, h2⟩
  · rw [h] at h2; cases h2
  · exact ⟨h2, Lib.hid hb⟩
theorem addr_yes2 (s : ByteArray) (b : List UInt8) (w : World) (hs : s.size ≤ 2147483648) (h : pl.addr s.data.toList = some b) :
    Calls Tryd.prog 15 #[.string s] w fun e w' => ∃ v, e = .returned (.tuple #[v, .bool true]) ∧ Hid (Byts w' w.heap.size v b) ∧ Hid (Below w.heap.size w w') := by
  refine (addr_sp s w hs).mono fun e w' ⟨hb, hr⟩ => ?_
  rcases hr with ⟨v, l, h2, he, hY⟩ | ⟨h2, _⟩
  · rw [h] at h2; injection h2 with h2; subst h2; exact ⟨v, he, Lib.hid hY, Lib.hid hb⟩
  · rw [h] at h2; cases h2

theorem has_pc (s : ByteArray) (w : World) (hs : s.size ≤ 2147483648) (r : Bool) (hr : pl.has s.data.toList [37] = r) :
    Calls Tryd.prog 35 #[.string s, .string ⟨#[37]⟩] w fun e w' => e = .returned (.bool r) ∧ Hid (Below w.heap.size w w') := by
  refine (has_any s ⟨#[37]⟩ w (by omega) (by decide)).mono fun e w' ⟨he, n, hn⟩ => ⟨by rw [he, ← hr], Lib.hid ?_⟩
  rw [hn]; exact below_drewN (Below.refl _ _) _

set_option maxRecDepth 100000 in
set_option maxHeartbeats 8000000 in
theorem lit_law (g4 o4 g6 o6 : Nat) (s : ByteArray) (w : World) (hI : IpVars w g4 o4 g6 o6) :
    Calls Tryd.prog 9 #[.string s] w fun e w' => e = .returned (.bool true) ∧ Below w.heap.size w w' := by
  by_cases hs : 2147483647 < s.size
  · go_enter Tryd.func9, Tryd.ntmps9
    go_wp2_with fail
    go_ret
    exact ⟨rfl, Below.refl _ _⟩
  · have hs2 : s.size ≤ 2147483648 := by omega
    have hwk := works_any
    have HWK := Lib.hid hwk
    by_cases hp : pl.has s.data.toList [37] = true
    · have hh := fun W => has_pc s W hs2 true hp
      have HH := Lib.hid hh
      clear hh hp hwk
      go_enter Tryd.func9, Tryd.ntmps9
      go_wp2_with (first
        | (go_at_call 16; refine (HWK.out _).mono ?_; rintro e w2 ⟨rfl, hb2⟩)
        | (go_at_call 35; refine (HH.out _).mono ?_; rintro e w1 ⟨rfl, HB1⟩))
      go_ret
      exact ⟨rfl, HB1.out.trans (hb2.mono HB1.out.size)⟩
    · have hp' : pl.has s.data.toList [37] = false := by simpa using hp
      have h37 : (37 : UInt8) ∉ s.data.toList := by
        intro hm
        apply hp
        unfold pl.has
        rw [List.any_eq_true]
        exact ⟨37, hm, by decide⟩
      have hh := fun W => has_pc s W hs2 false hp'
      have HH := Lib.hid hh
      have hlit : ∀ W, Below w.heap.size w W → Calls Tryd.prog 36 #[.string s] W fun e w' => e = .returned (.string ⟨(pl.lit s.data.toList).toArray⟩) ∧ Below W.heap.size W w' := fun W hb => ilit_sp g4 o4 g6 o6 s W hs2 (hI.below hb (Nat.le_refl _)) h37
      rcases hA : pl.addr s.data.toList with _ | b
      · have hl : pl.lit s.data.toList = [] := by unfold pl.lit; rw [hA]
        rw [hl] at hlit
        have hno := fun W => addr_no2 s W hs2 hA
        have HNO := Lib.hid hno
        have HLIT : Hid (∀ W, Below w.heap.size w W → Calls Tryd.prog 36 #[.string s] W fun e w' => e = .returned (.string ⟨#[]⟩) ∧ Below W.heap.size W w') := Lib.hid hlit
        clear hlit hl hno hh hp hp' h37 hA hwk hI
        go_enter Tryd.func9, Tryd.ntmps9
        go_wp2_with (first
          | (go_at_call 16; refine (HWK.out _).mono ?_; rintro e w4 ⟨rfl, hb4⟩; have HB4 := Lib.hid (HB3.out.trans (hb4.mono HB3.out.size)); clear hb4)
          | (go_at_call 36; refine (HLIT.out _ HB2.out).mono ?_; rintro e w3 ⟨rfl, hb3⟩; have HB3 := Lib.hid (HB2.out.trans (hb3.mono HB2.out.size)); clear hb3)
          | (go_at_call 15; refine (HNO.out _).mono ?_; rintro e w2 ⟨⟨a, n, c, rfl⟩, hb2⟩; have HB2 := Lib.hid (HB1.out.trans (hb2.out.mono HB1.out.size)); clear hb2)
          | (go_at_call 35; refine (HH.out _).mono ?_; rintro e w1 ⟨rfl, HB1⟩))
        go_ret
        exact ⟨rfl, HB4.out⟩
      · have hl : pl.lit s.data.toList = pl.text b := by unfold pl.lit; rw [hA]
        rw [hl] at hlit
        have hbl := pl.addr_len _ _ hA
        have hyes := fun W => addr_yes2 s b W hs2 hA
        have htx := fun v B W W' => text_row v b B W W' hbl
        obtain ⟨T, hT⟩ : ∃ T : ByteArray, (⟨(pl.text b).toArray⟩ : ByteArray) = T := ⟨_, rfl⟩
        simp only [hT] at hlit htx
        have HYES := Lib.hid hyes
        have HTX := Lib.hid htx
        have HLIT := Lib.hid hlit
        clear hlit hl hyes htx hh hp hp' h37 hA hwk hI hT hbl
        go_enter Tryd.func9, Tryd.ntmps9
        go_wp2_with (first
          | (go_at_call 33; refine (HTX.out _ _ _ _ HY2.out hb3').mono ?_; rintro e w4 ⟨rfl, hb4⟩; have HB4 := Lib.hid (HB3.out.trans (hb4.mono HB3.out.size)); clear hb4)
          | (go_at_call 36; refine (HLIT.out _ HB2.out).mono ?_; rintro e w3 ⟨rfl, hb3⟩; have HB3 := Lib.hid (HB2.out.trans (hb3.mono HB2.out.size)); have hb3' := hb3)
          | (go_at_call 15; refine (HYES.out _).mono ?_; rintro e w2 ⟨v, rfl, HY2, hb2⟩; have HB2 := Lib.hid (HB1.out.trans (hb2.out.mono HB1.out.size)); clear hb2)
          | (go_at_call 35; refine (HH.out _).mono ?_; rintro e w1 ⟨rfl, HB1⟩))
        go_ret
        exact ⟨rfl, HB4.out⟩

theorem walk_FnLiteral (s : ByteArray) (W : World) (_hs : s.size ≤ maxLen) (hL : laidMetH Tryd.prog Rows.fnLiteralRow.laid W) :
    Calls Tryd.prog 9 #[.string s] W fun e w' => e = .returned (.bool true) ∧ Below W.heap.size W w' := by
  rw [MakeChecks.laidMetH_plain _ _ _ (by kernel_rfl)] at hL
  obtain ⟨g4, o4, g6, o6, hI⟩ := ip_of_laid hL
  exact lit_law g4 o4 g6 o6 s W hI

end Go.Proofs.YtfkohahlpfejbaaDoor
