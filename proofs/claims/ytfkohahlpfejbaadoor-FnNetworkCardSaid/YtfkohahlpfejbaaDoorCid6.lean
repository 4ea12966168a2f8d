/-
  CONTRACT: spec.CIDR; THE WALK of FnCIDR.
-/
import Derived.Test.YtfkohahlpfejbaaDoorCid5
import Derived.Test.YtfkohahlpfejbaaDoorNB6
namespace Go.Proofs.YtfkohahlpfejbaaDoor
open Go.RowKit

theorem pl.long_len (b : List UInt8) (h : b.length = 4 ∨ b.length = 16) : (pl.long b).length = 16 := by
  unfold pl.long
  split
  · rw [List.length_append]; show 12 + b.length = 16; omega
  · omega

set_option maxHeartbeats 2000000 in
theorem cspec_sp (s : ByteArray) (w : World) (hs : s.size ≤ 2147483648) :
    Calls Tryd.prog 26 #[.string s] w (CSpRes s.data.toList w) := by
  have hcut := fun W => cut_sp s 47 W (by omega)
  have hlen := pl.cut_len s 47
  have hcc := pl.cidr_cases s.data.toList
  unfold CSpRes
  obtain ⟨A, hA⟩ : ∃ A : ByteArray, A.data.toList = (pl.cutS s.data.toList 47).1 := ⟨⟨(pl.cutS s.data.toList 47).1.toArray⟩, rfl⟩
  obtain ⟨B, hB⟩ : ∃ B : ByteArray, B.data.toList = (pl.cutS s.data.toList 47).2.1 := ⟨⟨(pl.cutS s.data.toList 47).2.1.toArray⟩, rfl⟩
  have eA : (⟨(pl.cutS s.data.toList 47).1.toArray⟩ : ByteArray) = A := by rw [← hA]
  have eB : (⟨(pl.cutS s.data.toList 47).2.1.toArray⟩ : ByteArray) = B := by rw [← hB]
  rw [eA, eB] at hcut
  rw [← hA, ← hB] at hlen hcc
  have hAs : A.size ≤ 2147483648 := by
    have : A.data.toList.length = A.size := by simp
    omega
  have hBs : B.size ≤ 17592186044416 := by
    have : B.data.toList.length = B.size := by simp
    omega
  have haddr := fun W => addr_sp A W hAs
  have hdec := fun W => dec_sp B W hBs
  have hA2 : ∀ o1, (pl.addr A.data.toList).isSome = o1 → Hid (∀ W, Calls Tryd.prog 15 #[.string A] W fun e w' => (∃ a n c, e = .returned (.tuple #[.slice a n c, .bool o1])) ∧ Hid (Below W.heap.size W w')) := fun o1 h1 => Lib.hid fun W => (haddr W).mono fun e w' ⟨hb, hr⟩ => by
    rcases hr with ⟨v, l, h2, he, hY⟩ | ⟨h2, a, n, c, h3⟩
    · obtain ⟨a, c, rfl, _⟩ := hY.reads
      rw [h2] at h1
      subst h1
      exact ⟨⟨_, _, _, he⟩, Lib.hid hb⟩
    · rw [h2] at h1
      subst h1
      exact ⟨⟨_, _, _, h3⟩, Lib.hid hb⟩
  have hD2 : ∀ o2, (pl.decimal B.data.toList).isSome = o2 → Hid (∀ W, Calls Tryd.prog 53 #[.string B] W fun e w' => (∃ n : Int, e = .returned (.tuple #[.int .i64 n, .bool o2])) ∧ W = w') := fun o2 h1 => Lib.hid fun W => (hdec W).mono fun e w' ⟨hr, hw⟩ => by
    rcases hr with ⟨v, h2, he⟩ | ⟨h2, n, he⟩
    · rw [h2] at h1; subst h1; exact ⟨⟨_, he⟩, hw⟩
    · rw [h2] at h1; subst h1; exact ⟨⟨_, he⟩, hw⟩
  have hno : ∀ f o1 o2, (pl.cutS s.data.toList 47).2.2 = f → (pl.addr A.data.toList).isSome = o1 → (pl.decimal B.data.toList).isSome = o2 → (f = false ∨ (f = true ∧ o1 = false) ∨ (f = true ∧ o1 = true ∧ o2 = false)) → Calls Tryd.prog 26 #[.string s] w (CSpNo w) := fun f o1 o2 hf h1 h2 hc => by
    rw [hf] at hcut
    exact csp_no s A B f o1 o2 w (Lib.hid hcut) (hA2 o1 h1) (hD2 o2 h2) hc
  rcases hcc with ⟨hf, hc⟩ | ⟨hf, ⟨ha, hc⟩ | ⟨b, ha, ⟨hd, hc⟩ | ⟨n, hd, hcc⟩⟩⟩
  · exact (hno false _ _ hf rfl rfl (.inl rfl)).mono fun e w' ⟨h1, h2⟩ => ⟨h2, .inl ⟨hc, h1⟩⟩
  · exact (hno true false _ hf (by rw [ha]; rfl) rfl (.inr (.inl ⟨rfl, rfl⟩))).mono fun e w' ⟨h1, h2⟩ => ⟨h2, .inl ⟨hc, h1⟩⟩
  · exact (hno true true false hf (by rw [ha]; rfl) (by rw [hd]; rfl) (.inr (.inr ⟨rfl, rfl, rfl⟩))).mono fun e w' ⟨h1, h2⟩ => ⟨h2, .inl ⟨hc, h1⟩⟩
  · have hbl := pl.addr_len _ _ ha
    rw [hf] at hcut
    have HA : Hid (∀ W, Calls Tryd.prog 15 #[.string A] W fun e w' => (∃ a c, e = .returned (.tuple #[.slice a b.length c, .bool true]) ∧ Hid (Reads w' (.slice a b.length c) b)) ∧ Hid (Below W.heap.size W w')) := Lib.hid fun W => (haddr W).mono fun e w' ⟨hb, hr⟩ => by
      rcases hr with ⟨v, l, h2, he, hY⟩ | ⟨h2, _⟩
      · rw [ha] at h2
        injection h2 with h2
        subst h2
        have hY' := hY.reads
        obtain ⟨a, c, rfl, _⟩ := hY.reads
        exact ⟨⟨_, _, he, Lib.hid hY'⟩, Lib.hid hb⟩
      · rw [ha] at h2; cases h2
    have HD : Hid (∀ W, Calls Tryd.prog 53 #[.string B] W fun e w' => e = .returned (.tuple #[.int .i64 (n : Int), .bool true]) ∧ W = w') := Lib.hid fun W => (hdec W).mono fun e w' ⟨hr, hw⟩ => by
      rcases hr with ⟨v, h2, he⟩ | ⟨h2, _⟩
      · rw [hd] at h2; injection h2 with h2; subst h2; exact ⟨he, hw⟩
      · rw [hd] at h2; cases h2
    rcases hcc with ⟨hn, hc⟩ | ⟨hn, hc⟩
    · refine (csp_len s A B b n b.length false w (Lib.hid hcut) HA HD hbl (by simp; omega)).mono fun e w' ⟨v, he, hR, hB⟩ => ⟨hB, .inl ⟨hc, ?_⟩⟩
      obtain ⟨a, c, rfl, _⟩ := hR.out
      exact ⟨_, _, _, _, he⟩
    · exact (csp_len s A B b n b.length true w (Lib.hid hcut) HA HD hbl (by simp; omega)).mono fun e w' ⟨v, he, hR, hB⟩ => ⟨hB, .inr ⟨b, n, v, hc, hbl, hn, he, hR⟩⟩

/-- impl.ParseCIDR, spelt with the lengths -/
theorem ici_no (s : ByteArray) (w : World) (h : Calls Tryd.prog 27 #[.string s] w (IciRes s.data.toList w)) (hc : pl.cidr s.data.toList = none) :
    Calls Tryd.prog 27 #[.string s] w fun e w' => e = .returned (.tuple #[.slice none 0 0, .slice none 0 0, .slice none 0 0, .bool false]) ∧ Hid (Below w.heap.size w w') := by
  refine h.mono fun e w' ⟨hb, hr⟩ => ?_
  rcases hr with ⟨_, he⟩ | ⟨b, n, va, vn, vm, h2, _⟩
  · exact ⟨he, hb⟩
  · rw [hc] at h2; cases h2
theorem ici_yes (s : ByteArray) (b : List UInt8) (n L : Nat) (w : World) (h : Calls Tryd.prog 27 #[.string s] w (IciRes s.data.toList w)) (hc : pl.cidr s.data.toList = some (b, n)) (hL : b.length = L) :
    Calls Tryd.prog 27 #[.string s] w fun e w' => ∃ a1 c1 a2 c2 a3 c3, e = .returned (.tuple #[.slice a1 16 c1, .slice a2 L c2, .slice a3 L c3, .bool true]) ∧ Hid (Below w.heap.size w w') ∧
      Hid (Reads w' (.slice a1 16 c1) (pl.long b)) ∧ Hid (Reads w' (.slice a2 L c2) (pl.and b (pl.mask n L))) ∧ Hid (Reads w' (.slice a3 L c3) (pl.mask n L)) := by
  refine h.mono fun e w' ⟨hb, hr⟩ => ?_
  rcases hr with ⟨h2, he⟩ | ⟨b', n', va, vn, vm, h2, hbl, hn, he, h3, h4, h5⟩
  · rw [hc] at h2; cases h2
  · rw [hc] at h2
    injection h2 with h2
    injection h2 with e1 e2
    subst e1 e2 hL
    have g3 := h3.out
    have g4 := h4.out
    have g5 := h5.out
    obtain ⟨a1, c1, rfl, _⟩ := h3.out
    obtain ⟨a2, c2, rfl, _⟩ := h4.out
    obtain ⟨a3, c3, rfl, _⟩ := h5.out
    rw [pl.long_len b hbl] at g3 he
    rw [pl.and_len b _ (pl.mask_len _ _).symm] at g4 he
    rw [pl.mask_len] at g5 he
    exact ⟨_, _, _, _, _, _, he, hb, Lib.hid g3, Lib.hid g4, Lib.hid g5⟩

end Go.Proofs.YtfkohahlpfejbaaDoor
