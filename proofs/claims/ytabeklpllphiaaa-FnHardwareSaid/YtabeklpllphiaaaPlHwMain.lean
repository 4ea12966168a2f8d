/-
  PLAIN: the package reads an address of hardware as the reference does: joined.
-/
import Derived.Test.YtabeklpllphiaaaPlHwLaw
namespace Go.Proofs.Ytabeklpllphiaaa

/-- a form of the reference, by the walk over its groups -/
theorem pl.formB2 (c : UInt8) (s o : List UInt8) (h : pl.m1 c s = some o) (ho : pl.ok o.length = true) : pl.formB c 2 s = true ∧ pl.outB c s = o := by
  have hs := pl.m1_spl c s
  rw [h] at hs
  by_cases ha : (pl.spl c s).all (pl.fine 2) = true
  · rw [if_pos ha] at hs
    injection hs with hs
    have hO : pl.outB c s = o := by unfold pl.outB; rw [pl.split_spl, hs]
    refine ⟨?_, hO⟩
    have hlen := pl.m1_len c s o h
    have hhas : pl.has s [c] = true := by
      match s, h, hlen with
      | [], h, _ => simp [pl.m1] at h
      | [_], h, _ => simp [pl.m1] at h
      | [_, _], h, hlen =>
        have : o.length = 1 := by simp only [List.length_cons, List.length_nil] at hlen; omega
        rw [this] at ho; cases ho
      | a :: b :: d :: t, h, _ =>
        have := (pl.m1_at2 c a b d t o h).1
        subst this
        simp [pl.has]
    unfold pl.formB pl.allB
    rw [pl.split_spl, hhas, ha, hO, ho]; rfl
  · rw [if_neg ha] at hs; cases hs

theorem pl.formB2_no (c : UInt8) (s : List UInt8) (h : ∀ o, pl.m1 c s = some o → pl.ok o.length = false) : pl.formB c 2 s = false := by
  have hs := pl.m1_spl c s
  unfold pl.formB pl.allB pl.outB
  rw [pl.split_spl]
  by_cases ha : (pl.spl c s).all (pl.fine 2) = true
  · rw [if_pos ha] at hs
    rw [h _ hs, Bool.and_false]
  · rw [Bool.not_eq_true] at ha
    rw [ha]; simp

theorem pl.formB4 (c : UInt8) (s o : List UInt8) (h : pl.m2 c s = some o) (ho : pl.ok o.length = true) : pl.formB c 4 s = true ∧ pl.outB c s = o := by
  have hs := pl.m2_spl c s
  rw [h] at hs
  by_cases ha : (pl.spl c s).all (pl.fine 4) = true
  · rw [if_pos ha] at hs
    injection hs with hs
    have hO : pl.outB c s = o := by unfold pl.outB; rw [pl.split_spl, hs]
    refine ⟨?_, hO⟩
    have hlen := pl.m2_len c s o h
    have hhas : pl.has s [c] = true := by
      match s, h, hlen with
      | [], h, _ => simp [pl.m2] at h
      | [_], h, _ => simp [pl.m2] at h
      | [_, _], h, _ => simp [pl.m2] at h
      | [_, _, _], h, _ => simp [pl.m2] at h
      | [_, _, _, _], h, hlen =>
        have : o.length = 2 := by simp only [List.length_cons, List.length_nil] at hlen; omega
        rw [this] at ho; cases ho
      | a :: b :: d :: e :: f :: t, h, _ =>
        have := (pl.m2_at c a b d e f t o h).1
        subst this
        simp [pl.has]
    unfold pl.formB pl.allB
    rw [pl.split_spl, hhas, ha, hO, ho]; rfl
  · rw [if_neg ha] at hs; cases hs

theorem pl.formB4_no (c : UInt8) (s : List UInt8) (h : ∀ o, pl.m2 c s = some o → pl.ok o.length = false) : pl.formB c 4 s = false := by
  have hs := pl.m2_spl c s
  unfold pl.formB pl.allB pl.outB
  rw [pl.split_spl]
  by_cases ha : (pl.spl c s).all (pl.fine 4) = true
  · rw [if_pos ha] at hs
    rw [h _ hs, Bool.and_false]
  · rw [Bool.not_eq_true] at ha
    rw [ha]; simp

theorem pl.ok_ge (n : Nat) (h : pl.ok n = true) : n = 6 ∨ n = 8 ∨ n = 20 := by
  rcases pl.ok_cases n with ⟨_, h'⟩ | ⟨h', _⟩
  · exact h'
  · rw [h] at h'; cases h'

theorem pl.long5 (s : List UInt8) (h : 12 ≤ s.length) : ∃ a b c d e f t, s = a :: b :: c :: d :: e :: f :: t := by
  match s, h with
  | a :: b :: c :: d :: e :: f :: t, _ => exact ⟨a, b, c, d, e, f, t, rfl⟩
  | [], h => simp at h
  | [_], h => simp at h
  | [_, _], h => simp at h
  | [_, _, _], h => simp at h
  | [_, _, _, _], h => simp at h
  | [_, _, _, _, _], h => simp at h

theorem pl.prs_at (a b c d e f : UInt8) (t o : List UInt8) (h : pl.prs (a :: b :: c :: d :: e :: f :: t) = some o) : (pl.hexv c).isSome = true ∧ (pl.hexv e).isSome = true := by
  rw [pl.prs, pl.prs, pl.prs] at h
  cases h1 : pl.pair a b <;> cases h2 : pl.pair c d <;> cases h3 : pl.pair e f <;> rw [h1, h2, h3] at h <;> simp at h
  exact ⟨(pl.pair_nohex c d _ h2).1, (pl.pair_nohex e f _ h3).1⟩

/-- WHAT THE LAW SAYS. -/
theorem pl.hw_law (s : List UInt8) : (pl.hw s).2.2 = true → (pl.mac s).isSome = (pl.hw s).2.1 ∧ ((pl.hw s).2.1 = true → (pl.mac s).getD [] = (pl.hw s).1) := by
  by_cases h12 : s.length < 12
  · have hmac : pl.mac s = none := by unfold pl.mac; rw [if_pos h12]
    have f1 : ∀ c, pl.formB c 2 s = false := fun c => pl.formB2_no c s fun o ho => by
      cases hk : pl.ok o.length with
      | false => rfl
      | true => have := pl.ok_ge _ hk; have := pl.m1_len c s o ho; omega
    have f2 : pl.formB 46 4 s = false := pl.formB4_no 46 s fun o ho => by
      cases hk : pl.ok o.length with
      | false => rfl
      | true => have := pl.ok_ge _ hk; have := pl.m2_len 46 s o ho; omega
    have f3 : ((pl.hexes s).2 && (pl.hexes s).1.length == 6) = false := by
      cases hp : pl.prs s with
      | none => simp [pl.hexes, hp]
      | some o =>
        have := pl.prs_len s o hp
        have h6 : ¬ o.length = 6 := by omega
        simp [pl.hexes, hp, h6]
    unfold pl.hw
    rw [f1, f1, f2, f3, hmac]
    simp
  · obtain ⟨a, b, c, d, e, f, t, rfl⟩ := pl.long5 s (by omega)
    obtain ⟨s, hs⟩ : ∃ s, s = a :: b :: c :: d :: e :: f :: t := ⟨_, rfl⟩
    have g2 : s.getD 2 0 = c := by rw [hs]; rfl
    have g4 : s.getD 4 0 = e := by rw [hs]; rfl
    have m1at : ∀ x o, pl.m1 x s = some o → c = x ∧ (pl.hexv a).isSome = true := fun x o h => pl.m1_at2 x a b c (d :: e :: f :: t) o (by rw [← hs]; exact h)
    have m2at : ∀ x o, pl.m2 x s = some o → e = x ∧ (pl.hexv c).isSome = true := fun x o h => pl.m2_at x a b c d e (f :: t) o (by rw [← hs]; exact h)
    have prat : ∀ o, pl.prs s = some o → (pl.hexv c).isSome = true ∧ (pl.hexv e).isSome = true := fun o h => pl.prs_at a b c d e f t o (by rw [← hs]; exact h)
    rw [← hs] at h12 ⊢
    clear hs
    have h58 : pl.hexv 58 = none := by decide
    have h45 : pl.hexv 45 = none := by decide
    have h46 : pl.hexv 46 = none := by decide
    have hexF : (pl.hexv c).isSome = false ∨ (pl.hexv e).isSome = false → (pl.hexes s).2 = false := by
      intro h
      cases hp : pl.prs s with
      | none => simp [pl.hexes, hp]
      | some o =>
        obtain ⟨h1, h2⟩ := prat o hp
        rcases h with h | h
        · rw [h1] at h; cases h
        · rw [h2] at h; cases h
    by_cases hc : c = 58 ∨ c = 45
    · have hcn : pl.hexv c = none := by rcases hc with h | h <;> subst h <;> assumption
      have hx := hexF (Or.inl (by rw [hcn]; rfl))
      have hf4 : pl.formB 46 4 s = false := pl.formB4_no 46 s fun o ho => by
        have := (m2at 46 o ho).2
        rw [hcn] at this; cases this
      have hmac : pl.mac s = if (s.length + 1) % 3 = 0 ∧ pl.ok ((s.length + 1) / 3) = true then pl.g1 c ((s.length + 1) / 3) s else none := by
        unfold pl.mac; rw [if_neg h12, g2, if_pos hc]
      have hoth : ∀ x, x ≠ c → pl.formB x 2 s = false := fun x hne => pl.formB2_no x s fun o ho => absurd (m1at x o ho).1.symm hne
      by_cases hm : ∃ o, pl.m1 c s = some o ∧ pl.ok o.length = true
      · obtain ⟨o, ho, hk⟩ := hm
        have hlen := pl.m1_len c s o ho
        have hn : (s.length + 1) / 3 = o.length := by omega
        have hk' := pl.ok_ge _ hk
        have hg : pl.g1 c o.length s = some o := by
          obtain ⟨n, hn'⟩ : ∃ n, o.length = n + 1 := ⟨o.length - 1, by omega⟩
          rw [hn', pl.g1_m1 c hcn n s (by omega), ho]
        rw [hmac, hn, if_pos ⟨by omega, hk⟩, hg]
        obtain ⟨hF, hO⟩ := pl.formB2 c s o ho hk
        unfold pl.hw
        rcases hc with h | h
        · subst h; rw [hF, if_pos rfl, hO]; simp
        · subst h; rw [hoth 58 (by decide), hF, hO]; simp
      · have hmn : pl.mac s = none := by
          rw [hmac]
          by_cases hq : (s.length + 1) % 3 = 0 ∧ pl.ok ((s.length + 1) / 3) = true
          · rw [if_pos hq]
            obtain ⟨n, hn'⟩ : ∃ n, (s.length + 1) / 3 = n + 1 := ⟨(s.length + 1) / 3 - 1, by omega⟩
            rw [hn', pl.g1_m1 c hcn n s (by omega)]
            cases ho : pl.m1 c s with
            | none => rfl
            | some o =>
              have := pl.m1_len c s o ho
              exact absurd ⟨o, ho, by rw [show o.length = (s.length + 1) / 3 by omega]; exact hq.2⟩ hm
          · rw [if_neg hq]
        have hF : pl.formB c 2 s = false := pl.formB2_no c s fun o ho => by
          cases hk : pl.ok o.length with
          | false => rfl
          | true => exact absurd ⟨o, ho, hk⟩ hm
        have hall : pl.formB 58 2 s = false ∧ pl.formB 45 2 s = false := by
          rcases hc with h | h
          · subst h; exact ⟨hF, hoth 45 (by decide)⟩
          · subst h; exact ⟨hoth 58 (by decide), hF⟩
        unfold pl.hw
        rw [hall.1, hall.2, hf4, hx, hmn]
        simp
    · have hf58 : pl.formB 58 2 s = false := pl.formB2_no 58 s fun o ho => absurd (Or.inl (m1at 58 o ho).1) hc
      have hf45 : pl.formB 45 2 s = false := pl.formB2_no 45 s fun o ho => absurd (Or.inr (m1at 45 o ho).1) hc
      by_cases he : e = 46
      · have hx := hexF (Or.inr (by rw [he, h46]; rfl))
        have hmac : pl.mac s = if (s.length + 1) % 5 = 0 ∧ pl.ok (2 * (s.length + 1) / 5) = true then pl.g2 46 ((s.length + 1) / 5) s else none := by
          unfold pl.mac; rw [if_neg h12, g2, g4, if_neg hc, if_pos he]
        by_cases hm : ∃ o, pl.m2 46 s = some o ∧ pl.ok o.length = true
        · obtain ⟨o, ho, hk⟩ := hm
          have hlen := pl.m2_len 46 s o ho
          have hk' := pl.ok_ge _ hk
          obtain ⟨n, hn'⟩ : ∃ n, (s.length + 1) / 5 = n + 1 := ⟨(s.length + 1) / 5 - 1, by omega⟩
          have h5 : (s.length + 1) % 5 = 0 := by omega
          rw [hmac, if_pos ⟨h5, by rw [show 2 * (s.length + 1) / 5 = o.length by omega]; exact hk⟩, hn', pl.g2_m2 46 h46 n s (by omega), ho]
          obtain ⟨hF, hO⟩ := pl.formB4 46 s o ho hk
          unfold pl.hw
          rw [hf58, hf45, hF, hO]; simp
        · have hmn : pl.mac s = none := by
            rw [hmac]
            by_cases hq : (s.length + 1) % 5 = 0 ∧ pl.ok (2 * (s.length + 1) / 5) = true
            · rw [if_pos hq]
              obtain ⟨n, hn'⟩ : ∃ n, (s.length + 1) / 5 = n + 1 := ⟨(s.length + 1) / 5 - 1, by omega⟩
              rw [hn', pl.g2_m2 46 h46 n s (by omega)]
              cases ho : pl.m2 46 s with
              | none => rfl
              | some o =>
                have := pl.m2_len 46 s o ho
                exact absurd ⟨o, ho, by rw [show o.length = 2 * (s.length + 1) / 5 by omega]; exact hq.2⟩ hm
            · rw [if_neg hq]
          have hF : pl.formB 46 4 s = false := pl.formB4_no 46 s fun o ho => by
            cases hk : pl.ok o.length with
            | false => rfl
            | true => exact absurd ⟨o, ho, hk⟩ hm
          unfold pl.hw
          rw [hf58, hf45, hF, hx, hmn]
          simp
      · have hF : pl.formB 46 4 s = false := pl.formB4_no 46 s fun o ho => absurd (m2at 46 o ho).1 he
        have hmac : pl.mac s = if s.length % 2 = 0 ∧ pl.ok (s.length / 2) = true then pl.g3 (s.length / 2) s else none := by
          unfold pl.mac; rw [if_neg h12, g2, g4, if_neg hc, if_neg he]
        unfold pl.hw
        rw [hf58, hf45, hF, hmac]
        by_cases h2 : s.length % 2 = 0
        · have hg : pl.g3 (s.length / 2) s = pl.prs s := pl.g3_prs _ s (by omega)
          rw [hg]
          cases hp : pl.prs s with
          | none => simp [pl.hexes, hp]
          | some o =>
            have hlen := pl.prs_len s o hp
            have hh : pl.hexes s = (o, true) := by simp [pl.hexes, hp, h2]
            rw [hh, ← hlen]
            rcases pl.ok_cases o.length with ⟨hk, h | h | h⟩ | ⟨hk, n6, n8, n20⟩
            · have h6 : pl.ok 6 = true := rfl
              simp [h2, h, h6]
            · simp [h]
            · simp [h]
            · simp [hk, n6, n8, n20]
        · have hh : (pl.hexes s).2 = false := by simp [pl.hexes, h2]
          have hmn : (if s.length % 2 = 0 ∧ pl.ok (s.length / 2) = true then pl.g3 (s.length / 2) s else none) = none := if_neg (fun h => h2 h.1)
          rw [hmn, hh]
          simp

end Go.Proofs.Ytabeklpllphiaaa
