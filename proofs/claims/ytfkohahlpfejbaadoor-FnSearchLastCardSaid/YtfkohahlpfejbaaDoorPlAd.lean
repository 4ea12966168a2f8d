/-
  PLAIN: the bytes of an address (out of PlHosts).
-/
import Derived.Test.YtfkohahlpfejbaaDoorLn
namespace Go.Proofs.YtfkohahlpfejbaaDoor
open Go.RowKit

/-! ### the bytes of an address -/
def pl.adB (b : UInt8) : Prop := pl.isHex b = true ∨ b.toNat = 46 ∨ b.toNat = 58

theorem pl.runS_mem (c : Int) (l : List UInt8) : ∀ b ∈ l, pl.isB c b = true ∨ (∃ p ∈ (pl.runS c l).1, b ∈ p) ∨ b ∈ (pl.runS c l).2 := by
  refine pl.snoc_ind (P := fun l => ∀ b ∈ l, pl.isB c b = true ∨ (∃ p ∈ (pl.runS c l).1, b ∈ p) ∨ b ∈ (pl.runS c l).2) (by intro b hb; cases hb) ?_ l
  intro l x ih b hb
  rw [pl.runS_snoc, pl.stepS]
  rcases List.mem_append.1 hb with hb | hb
  · rcases ih b hb with h | ⟨p, hp, h⟩ | h
    · exact .inl h
    · right; left
      split
      · exact ⟨p, List.mem_append_left _ hp, h⟩
      · exact ⟨p, hp, h⟩
    · split
      · right; left; exact ⟨_, List.mem_append_right _ (List.mem_singleton_self _), h⟩
      · right; right; exact List.mem_append_left _ h
  · rw [List.mem_singleton] at hb
    subst hb
    by_cases hc : pl.isB c b = true
    · exact .inl hc
    · rw [if_neg hc]
      right; right; exact List.mem_append_right _ (List.mem_singleton_self _)
theorem pl.split_mem (c : Int) (l : List UInt8) (b : UInt8) (hb : b ∈ l) : pl.isB c b = true ∨ ∃ p ∈ pl.split c l, b ∈ p := by
  rcases pl.runS_mem c l b hb with h | ⟨p, hp, h⟩ | h
  · exact .inl h
  · exact .inr ⟨p, List.mem_append_left _ hp, h⟩
  · exact .inr ⟨_, List.mem_append_right _ (List.mem_singleton_self _), h⟩
theorem pl.dg_ad (b : UInt8) (h : pl.dg b = true) : pl.adB b := by
  left
  have := (pl.dg_int b).1 h
  unfold pl.isHex pl.hexv
  rw [if_pos (by omega)]
  rfl
theorem pl.octs_mem : ∀ (ps : List (List UInt8)) (l : List UInt8), pl.octs ps = some l → ∀ p ∈ ps, p.all pl.dg = true
  | [], _, _, p, hp => by cases hp
  | q :: r, l, h, p, hp => by
    unfold pl.octs at h
    cases ho : pl.oct q with
    | none => rw [ho] at h; cases h
    | some a =>
      cases hr : pl.octs r with
      | none => rw [ho, hr] at h; cases h
      | some b =>
        rcases List.mem_cons.1 hp with rfl | hp
        · unfold pl.oct at ho
          cases hd : pl.decimal p with
          | none => rw [hd] at ho; cases ho
          | some n =>
            unfold pl.decimal at hd
            split at hd
            · rename_i hc; exact hc.1
            · cases hd
        · exact pl.octs_mem r b hr p hp
theorem pl.four_ad (s b : List UInt8) (h : pl.four s = some b) : ∀ x ∈ s, pl.adB x := fun x hx => by
  unfold pl.four at h
  cases ho : pl.octs (pl.split 46 s) with
  | none => rw [ho] at h; cases h
  | some l =>
    rcases pl.split_mem 46 s x hx with h1 | ⟨p, hp, h1⟩
    · right; left
      unfold pl.isB at h1
      have := beq_iff_eq.1 h1
      omega
    · have h2 := pl.octs_mem _ _ ho p hp
      rw [List.all_eq_true] at h2
      exact pl.dg_ad x (h2 x h1)
theorem pl.hexG_ad (p b : List UInt8) (h : pl.hexG p = some b) : ∀ x ∈ p, pl.adB x := fun x hx => by
  unfold pl.hexG at h
  split at h
  · rename_i hc
    have := hc.1
    rw [List.all_eq_true] at this
    exact .inl (this x hx)
  · cases h
theorem pl.grps_ad (last : Bool) : ∀ (ps : List (List UInt8)) (b : List UInt8), pl.grps last ps = some b → ∀ p ∈ ps, ∀ x ∈ p, pl.adB x
  | [], _, _, p, hp, _, _ => by cases hp
  | [q], b, h, p, hp, x, hx => by
    rw [List.mem_singleton] at hp
    subst hp
    unfold pl.grps at h
    cases last with
    | false => exact pl.hexG_ad p b h x hx
    | true =>
      rw [if_pos rfl] at h
      cases hf : pl.four p with
      | some l => exact pl.four_ad p l hf x hx
      | none => rw [hf] at h; exact pl.hexG_ad p b h x hx
  | q :: q2 :: r, b, h, p, hp, x, hx => by
    unfold pl.grps at h
    cases hq : pl.hexG q with
    | none => rw [hq] at h; cases h
    | some a =>
      cases hr : pl.grps last (q2 :: r) with
      | none => rw [hq, hr] at h; cases h
      | some c =>
        rcases List.mem_cons.1 hp with rfl | hp
        · exact pl.hexG_ad p a hq x hx
        · exact pl.grps_ad last (q2 :: r) c hr p hp x hx
theorem pl.groups_ad (s b : List UInt8) (last : Bool) (h : pl.groups s last = some b) : ∀ x ∈ s, pl.adB x := fun x hx => by
  unfold pl.groups at h
  split at h
  · rename_i hs; rw [hs] at hx; cases hx
  · rcases pl.split_mem 58 s x hx with h1 | ⟨p, hp, h1⟩
    · right; right
      unfold pl.isB at h1
      have := beq_iff_eq.1 h1
      omega
    · exact pl.grps_ad last _ _ h p hp x h1
theorem pl.dd_bytes : ∀ (s : List UInt8) (k : Nat), pl.dd s = some k → ∀ x ∈ s, x ∈ s.take k ∨ x = 58 ∨ x ∈ s.drop (k + 2)
  | [], k, h, x, hx => by cases hx
  | [a], k, h, x, hx => by simp [pl.dd] at h
  | a :: b :: r, k, h, x, hx => by
    unfold pl.dd at h
    split at h
    · rename_i hc
      injection h with h
      subst h
      rcases List.mem_cons.1 hx with rfl | hx
      · exact .inr (.inl hc.1)
      · rcases List.mem_cons.1 hx with rfl | hx
        · exact .inr (.inl hc.2)
        · exact .inr (.inr (by simpa using hx))
    · cases hd : pl.dd (b :: r) with
      | none => rw [hd] at h; cases h
      | some j =>
        rw [hd] at h
        injection h with h
        subst h
        rcases List.mem_cons.1 hx with rfl | hx
        · exact .inl (by simp)
        · rcases pl.dd_bytes (b :: r) j hd x hx with h1 | h1 | h1
          · exact .inl (by rw [List.take_succ_cons]; exact List.mem_cons_of_mem _ h1)
          · exact .inr (.inl h1)
          · exact .inr (.inr (by simpa using h1))
theorem pl.addr_ad (s b : List UInt8) (h : pl.addr s = some b) : ∀ x ∈ s, pl.adB x := fun x hx => by
  unfold pl.addr at h
  cases hf : pl.four s with
  | some l => exact pl.four_ad s l hf x hx
  | none =>
    rw [hf] at h
    cases hd : pl.dd s with
    | none =>
      rw [hd] at h
      simp only at h
      cases hg : pl.groups s true with
      | none => rw [hg] at h; cases h
      | some l => exact pl.groups_ad s l true hg x hx
    | some k =>
      rw [hd] at h
      simp only at h
      cases h1 : pl.groups (s.take k) false with
      | none => rw [h1] at h; cases h
      | some l1 =>
        cases h2 : pl.groups (s.drop (k + 2)) true with
        | none => rw [h1, h2] at h; cases h
        | some l2 =>
          rcases pl.dd_bytes s k hd x hx with h3 | h3 | h3
          · exact pl.groups_ad _ _ _ h1 x h3
          · subst h3; exact .inr (.inr rfl)
          · exact pl.groups_ad _ _ _ h2 x h3

/-- a byte that is no space, no line end, no number sign, no percent sign -/
def pl.inB (b : UInt8) : Prop := b.toNat ≠ 32 ∧ b.toNat ≠ 13 ∧ b.toNat ≠ 9 ∧ b.toNat ≠ 10 ∧ b.toNat ≠ 35 ∧ b.toNat ≠ 37
theorem pl.ad_in (b : UInt8) (h : pl.adB b) : pl.inB b := by
  unfold pl.inB
  rcases h with h | h | h
  · unfold pl.isHex pl.hexv at h
    by_cases h1 : 48 ≤ b.toNat ∧ b.toNat ≤ 57
    · omega
    · by_cases h2 : 97 ≤ b.toNat ∧ b.toNat ≤ 102
      · omega
      · by_cases h3 : 65 ≤ b.toNat ∧ b.toNat ≤ 70
        · omega
        · rw [if_neg h1, if_neg h2, if_neg h3] at h; cases h
  · omega
  · omega
theorem pl.addr_ne (s b : List UInt8) (h : pl.addr s = some b) : s ≠ [] := by
  intro e
  subst e
  have : pl.addr [] = none := by decide
  rw [this] at h
  cases h

end Go.Proofs.YtfkohahlpfejbaaDoor
