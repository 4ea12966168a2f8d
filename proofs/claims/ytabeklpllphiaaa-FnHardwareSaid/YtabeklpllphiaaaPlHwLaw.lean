/-
  PLAIN: the package reads an address of hardware as the reference does.
-/
import Derived.Test.YtabeklpllphiaaaPlHw
import Derived.Test.YtabeklpllphiaaaPlIsN
namespace Go.Proofs.Ytabeklpllphiaaa

def pl.fine (long : Nat) (p : List UInt8) : Bool := (pl.hexes p).2 && p.length == long
/-- one form of the reference: all parts fine, and so many bytes -/
def pl.allB (c : UInt8) (long : Nat) (s : List UInt8) : Bool := pl.has s [c] && (pl.split c.toNat s).all (pl.fine long)
def pl.outB (c : UInt8) (s : List UInt8) : List UInt8 := (pl.split c.toNat s).flatMap (fun p => (pl.hexes p).1)
def pl.formB (c : UInt8) (long : Nat) (s : List UInt8) : Bool := pl.allB c long s && pl.ok (pl.outB c s).length

/-- the reference's Hardware -/
def pl.hw (s : List UInt8) : List UInt8 × Bool × Bool :=
  if pl.formB 58 2 s then (pl.outB 58 s, true, true)
  else if pl.formB 45 2 s then (pl.outB 45 s, true, true)
  else if pl.formB 46 4 s then (pl.outB 46 s, true, true)
  else if (pl.hexes s).2 && (pl.hexes s).1.length == 6 then ((pl.hexes s).1, true, true)
  else ([], false, !(pl.hexes s).2 || ((pl.hexes s).1.length != 8 && (pl.hexes s).1.length != 20))

theorem pl.stepS_is (c b : UInt8) (x : List (List UInt8) × List UInt8) : pl.stepS c.toNat x b = if b = c then (x.1 ++ [x.2], []) else (x.1, x.2 ++ [b]) := by
  unfold pl.stepS pl.isB
  by_cases h : b = c
  · rw [if_pos h, h, if_pos (by simp)]
  · rw [if_neg h, if_neg]
    rw [beq_iff_eq]
    intro e
    exact h (UInt8.toNat_inj.1 (by omega))

/-- the parts, from the front -/
def pl.spl (c : UInt8) : List UInt8 → List (List UInt8)
  | [] => [[]]
  | b :: t => if b = c then [] :: pl.spl c t else match pl.spl c t with
    | [] => [[b]]
    | p :: ps => (b :: p) :: ps

theorem pl.spl_ne (c : UInt8) (l : List UInt8) : ∃ p ps, pl.spl c l = p :: ps := by
  cases l with
  | nil => exact ⟨_, _, rfl⟩
  | cons b t =>
    rw [pl.spl]
    by_cases h : b = c
    · rw [if_pos h]; exact ⟨_, _, rfl⟩
    · rw [if_neg h]
      cases pl.spl c t with
      | nil => exact ⟨_, _, rfl⟩
      | cons p ps => exact ⟨_, _, rfl⟩

theorem pl.fold_spl (c : UInt8) (l : List UInt8) : ∀ A cur p ps, pl.spl c l = p :: ps → (l.foldl (pl.stepS c.toNat) (A, cur)).1 ++ [(l.foldl (pl.stepS c.toNat) (A, cur)).2] = A ++ (cur ++ p) :: ps := by
  induction l with
  | nil =>
    intro A cur p ps h
    rw [pl.spl] at h
    injection h with h1 h2
    subst h1; subst h2
    simp
  | cons b t ih =>
    intro A cur p ps h
    obtain ⟨q, qs, hq⟩ := pl.spl_ne c t
    rw [List.foldl_cons, pl.stepS_is]
    rw [pl.spl, hq] at h
    by_cases hb : b = c
    · rw [if_pos hb] at h ⊢
      injection h with h1 h2
      subst h1; subst h2
      rw [ih _ _ q qs hq]
      simp
    · rw [if_neg hb] at h ⊢
      simp only [] at h
      injection h with h1 h2
      subst h1; subst h2
      rw [ih _ _ q qs hq]
      simp

theorem pl.split_spl (c : UInt8) (l : List UInt8) : pl.split c.toNat l = pl.spl c l := by
  obtain ⟨p, ps, h⟩ := pl.spl_ne c l
  have := pl.fold_spl c l [] [] p ps h
  rw [h]
  unfold pl.split pl.runS
  rw [this]
  simp

theorem pl.spl_hit (c : UInt8) (t : List UInt8) : pl.spl c (c :: t) = [] :: pl.spl c t := by rw [pl.spl, if_pos rfl]
theorem pl.spl_miss (c b : UInt8) (t p : List UInt8) (ps : List (List UInt8)) (h : b ≠ c) (ht : pl.spl c t = p :: ps) : pl.spl c (b :: t) = (b :: p) :: ps := by rw [pl.spl, if_neg h, ht]

theorem pl.hexes_pair (a b : UInt8) : pl.hexes [a, b] = ((pl.pair a b).elim [] (fun u => [u]), (pl.pair a b).isSome) := by
  unfold pl.hexes
  cases h : pl.pair a b with
  | none => simp [pl.prs, h]
  | some u => simp [pl.prs, h]

/-- groups of two, as one walks over them -/
def pl.m1 (c : UInt8) : List UInt8 → Option (List UInt8)
  | [a, b] => if a = c ∨ b = c then none else (pl.pair a b).map fun u => [u]
  | a :: b :: d :: t => if a = c ∨ b = c ∨ d ≠ c then none else (pl.pair a b).bind fun u => (pl.m1 c t).map (u :: ·)
  | _ => none

theorem pl.fine2 (p : List UInt8) (h : p.length ≠ 2) : pl.fine 2 p = false := by
  unfold pl.fine; simp [h]

theorem pl.m1_spl (c : UInt8) : ∀ s : List UInt8, pl.m1 c s = if (pl.spl c s).all (pl.fine 2) then some ((pl.spl c s).flatMap (fun p => (pl.hexes p).1)) else none
  | [] => by simp [pl.m1, pl.spl, pl.fine2]
  | [a] => by
    by_cases h : a = c
    · subst h; simp [pl.m1, pl.spl, pl.fine2]
    · simp [pl.m1, pl.spl, pl.fine2, h]
  | [a, b] => by
    by_cases h : a = c
    · subst h; rw [pl.spl_hit]; simp [pl.m1, pl.fine2]
    by_cases h2 : b = c
    · subst h2; rw [pl.spl_miss _ a _ _ _ h (pl.spl_hit b [])]; simp [pl.m1, pl.fine2]
    · have e : pl.spl c [a, b] = [[a, b]] := pl.spl_miss c a [b] [b] [] h (pl.spl_miss c b [] [] [] h2 rfl)
      rw [e, pl.m1, if_neg (by simp [h, h2])]
      simp only [List.all_cons, List.all_nil, Bool.and_true, List.flatMap_cons, List.flatMap_nil, List.append_nil, pl.fine, pl.hexes_pair]
      cases pl.pair a b <;> simp
  | a :: b :: d :: t => by
    by_cases h : a = c
    · subst h; rw [pl.spl_hit]; simp [pl.m1, pl.fine2]
    by_cases h2 : b = c
    · subst h2; rw [pl.spl_miss _ a _ _ _ h (pl.spl_hit b (d :: t))]; simp [pl.m1, pl.fine2]
    by_cases h3 : d = c
    · subst h3
      have e : pl.spl d (a :: b :: d :: t) = [a, b] :: pl.spl d t := pl.spl_miss d a _ [b] _ h (pl.spl_miss d b _ [] _ h2 (pl.spl_hit d t))
      rw [e, pl.m1, if_neg (by simp [h, h2]), pl.m1_spl d t]
      simp only [List.all_cons, List.flatMap_cons, pl.fine, pl.hexes_pair]
      cases pl.pair a b with
      | none => simp
      | some u =>
        simp only [Option.bind_some, Option.isSome_some, List.length_cons, List.length_nil, Option.elim_some]
        by_cases hh : (pl.spl d t).all (pl.fine 2)
        · simp [hh]
        · simp [hh]
    · obtain ⟨p, ps, hp⟩ := pl.spl_ne c t
      have e : pl.spl c (a :: b :: d :: t) = (a :: b :: d :: p) :: ps := pl.spl_miss c a _ _ _ h (pl.spl_miss c b _ _ _ h2 (pl.spl_miss c d _ _ _ h3 hp))
      rw [e, pl.m1, if_pos (Or.inr (Or.inr h3))]
      simp [pl.fine2]

theorem pl.pair_nohex (a b : UInt8) (u : UInt8) (h : pl.pair a b = some u) : (pl.hexv a).isSome = true ∧ (pl.hexv b).isSome = true := by
  unfold pl.pair at h
  cases ha : pl.hexv a <;> cases hb : pl.hexv b <;> simp [ha, hb] at h ⊢

theorem pl.g1_m1 (c : UInt8) (hc : pl.hexv c = none) : ∀ (n : Nat) (s : List UInt8), s.length + 1 = 3 * (n + 1) → pl.g1 c (n + 1) s = pl.m1 c s
  | n + 1, [_, _, _], hl => by simp at hl; omega
  | 0, [a, b], _ => by
    rw [pl.g1, pl.x2, pl.m1]
    by_cases h : a = c ∨ b = c
    · rw [if_pos h]
      cases hp : pl.pair a b with
      | none => rfl
      | some u =>
        have := pl.pair_nohex a b u hp
        rcases h with h | h <;> subst h <;> rw [hc] at this <;> simp at this
    · rw [if_neg h]
      cases pl.pair a b <;> simp [pl.g1]
  | n + 1, a :: b :: d :: t, hl => by
    have hl' : t.length + 1 = 3 * (n + 1) := by simp only [List.length_cons] at hl; omega
    have e : pl.m1 c (a :: b :: d :: t) = if a = c ∨ b = c ∨ d ≠ c then none else (pl.pair a b).bind fun u => (pl.m1 c t).map (u :: ·) := by rw [pl.m1]
    rw [pl.g1, pl.x2, e]
    by_cases hd : d = c
    · rw [if_pos hd, show (a :: b :: d :: t).drop 3 = t from rfl, pl.g1_m1 c hc n t hl']
      by_cases h : a = c ∨ b = c
      · rw [if_pos (by rcases h with h | h <;> simp [h])]
        cases hp : pl.pair a b with
        | none => rfl
        | some u =>
          have := pl.pair_nohex a b u hp
          rcases h with h | h <;> subst h <;> rw [hc] at this <;> simp at this
      · rw [if_neg (by rcases not_or.1 h with ⟨h1, h2⟩; simp [h1, h2, hd])]
    · rw [if_neg hd, if_pos (Or.inr (Or.inr hd))]; rfl
  | 0, [], hl => by simp at hl
  | 0, [_], hl => by simp at hl
  | 0, _ :: _ :: _ :: _, hl => by simp only [List.length_cons] at hl; omega
  | n + 1, [], hl => by simp at hl; omega
  | n + 1, [_], hl => by simp at hl; omega
  | n + 1, [_, _], hl => by simp at hl; omega

theorem pl.m1_len (c : UInt8) : ∀ (s o : List UInt8), pl.m1 c s = some o → s.length + 1 = 3 * o.length
  | [], o, h => by simp [pl.m1] at h
  | [_], o, h => by simp [pl.m1] at h
  | [a, b], o, h => by
    rw [pl.m1] at h
    split at h
    · cases h
    · cases hp : pl.pair a b with
      | none => rw [hp] at h; cases h
      | some u => rw [hp] at h; injection h with h; subst h; rfl
  | a :: b :: d :: t, o, h => by
    rw [pl.m1] at h
    split at h
    · cases h
    · cases hp : pl.pair a b with
      | none => rw [hp] at h; cases h
      | some u =>
        rw [hp, Option.bind_some] at h
        cases hr : pl.m1 c t with
        | none => rw [hr] at h; cases h
        | some r =>
          rw [hr, Option.map_some] at h
          injection h with h
          subst h
          have := pl.m1_len c t r hr
          simp only [List.length_cons]
          omega

theorem pl.m1_at2 (c : UInt8) (a b d : UInt8) (t o : List UInt8) (h : pl.m1 c (a :: b :: d :: t) = some o) : d = c ∧ (pl.hexv a).isSome = true := by
  rw [pl.m1] at h
  split at h
  · cases h
  · rename_i hn
    refine ⟨Classical.byContradiction fun hd => hn (Or.inr (Or.inr hd)), ?_⟩
    cases hp : pl.pair a b with
    | none => rw [hp] at h; cases h
    | some u => exact (pl.pair_nohex a b u hp).1

theorem pl.fineN (long : Nat) (p : List UInt8) (h : p.length ≠ long) : pl.fine long p = false := by
  unfold pl.fine; simp [h]

theorem pl.hexes_four (a b d e : UInt8) : pl.hexes [a, b, d, e] = (((pl.pair a b).bind fun u => (pl.pair d e).map fun v => [u, v]).getD [], ((pl.pair a b).bind fun u => (pl.pair d e).map fun v => [u, v]).isSome) := by
  unfold pl.hexes
  cases h : pl.pair a b with
  | none => simp [pl.prs, h]
  | some u => cases h2 : pl.pair d e <;> simp [pl.prs, h, h2]

/-- groups of four -/
def pl.m2 (c : UInt8) : List UInt8 → Option (List UInt8)
  | [a, b, d, e] => if a = c ∨ b = c ∨ d = c ∨ e = c then none else (pl.pair a b).bind fun u => (pl.pair d e).map fun v => [u, v]
  | a :: b :: d :: e :: f :: t => if a = c ∨ b = c ∨ d = c ∨ e = c ∨ f ≠ c then none else (pl.pair a b).bind fun u => (pl.pair d e).bind fun v => (pl.m2 c t).map (fun r => u :: v :: r)
  | _ => none

theorem pl.m2_spl (c : UInt8) : ∀ s : List UInt8, pl.m2 c s = if (pl.spl c s).all (pl.fine 4) then some ((pl.spl c s).flatMap (fun p => (pl.hexes p).1)) else none
  | [] => by simp [pl.m2, pl.spl, pl.fineN]
  | [a] => by
    by_cases h : a = c
    · subst h; simp [pl.m2, pl.spl, pl.fineN]
    · simp [pl.m2, pl.spl, pl.fineN, h]
  | [a, b] => by
    by_cases h : a = c
    · subst h; rw [pl.spl_hit]; simp [pl.m2, pl.fineN]
    by_cases h2 : b = c
    · subst h2; rw [pl.spl_miss _ a _ _ _ h (pl.spl_hit b [])]; simp [pl.m2, pl.fineN]
    · rw [pl.spl_miss c a [b] [b] [] h (pl.spl_miss c b [] [] [] h2 rfl)]; simp [pl.m2, pl.fineN]
  | [a, b, d] => by
    by_cases h : a = c
    · subst h; rw [pl.spl_hit]; simp [pl.m2, pl.fineN]
    by_cases h2 : b = c
    · subst h2; rw [pl.spl_miss _ a _ _ _ h (pl.spl_hit b [d])]; simp [pl.m2, pl.fineN]
    by_cases h3 : d = c
    · subst h3; rw [pl.spl_miss _ a _ _ _ h (pl.spl_miss _ b _ _ _ h2 (pl.spl_hit d []))]; simp [pl.m2, pl.fineN]
    · rw [pl.spl_miss c a _ _ _ h (pl.spl_miss c b _ _ _ h2 (pl.spl_miss c d [] [] [] h3 rfl))]; simp [pl.m2, pl.fineN]
  | [a, b, d, e] => by
    by_cases h : a = c
    · subst h; rw [pl.spl_hit]; simp [pl.m2, pl.fineN]
    by_cases h2 : b = c
    · subst h2; rw [pl.spl_miss _ a _ _ _ h (pl.spl_hit b [d, e])]; simp [pl.m2, pl.fineN]
    by_cases h3 : d = c
    · subst h3; rw [pl.spl_miss _ a _ _ _ h (pl.spl_miss _ b _ _ _ h2 (pl.spl_hit d [e]))]; simp [pl.m2, pl.fineN]
    by_cases h4 : e = c
    · subst h4; rw [pl.spl_miss _ a _ _ _ h (pl.spl_miss _ b _ _ _ h2 (pl.spl_miss _ d _ _ _ h3 (pl.spl_hit e [])))]; simp [pl.m2, pl.fineN]
    · rw [pl.spl_miss c a _ _ _ h (pl.spl_miss c b _ _ _ h2 (pl.spl_miss c d _ _ _ h3 (pl.spl_miss c e [] [] [] h4 rfl))), pl.m2, if_neg (by simp [h, h2, h3, h4])]
      simp only [List.all_cons, List.all_nil, Bool.and_true, List.flatMap_cons, List.flatMap_nil, List.append_nil, pl.fine, pl.hexes_four]
      cases pl.pair a b <;> cases pl.pair d e <;> simp
  | a :: b :: d :: e :: f :: t => by
    by_cases h : a = c
    · subst h; rw [pl.spl_hit]; simp [pl.m2, pl.fineN]
    by_cases h2 : b = c
    · subst h2; rw [pl.spl_miss _ a _ _ _ h (pl.spl_hit b (d :: e :: f :: t))]; simp [pl.m2, pl.fineN]
    by_cases h3 : d = c
    · subst h3; rw [pl.spl_miss _ a _ _ _ h (pl.spl_miss _ b _ _ _ h2 (pl.spl_hit d (e :: f :: t)))]; simp [pl.m2, pl.fineN]
    by_cases h4 : e = c
    · subst h4; rw [pl.spl_miss _ a _ _ _ h (pl.spl_miss _ b _ _ _ h2 (pl.spl_miss _ d _ _ _ h3 (pl.spl_hit e (f :: t))))]; simp [pl.m2, pl.fineN]
    by_cases h5 : f = c
    · subst h5
      rw [pl.spl_miss f a _ _ _ h (pl.spl_miss f b _ _ _ h2 (pl.spl_miss f d _ _ _ h3 (pl.spl_miss f e _ [] _ h4 (pl.spl_hit f t)))), pl.m2, if_neg (by simp [h, h2, h3, h4]), pl.m2_spl f t]
      simp only [List.all_cons, List.flatMap_cons, pl.fine, pl.hexes_four]
      cases pl.pair a b with
      | none => simp
      | some u =>
        cases pl.pair d e with
        | none => simp
        | some v =>
          by_cases hh : (pl.spl f t).all (pl.fine 4)
          · simp [hh]
          · simp [hh]
    · obtain ⟨p, ps, hp⟩ := pl.spl_ne c t
      rw [pl.spl_miss c a _ _ _ h (pl.spl_miss c b _ _ _ h2 (pl.spl_miss c d _ _ _ h3 (pl.spl_miss c e _ _ _ h4 (pl.spl_miss c f _ _ _ h5 hp)))), pl.m2, if_pos (Or.inr (Or.inr (Or.inr (Or.inr h5))))]
      simp [pl.fineN]

theorem pl.pair_no (a b c : UInt8) (hc : pl.hexv c = none) (h : a = c ∨ b = c) : pl.pair a b = none := by
  cases hp : pl.pair a b with
  | none => rfl
  | some u =>
    have := pl.pair_nohex a b u hp
    rcases h with h | h <;> subst h <;> rw [hc] at this <;> simp at this

theorem pl.g2_m2 (c : UInt8) (hc : pl.hexv c = none) : ∀ (n : Nat) (s : List UInt8), s.length + 1 = 5 * (n + 1) → pl.g2 c (n + 1) s = pl.m2 c s
  | 0, [a, b, d, e], _ => by
    rw [pl.g2, show ([a, b, d, e] : List UInt8).take 2 = [a, b] from rfl, show ([a, b, d, e] : List UInt8).drop 2 = [d, e] from rfl, pl.x2, pl.x2, pl.m2]
    by_cases h : a = c ∨ b = c ∨ d = c ∨ e = c
    · rw [if_pos h]
      rcases h with h | h | h | h
      · rw [pl.pair_no a b c hc (Or.inl h)]; rfl
      · rw [pl.pair_no a b c hc (Or.inr h)]; rfl
      · rw [pl.pair_no d e c hc (Or.inl h)]; cases pl.pair a b <;> rfl
      · rw [pl.pair_no d e c hc (Or.inr h)]; cases pl.pair a b <;> rfl
    · rw [if_neg h]
      cases pl.pair a b <;> cases pl.pair d e <;> simp [pl.g2]
  | n + 1, a :: b :: d :: e :: f :: t, hl => by
    have hl' : t.length + 1 = 5 * (n + 1) := by simp only [List.length_cons] at hl; omega
    have e0 : pl.m2 c (a :: b :: d :: e :: f :: t) = if a = c ∨ b = c ∨ d = c ∨ e = c ∨ f ≠ c then none else (pl.pair a b).bind fun u => (pl.pair d e).bind fun v => (pl.m2 c t).map (fun r => u :: v :: r) := by rw [pl.m2]
    rw [pl.g2, show (a :: b :: d :: e :: f :: t).take 2 = [a, b] from rfl, show (a :: b :: d :: e :: f :: t).drop 2 = d :: e :: f :: t from rfl, show (a :: b :: d :: e :: f :: t).drop 5 = t from rfl, pl.x2, pl.x2, e0]
    by_cases hf : f = c
    · rw [if_pos hf, pl.g2_m2 c hc n t hl']
      by_cases h : a = c ∨ b = c ∨ d = c ∨ e = c
      · rw [if_pos (by rcases h with h | h | h | h <;> simp [h])]
        rcases h with h | h | h | h
        · rw [pl.pair_no a b c hc (Or.inl h)]; rfl
        · rw [pl.pair_no a b c hc (Or.inr h)]; rfl
        · rw [pl.pair_no d e c hc (Or.inl h)]; cases pl.pair a b <;> rfl
        · rw [pl.pair_no d e c hc (Or.inr h)]; cases pl.pair a b <;> rfl
      · rw [if_neg (by intro h'; rcases h' with h' | h' | h' | h' | h' <;> first | exact h' hf | exact h (by simp [h']))]
    · rw [if_neg hf, if_pos (Or.inr (Or.inr (Or.inr (Or.inr hf))))]
      cases pl.pair a b <;> rfl
  | 0, [], hl => by simp at hl
  | 0, [_], hl => by simp at hl
  | 0, [_, _], hl => by simp at hl
  | 0, [_, _, _], hl => by simp at hl
  | 0, _ :: _ :: _ :: _ :: _ :: _, hl => by simp only [List.length_cons] at hl; omega
  | n + 1, [], hl => by simp at hl; omega
  | n + 1, [_], hl => by simp at hl; omega
  | n + 1, [_, _], hl => by simp at hl; omega
  | n + 1, [_, _, _], hl => by simp at hl; omega
  | n + 1, [_, _, _, _], hl => by simp at hl; omega

theorem pl.m2_len (c : UInt8) : ∀ (s o : List UInt8), pl.m2 c s = some o → 2 * (s.length + 1) = 5 * o.length
  | [], o, h => by simp [pl.m2] at h
  | [_], o, h => by simp [pl.m2] at h
  | [_, _], o, h => by simp [pl.m2] at h
  | [_, _, _], o, h => by simp [pl.m2] at h
  | [a, b, d, e], o, h => by
    rw [pl.m2] at h
    split at h
    · cases h
    · cases hp : pl.pair a b <;> cases hq : pl.pair d e <;> rw [hp, hq] at h <;> simp at h
      subst h; rfl
  | a :: b :: d :: e :: f :: t, o, h => by
    rw [pl.m2] at h
    split at h
    · cases h
    · cases hr : pl.m2 c t with
      | none => rw [hr] at h; cases hp : pl.pair a b <;> cases hq : pl.pair d e <;> rw [hp, hq] at h <;> simp at h
      | some r =>
        have := pl.m2_len c t r hr
        cases hp : pl.pair a b <;> cases hq : pl.pair d e <;> rw [hp, hq, hr] at h <;> simp at h
        subst h
        simp only [List.length_cons]
        omega

theorem pl.m2_at (c : UInt8) (a b d e f : UInt8) (t o : List UInt8) (h : pl.m2 c (a :: b :: d :: e :: f :: t) = some o) : f = c ∧ (pl.hexv d).isSome = true := by
  rw [pl.m2] at h
  split at h
  · cases h
  · rename_i hn
    refine ⟨Classical.byContradiction fun hd => hn (Or.inr (Or.inr (Or.inr (Or.inr hd)))), ?_⟩
    cases hp : pl.pair a b with
    | none => rw [hp] at h; cases h
    | some u =>
      cases hq : pl.pair d e with
      | none => rw [hp, hq] at h; cases h
      | some v => exact (pl.pair_nohex d e v hq).1

theorem pl.g3_prs : ∀ (n : Nat) (s : List UInt8), s.length = 2 * n → pl.g3 n s = pl.prs s
  | 0, [], _ => rfl
  | n + 1, a :: b :: t, hl => by
    have hl' : t.length = 2 * n := by simp only [List.length_cons] at hl; omega
    rw [pl.g3, show (a :: b :: t).take 2 = [a, b] from rfl, show (a :: b :: t).drop 2 = t from rfl, pl.x2, pl.g3_prs n t hl', pl.prs]
  | 0, _ :: _, hl => by simp at hl
  | n + 1, [], hl => by simp at hl
  | n + 1, [_], hl => by simp at hl; omega

end Go.Proofs.Ytabeklpllphiaaa
