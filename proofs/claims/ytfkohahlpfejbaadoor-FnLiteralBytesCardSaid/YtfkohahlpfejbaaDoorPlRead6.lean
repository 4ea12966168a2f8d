/-
  PLAIN: an address of IPv6: what is yet to be found.
-/
import Derived.Test.YtfkohahlpfejbaaDoorPlRead
namespace Go.Proofs.YtfkohahlpfejbaaDoor.pl

def grp (p : List UInt8) : List UInt8 := [UInt8.ofNat (hexV 0 p / 256), UInt8.ofNat (hexV 0 p)]
def fin6 (acc : List UInt8) : Option Nat → Option (List UInt8)
  | none => if acc.length = 16 then some acc else none
  | some e => if acc.length < 16 then some (acc.take e ++ List.replicate (16 - acc.length) 0 ++ acc.drop e) else none
def rest6 (acc : List UInt8) (ell : Option Nat) (s : List UInt8) : Option (List UInt8) :=
  match ell with
  | some e => match grps true (split 58 s) with
    | some b => fin6 (acc ++ b) (some e)
    | none => none
  | none => match dd s with
    | none => match grps true (split 58 s) with
      | some b => fin6 (acc ++ b) none
      | none => none
    | some k => match groups (s.take k) false, groups (s.drop (k + 2)) true with
      | some a, some b => fin6 (acc ++ a ++ b) (some (acc.length + a.length))
      | _, _ => none

/-! ### two colons -/
def noC (p : List UInt8) : Prop := ∀ x ∈ p, isB 58 x = false
theorem isC (x : UInt8) : isB 58 x = true ↔ x = 58 := by
  unfold isB
  rw [beq_iff_eq]
  constructor
  · intro h; exact UInt8.toNat_inj.1 (by simpa using (by omega : x.toNat = 58))
  · intro h; subst h; rfl
theorem isC' (x : UInt8) : isB 58 x = false ↔ x ≠ 58 := by
  rw [← Bool.not_eq_true, isC]
theorem dd_noC (p : List UInt8) (h : noC p) : dd p = none := by
  induction p with
  | nil => rfl
  | cons a p ih =>
    have ha := (isC' a).1 (h a (by simp))
    cases p with
    | nil => rfl
    | cons b r =>
      rw [dd, if_neg (fun e => ha e.1), ih (fun y hy => h y (by simp [hy]))]
      rfl
theorem dd_app (p r : List UInt8) (h : noC p) (hr : r.head? ≠ some 58) : dd (p ++ 58 :: r) = (dd r).map (· + (p.length + 1)) := by
  induction p with
  | nil =>
    cases r with
    | nil => rfl
    | cons b r =>
      have hb : ¬ ((58 : UInt8) = 58 ∧ b = 58) := fun e => hr (by simp [e.2])
      rw [List.nil_append, dd, if_neg hb]
      rfl
  | cons a p ih =>
    have ha := (isC' a).1 (h a (by simp))
    have ih := ih (fun y hy => h y (by simp [hy]))
    have e : dd (a :: (p ++ 58 :: r)) = (dd (p ++ 58 :: r)).map (· + 1) := by
      cases p with
      | nil => rw [List.nil_append, dd, if_neg (fun e => ha e.1)]
      | cons b t => rw [List.cons_append, dd, if_neg (fun e => ha e.1)]
    rw [List.cons_append, e, ih, Option.map_map]
    congr 1
theorem dd_two (p r : List UInt8) (h : noC p) : dd (p ++ 58 :: 58 :: r) = some p.length := by
  induction p with
  | nil => rw [List.nil_append, dd, if_pos ⟨rfl, rfl⟩]; rfl
  | cons a p ih =>
    have ha := (isC' a).1 (h a (by simp))
    have ih := ih (fun y hy => h y (by simp [hy]))
    have e : dd (a :: (p ++ 58 :: 58 :: r)) = (dd (p ++ 58 :: 58 :: r)).map (· + 1) := by
      cases p with
      | nil => rw [List.nil_append, dd, if_neg (fun e => ha e.1)]
      | cons b t => rw [List.cons_append, dd, if_neg (fun e => ha e.1)]
    rw [List.cons_append, e, ih]
    rfl
theorem dd_at : ∀ (s : List UInt8) (k : Nat), dd s = some k → ∃ a r, s = a ++ 58 :: 58 :: r ∧ a.length = k
  | [], k, h => by cases h
  | [_], k, h => by cases h
  | a :: b :: r, k, h => by
    rw [dd] at h
    split at h
    · rename_i hc
      injection h with h
      subst h
      exact ⟨[], r, by rw [hc.1, hc.2]; rfl, rfl⟩
    · cases hd : dd (b :: r) with
      | none => rw [hd] at h; cases h
      | some j =>
        rw [hd] at h
        injection h with h
        obtain ⟨x, y, e, hx⟩ := dd_at (b :: r) j hd
        exact ⟨a :: x, y, by rw [e]; rfl, by simp [hx, ← h]⟩

/-! ### parts that are none -/
theorem groups_ne (s : List UInt8) (last : Bool) (h : s ≠ []) : groups s last = grps last (split 58 s) := by unfold groups; rw [if_neg h]
theorem grps_head (last : Bool) (p : List UInt8) (t : List (List UInt8)) (hg : hexG p = none) (hf : t = [] → last = true → four p = none) : grps last (p :: t) = none := by
  cases t with
  | nil =>
    have h2 : (if last = true then four p else none) = none := by
      cases last with
      | false => rfl
      | true => rw [if_pos rfl]; exact hf rfl rfl
    simp only [grps, h2, hg]
  | cons q r => simp only [grps, hg]
theorem take_two (p a r x : List UInt8) (hp : noC p) (h : a ++ 58 :: 58 :: r = p ++ 58 :: x) (hne : p ≠ [] ∨ x.head? ≠ some 58) : a = p ∨ ∃ y, a = p ++ 58 :: y := by
  induction p generalizing a with
  | nil =>
    cases a with
    | nil => left; rfl
    | cons b a => simp at h; right; exact ⟨a, by rw [h.1]; rfl⟩
  | cons c p ih =>
    have hc := (isC' c).1 (hp c (by simp))
    cases a with
    | nil => simp at h; exact absurd h.1.symm hc
    | cons b a =>
      simp at h
      have hp' : noC p := fun y hy => hp y (by simp [hy])
      by_cases hp0 : p = [] ∧ x.head? = some 58
      · obtain ⟨rfl, hx⟩ := hp0
        cases a with
        | nil => left; rw [h.1]
        | cons d a => simp at h; right; exact ⟨a, by rw [h.1, h.2.1]; rfl⟩
      · rcases ih a hp' h.2 (by by_cases hq : p = []; exact .inr (fun e => hp0 ⟨hq, e⟩); exact .inl hq) with h2 | ⟨y, h2⟩
        · left; rw [h.1, h2]
        · right; exact ⟨y, by rw [h.1, h2]; rfl⟩

theorem rest6_bad (acc : List UInt8) (ell : Option Nat) (s p q : List UInt8) (t : List (List UInt8)) (hs : split 58 s = p :: t) (hp : noC p) (hq : (q = s ∧ q = p) ∨ ∃ x, s = p ++ 58 :: x) (hg : hexG p = none) (hf : t = [] → four p = none)
    (h0 : ell = none → ∀ x, s ≠ 58 :: 58 :: x) : rest6 acc ell s = none := by
  have hgt : grps true (split 58 s) = none := by rw [hs]; exact grps_head true p t hg (fun h _ => hf h)
  unfold rest6
  cases ell with
  | some e => simp only [hgt]
  | none =>
    simp only [hgt]
    cases hd : dd s with
    | none => rfl
    | some k =>
      obtain ⟨a, r, e, hk⟩ := dd_at s k hd
      have hta : s.take k = a := by rw [e, List.take_append_of_le_length (by omega), List.take_of_length_le (by omega)]
      have ha0 : a ≠ [] := by
        intro ha; subst ha
        exact h0 rfl r e
      have hgr : groups a false = none := by
        rw [groups_ne a false ha0]
        rcases hq with ⟨h1, h2⟩ | ⟨x, hx⟩
        · exfalso
          rw [← h2, h1, e] at hp
          have := hp 58 (by simp)
          simp [isB] at this
        · rcases take_two p a r x hp (by rw [← e, hx]) (by
            by_cases hp0 : p = []
            · right; intro hxx; subst hp0
              cases x with
              | nil => cases hxx
              | cons b x => simp at hxx; subst hxx; exact h0 rfl x hx
            · exact .inl hp0) with h2 | ⟨y, h2⟩
          · rw [h2, split_one 58 p hp]; exact grps_head false p [] hg (fun _ h => by cases h)
          · rw [h2, split_app 58 p 58 y hp (by decide)]; exact grps_head false p _ hg (fun _ h => by cases h)
      simp only [hta, hgr]
theorem rest6_bad1 (acc : List UInt8) (ell : Option Nat) (p : List UInt8) (hp : noC p) (hg : hexG p = none) (hf : four p = none) : rest6 acc ell p = none :=
  rest6_bad acc ell p p p [] (split_one 58 p hp) hp (.inl ⟨rfl, rfl⟩) hg (fun _ => hf) (fun _ x e => by
    have := hp 58 (by rw [e]; simp)
    simp [isB] at this)
theorem rest6_bad2 (acc : List UInt8) (ell : Option Nat) (p x : List UInt8) (hp : noC p) (hg : hexG p = none) (h0 : p ≠ [] ∨ ell ≠ none ∨ x.head? ≠ some 58) : rest6 acc ell (p ++ 58 :: x) = none :=
  rest6_bad acc ell _ p p (split 58 x) (split_app 58 p 58 x hp (by decide)) hp (.inr ⟨x, rfl⟩) hg (fun h => by unfold split at h; simp at h) (fun he y e => by
    rcases h0 with h0 | h0 | h0
    · cases p with
      | nil => exact h0 rfl
      | cons a p => simp at e; have := hp a (by simp); rw [e.1] at this; simp [isB] at this
    · exact h0 he
    · cases p with
      | nil => simp at e; rw [e] at h0; simp at h0
      | cons a p => simp at e; have := hp a (by simp); rw [e.1] at this; simp [isB] at this)

theorem isHex_dg (b : UInt8) (h : dg b = true) : isHex b = true := by
  have := (dg_int b).1 h
  unfold isHex hexv
  rw [if_pos (by omega)]
  rfl
theorem hex_noC (p : List UInt8) (h : p.all isHex = true) : noC p := by
  intro y hy
  rw [List.all_eq_true] at h
  have hh := h y hy
  rw [isC']
  intro e; subst e
  revert hh; decide
theorem hex_no46 (p : List UInt8) (h : p.all isHex = true) : ∀ y ∈ p, isB 46 y = false := by
  intro y hy
  rw [List.all_eq_true] at h
  have hh := h y hy
  unfold isB
  rw [beq_eq_false_iff_ne]
  intro e
  have : y = 46 := UInt8.toNat_inj.1 (by simpa using (by omega : y.toNat = 46))
  subst this
  revert hh; decide
theorem four_one (p : List UInt8) (h : ∀ y ∈ p, isB 46 y = false) : four p = none := by
  unfold four
  rw [split_one 46 p h]
  cases ho : octs [p] with
  | none => rfl
  | some l =>
    have := octs_len _ _ ho
    simp only
    rw [if_neg (by rw [this]; simp)]
theorem four_head (p r : List UInt8) (hp : ∀ y ∈ p, isB 46 y = false) (hb : ∀ q, oct (p ++ q) = none) : four (p ++ r) = none := by
  obtain ⟨q, t, e, _⟩ := split_head 46 p r hp
  unfold four
  rw [e, octs_head_bad _ _ (hb q)]
theorem oct_long (p : List UInt8) (h : 4 < p.length) : oct p = none := by
  unfold oct
  cases hd : decimal p with
  | none => rfl
  | some n =>
    show (if _ then _ else _) = _
    rw [if_pos]
    unfold decimal at hd
    split at hd
    · rename_i hc
      injection hd with hd
      cases p with
      | nil => simp at h
      | cons b p =>
        by_cases h48 : b = 48
        · right; exact ⟨by omega, by simp [h48]⟩
        · left
          rw [List.all_cons, Bool.and_eq_true] at hc
          have h2 := decV_small b p hc.1.1 h48
          have h4 : 10 ^ 4 ≤ 10 ^ p.length := Nat.pow_le_pow_right (by omega) (by simp at h; omega)
          omega
    · cases hd

/-- five digits -/
theorem hexG_long (p : List UInt8) (h : 4 < p.length) : hexG p = none := by
  unfold hexG; rw [if_neg]; rintro ⟨_, _, h2⟩; omega
theorem hexG_char (p : List UInt8) (b : UInt8) (hb : b ∈ p) (h : isHex b = false) : hexG p = none := by
  unfold hexG; rw [if_neg]; rintro ⟨h1, _⟩
  rw [List.all_eq_true] at h1
  rw [h1 b hb] at h
  cases h
theorem rest6_long (acc : List UInt8) (ell : Option Nat) (p r : List UInt8) (hp : p.all isHex = true) (hl : p.length = 5) : rest6 acc ell (p ++ r) = none := by
  have hf : ∀ q, four (p ++ q) = none := fun q => four_head p q (hex_no46 p hp) (fun q => oct_long _ (by simp; omega))
  rcases first_at 58 r with hr | ⟨q, x, r', rfl, hq, hx⟩
  · exact rest6_bad1 acc ell (p ++ r) (fun y hy => (List.mem_append.1 hy).elim (hex_noC p hp y) (hr y)) (hexG_long _ (by simp; omega)) (hf r)
  · rw [(isC x).1 hx, ← List.append_assoc]
    exact rest6_bad2 acc ell (p ++ q) r' (fun y hy => (List.mem_append.1 hy).elim (hex_noC p hp y) (hq y)) (hexG_long _ (by simp; omega)) (.inl (by intro e; have h1 := congrArg List.length e; rw [List.length_append, List.length_nil] at h1; omega))
/-- a strange byte behind digits -/
theorem rest6_char (acc : List UInt8) (ell : Option Nat) (p r : List UInt8) (c : UInt8) (hp : p.all isHex = true) (hc : isHex c = false) (h58 : c ≠ 58) (h46 : c ≠ 46) : rest6 acc ell (p ++ c :: r) = none := by
  have hn46 : isB 46 c = false := by
    unfold isB; rw [beq_eq_false_iff_ne]; intro e
    exact h46 (UInt8.toNat_inj.1 (by simpa using (by omega : c.toNat = 46)))
  have hdg : dg c = false := by
    rw [← Bool.not_eq_true]; intro h; rw [isHex_dg c h] at hc; cases hc
  have hpc : noC (p ++ [c]) := fun y hy => (List.mem_append.1 hy).elim (hex_noC p hp y) (fun h => by rw [List.mem_singleton.1 h]; exact (isC' c).2 h58)
  have hf : ∀ q, four (p ++ [c] ++ q) = none := fun q => four_head (p ++ [c]) q (fun y hy => (List.mem_append.1 hy).elim (hex_no46 p hp y) (fun h => by rw [List.mem_singleton.1 h]; exact hn46)) (fun q => oct_bad_digit _ c (by simp) hdg)
  rw [show p ++ c :: r = p ++ [c] ++ r by simp]
  rcases first_at 58 r with hr | ⟨q, x, r', rfl, hq, hx⟩
  · exact rest6_bad1 acc ell (p ++ [c] ++ r) (fun y hy => (List.mem_append.1 hy).elim (hpc y) (hr y)) (hexG_char _ c (by simp) hc) (hf r)
  · rw [(isC x).1 hx, ← List.append_assoc]
    exact rest6_bad2 acc ell (p ++ [c] ++ q) r' (fun y hy => (List.mem_append.1 hy).elim (hpc y) (hq y)) (hexG_char _ c (by simp) hc) (.inl (by simp))
/-- no digit at all -/
theorem hexG_nil : hexG [] = none := rfl
theorem rest6_nil (acc : List UInt8) (ell : Option Nat) : rest6 acc ell [] = none := rest6_bad1 acc ell [] (fun y hy => by simp at hy) rfl rfl
theorem rest6_colon (acc : List UInt8) (ell : Option Nat) (r : List UInt8) (h : ell ≠ none ∨ r.head? ≠ some 58) : rest6 acc ell (58 :: r) = none :=
  rest6_bad2 acc ell [] r (fun y hy => by simp at hy) rfl (.inr h)
theorem rest6_dot0 (acc : List UInt8) (ell : Option Nat) (r : List UInt8) : rest6 acc ell (46 :: r) = none := by
  have h1 : noC [46] := by intro y hy; rw [List.mem_singleton.1 hy]; decide
  have hg : ∀ q, hexG (46 :: q) = none := fun q => hexG_char _ 46 (by simp) (by decide)
  have hf : ∀ q, four (46 :: q) = none := fun q => four_head_dot q
  rcases first_at 58 r with hr | ⟨q, x, r', rfl, hq, hx⟩
  · exact rest6_bad1 acc ell (46 :: r) (fun y hy => (List.mem_cons.1 hy).elim (fun e => by rw [e]; decide) (hr y)) (hg _) (hf r)
  · rw [(isC x).1 hx, ← List.cons_append]
    exact rest6_bad2 acc ell (46 :: q) r' (fun y hy => (List.mem_cons.1 hy).elim (fun e => by rw [e]; decide) (hq y)) (hg _) (.inl (by simp))
where
  four_head_dot (q : List UInt8) : four (46 :: q) = none := by
    have := rest4_dot_empty [] q
    rw [rest4_start] at this
    exact this
theorem rest6_start (acc : List UInt8) (ell : Option Nat) (s : List UInt8) (h : ∀ c, s.head? = some c → isHex c = false) (h0 : ell ≠ none ∨ ∀ r, s ≠ 58 :: 58 :: r) : rest6 acc ell s = none := by
  cases s with
  | nil => exact rest6_nil _ _
  | cons c r =>
    have hc := h c rfl
    by_cases h58 : c = 58
    · subst h58
      refine rest6_colon acc ell r (h0.imp id (fun h e => ?_))
      cases r with
      | nil => cases e
      | cons b r => simp at e; subst e; exact h r rfl
    · by_cases h46 : c = 46
      · subst h46; exact rest6_dot0 _ _ _
      · exact rest6_char acc ell [] r c rfl hc h58 h46

/-! ### a group -/
def okG (p : List UInt8) : Prop := p.all isHex = true ∧ 1 ≤ p.length ∧ p.length ≤ 4
theorem hexG_gd (p : List UInt8) (h : okG p) : hexG p = some (grp p) := by unfold hexG okG at *; rw [if_pos h]; rfl
theorem four_ng (p : List UInt8) (h : okG p) : four p = none := four_one p (hex_no46 p h.1)
theorem rest6_end (acc : List UInt8) (ell : Option Nat) (p : List UInt8) (h : okG p) : rest6 acc ell p = fin6 (acc ++ grp p) ell := by
  have hc := hex_noC p h.1
  have hg : grps true (split 58 p) = some (grp p) := by
    rw [split_one 58 p hc]
    simp only [grps, if_pos, four_ng p h, hexG_gd p h]
  unfold rest6
  cases ell with
  | some e => simp only [hg]
  | none => simp only [hg, dd_noC p hc]
theorem grps_cons (last : Bool) (p q : List UInt8) (r : List (List UInt8)) : grps last (p :: q :: r) = (match hexG p, grps last (q :: r) with
    | some a, some b => some (a ++ b)
    | _, _ => none) := rfl
theorem split_ne (c : Int) (s : List UInt8) : ∃ q r, split c s = q :: r := by
  rcases first_at c s with h | ⟨p, x, r, rfl, hp, hx⟩
  · exact ⟨s, [], split_one c s h⟩
  · exact ⟨p, _, split_app c p x r hp hx⟩
theorem grps_part (last : Bool) (p r : List UInt8) (h : okG p) : grps last (split 58 (p ++ 58 :: r)) = (grps last (split 58 r)).map (grp p ++ ·) := by
  rw [split_app 58 p 58 r (hex_noC p h.1) (by decide)]
  obtain ⟨q, t, e⟩ := split_ne 58 r
  rw [e, grps_cons, hexG_gd p h]
  cases grps last (q :: t) <;> rfl
theorem rest6_group (acc : List UInt8) (ell : Option Nat) (p r : List UInt8) (h : okG p) (hr : r.head? ≠ some 58) : rest6 acc ell (p ++ 58 :: r) = rest6 (acc ++ grp p) ell r := by
  unfold rest6
  rw [grps_part true p r h]
  cases ell with
  | some e =>
    cases grps true (split 58 r) with
    | none => rfl
    | some b => simp only [Option.map_some, List.append_assoc]
  | none =>
    rw [dd_app p r (hex_noC p h.1) hr]
    cases hd : dd r with
    | none =>
      cases grps true (split 58 r) with
      | none => rfl
      | some b => simp only [Option.map_some, Option.map_none, List.append_assoc]
    | some k =>
      obtain ⟨a, y, e, hk⟩ := dd_at r k hd
      have ha : a ≠ [] := by intro ha; subst ha; rw [e] at hr; simp at hr
      have t1 : r.take k = a := by rw [e, List.take_append_of_le_length (by omega), List.take_of_length_le (by omega)]
      have t2 : r.drop (k + 2) = y := by rw [e, ← hk, show a.length + 2 = a.length + 2 from rfl, ← List.drop_drop, List.drop_left]; rfl
      have t3 : (p ++ 58 :: r).take (k + (p.length + 1)) = p ++ 58 :: a := by
        rw [show k + (p.length + 1) = p.length + (k + 1) by omega, List.take_length_add_append, List.take_succ_cons, t1]
      have t4 : (p ++ 58 :: r).drop (k + (p.length + 1) + 2) = y := by
        rw [show k + (p.length + 1) + 2 = p.length + (k + 2 + 1) by omega, List.drop_length_add_append, List.drop_succ_cons, t2]
      simp only [Option.map_some, t1, t2, t3, t4]
      rw [groups_ne _ _ (by simp), grps_part false p a h, groups_ne a _ ha]
      cases grps false (split 58 a) with
      | none => rfl
      | some b =>
        cases groups y true with
        | none => rfl
        | some c =>
          simp only [Option.map_some, List.append_assoc, List.length_append]
          congr 1
          simp [Nat.add_assoc]
theorem rest6_colon_last (acc : List UInt8) (ell : Option Nat) (p : List UInt8) (h : okG p) : rest6 acc ell (p ++ [58]) = none := by
  have hg : grps true (split 58 (p ++ [58])) = none := by rw [grps_part true p [] h]; rfl
  unfold rest6
  rw [hg]
  cases ell with
  | some e => rfl
  | none => rw [dd_app p [] (hex_noC p h.1) (by simp)]; rfl
theorem rest6_twice (acc : List UInt8) (e : Nat) (p r : List UInt8) (h : okG p) : rest6 acc (some e) (p ++ 58 :: 58 :: r) = none := by
  have hg : grps true (split 58 (58 :: r)) = none := by
    rw [show (58 : UInt8) :: r = [] ++ 58 :: r from rfl, split_app 58 [] 58 r (fun y hy => by simp at hy) (by decide)]
    exact grps_head true [] _ rfl (fun _ _ => rfl)
  unfold rest6
  rw [grps_part true p _ h, hg]
  rfl
theorem groups_ok (p : List UInt8) (h : okG p) : groups p false = some (grp p) := by
  have : p ≠ [] := by intro e; have := h.2.1; rw [e] at this; simp at this
  rw [groups_ne p _ this, split_one 58 p (hex_noC p h.1)]
  simp only [grps, hexG_gd p h]
  rfl
theorem rest6_dd_end (acc p : List UInt8) (h : okG p) : rest6 acc none (p ++ [58, 58]) = fin6 (acc ++ grp p) (some (acc.length + 2)) := by
  unfold rest6
  rw [dd_two p [] (hex_noC p h.1)]
  simp only [List.take_left, groups_ok p h]
  have : (p ++ [58, 58]).drop (p.length + 2) = [] := by simp
  rw [this]
  show fin6 (acc ++ grp p ++ []) _ = _
  rw [List.append_nil]
  rfl
theorem rest6_dd (acc p r : List UInt8) (h : okG p) (hr : r ≠ []) : rest6 acc none (p ++ 58 :: 58 :: r) = rest6 (acc ++ grp p) (some (acc.length + 2)) r := by
  unfold rest6
  rw [dd_two p r (hex_noC p h.1)]
  have : (p ++ 58 :: 58 :: r).drop (p.length + 2) = r := by rw [List.drop_length_add_append]; rfl
  simp only [List.take_left, groups_ok p h, this, groups_ne r true hr]
  cases grps true (split 58 r) with
  | none => rfl
  | some b => rfl
/-- a point behind digits -/
theorem noC_four (s l : List UInt8) (h : four s = some l) : noC s := by
  unfold four at h
  cases ho : octs (split 46 s) with
  | none => rw [ho] at h; cases h
  | some m =>
    clear h
    suffices H : ∀ (n : Nat) (s : List UInt8), s.length ≤ n → ∀ m, octs (split 46 s) = some m → noC s from H s.length s (Nat.le_refl _) m ho
    intro n
    induction n with
    | zero =>
      intro s hs m _ y hy
      have : s = [] := List.eq_nil_of_length_eq_zero (by omega)
      rw [this] at hy; simp at hy
    | succ n ih =>
      intro s hs m hm
      have hpc : ∀ p : List UInt8, ∀ b, oct p = some b → noC p := by
        intro p b hb y hy
        rw [isC']
        intro e; subst e
        rw [oct_bad_digit p 58 hy (by decide)] at hb
        cases hb
      rcases first_at 46 s with h | ⟨p, x, r, rfl, hp, hx⟩
      · rw [split_one 46 s h, octs_cons] at hm
        cases ho : oct s with
        | none => rw [ho] at hm; cases hm
        | some b => exact hpc s b ho
      · rw [split_app 46 p x r hp hx, octs_cons] at hm
        cases ho : oct p with
        | none => rw [ho] at hm; cases hm
        | some b =>
          cases hr : octs (split 46 r) with
          | none => rw [ho, hr] at hm; cases hm
          | some t =>
            have h2 := ih r (by simp at hs; omega) t hr
            intro y hy
            rcases List.mem_append.1 hy with hy | hy
            · exact hpc p b ho y hy
            · rcases List.mem_cons.1 hy with rfl | hy
              · unfold isB at hx ⊢
                rw [beq_iff_eq] at hx
                rw [beq_eq_false_iff_ne]
                omega
              · exact h2 y hy
theorem rest6_dot (acc : List UInt8) (ell : Option Nat) (p r : List UInt8) (h : okG p) : rest6 acc ell (p ++ 46 :: r) = (match four (p ++ 46 :: r) with
    | some l => fin6 (acc ++ l) ell
    | none => none) := by
  have hp46 : ∀ q, hexG (p ++ 46 :: q) = none := fun q => hexG_char _ 46 (by simp) (by decide)
  rcases first_at 58 r with hr | ⟨q, x, r', rfl, hq, hx⟩
  · have hc : noC (p ++ 46 :: r) := by
      intro y hy
      rcases List.mem_append.1 hy with hy | hy
      · exact hex_noC p h.1 y hy
      · rcases List.mem_cons.1 hy with rfl | hy
        · decide
        · exact hr y hy
    cases hf : four (p ++ 46 :: r) with
    | none => exact rest6_bad1 acc ell _ hc (hp46 _) hf
    | some l =>
      have hg : grps true (split 58 (p ++ 46 :: r)) = some l := by
        rw [split_one 58 _ hc]
        simp only [grps, if_pos, hf]
      unfold rest6
      cases ell with
      | some e => simp only [hg]
      | none => simp only [hg, dd_noC _ hc]
  · rw [(isC x).1 hx]
    have hf : four (p ++ 46 :: (q ++ 58 :: r')) = none := by
      cases hf : four (p ++ 46 :: (q ++ 58 :: r')) with
      | none => rfl
      | some l =>
        have := noC_four _ _ hf 58 (by simp)
        simp [isB] at this
    rw [hf, show p ++ 46 :: (q ++ 58 :: r') = (p ++ 46 :: q) ++ 58 :: r' by simp]
    refine rest6_bad2 acc ell (p ++ 46 :: q) r' ?_ (hp46 _) (.inl (by simp))
    intro y hy
    rcases List.mem_append.1 hy with hy | hy
    · exact hex_noC p h.1 y hy
    · rcases List.mem_cons.1 hy with rfl | hy
      · decide
      · exact hq y hy

/-! ### no room -/
theorem hexG_two (p b : List UInt8) (h : hexG p = some b) : b.length = 2 := by
  unfold hexG at h
  split at h
  · injection h with h; subst h; rfl
  · cases h
theorem four_l (s l : List UInt8) (h : four s = some l) : l.length = 4 := by
  unfold four at h
  split at h
  · split at h
    · rename_i h4; injection h with h; subst h; exact h4
    · cases h
  · cases h
theorem grps_even (last : Bool) : ∀ (ps : List (List UInt8)) (b : List UInt8), grps last ps = some b → b.length % 2 = 0 ∧ (ps ≠ [] → 2 ≤ b.length)
  | [], b, h => by injection h with h; subst h; simp
  | [p], b, h => by
    simp only [grps] at h
    split at h
    · rename_i c hc
      injection h with h
      subst h
      split at hc
      · rw [four_l _ _ hc]; simp
      · cases hc
    · rw [hexG_two _ _ h]; simp
  | p :: q :: r, b, h => by
    simp only [grps] at h
    split at h
    · rename_i a c ha hc
      injection h with h
      subst h
      have h1 := hexG_two _ _ ha
      have h2 := grps_even last (q :: r) c hc
      rw [List.length_append]
      omega
    · cases h
theorem groups_even (s : List UInt8) (last : Bool) (b : List UInt8) (h : groups s last = some b) : b.length % 2 = 0 := by
  unfold groups at h
  split at h
  · injection h with h; subst h; rfl
  · exact (grps_even last _ b h).1
theorem grps_two (s b : List UInt8) (h : grps true (split 58 s) = some b) : 2 ≤ b.length := by
  obtain ⟨q, r, e⟩ := split_ne 58 s
  rw [e] at h
  exact (grps_even true _ b h).2 (by simp)
theorem rest6_full (acc : List UInt8) (ell : Option Nat) (s : List UInt8) (h : 16 ≤ acc.length) : rest6 acc ell s = none := by
  unfold rest6
  cases ell with
  | some e =>
    cases hg : grps true (split 58 s) with
    | none => rfl
    | some b => simp only [fin6]; rw [if_neg (by simp; omega)]
  | none =>
    cases hd : dd s with
    | none =>
      cases hg : grps true (split 58 s) with
      | none => rfl
      | some b =>
        have := grps_two s b hg
        simp only [fin6]
        rw [if_neg (by simp; omega)]
    | some k =>
      simp only
      cases groups (s.take k) false with
      | none => rfl
      | some a =>
        cases groups (s.drop (k + 2)) true with
        | none => rfl
        | some b => simp only [fin6]; rw [if_neg (by simp; omega)]

/-! ### from the beginning -/
theorem rest6_all (s : List UInt8) (h : four s = none) : rest6 [] none s = addr s := by
  unfold rest6 addr
  rw [h]
  cases hd : dd s with
  | none =>
    simp only
    by_cases hs : s = []
    · subst hs; rfl
    · rw [groups_ne s true hs]
      cases grps true (split 58 s) <;> rfl
  | some k =>
    simp only
    cases ha : groups (s.take k) false with
    | none => rfl
    | some a =>
      cases hb : groups (s.drop (k + 2)) true with
      | none => rfl
      | some b =>
        have h1 := groups_even _ _ _ ha
        have h2 := groups_even _ _ _ hb
        simp only [fin6, List.nil_append, List.length_nil, Nat.zero_add, List.length_append]
        by_cases h3 : a.length + b.length < 16
        · rw [if_pos h3, if_neg (by omega), List.take_left, List.drop_left, Nat.sub_sub]
        · rw [if_neg h3, if_pos (by omega)]
theorem rest6_lead (r : List UInt8) (h : r ≠ []) : rest6 [] none (58 :: 58 :: r) = rest6 [] (some 0) r := by
  unfold rest6
  rw [show dd (58 :: 58 :: r) = some 0 by rw [dd, if_pos ⟨rfl, rfl⟩]]
  simp only [List.take_zero, Nat.zero_add, List.drop_succ_cons, List.drop_zero, groups_ne r true h]
  rw [show groups [] false = some [] from rfl]
  cases grps true (split 58 r) <;> rfl
theorem rest6_only : rest6 [] none [58, 58] = some (List.replicate 16 0) := by decide
theorem four_colon (s : List UInt8) (h : 58 ∈ s) : four s = none := by
  cases hf : four s with
  | none => rfl
  | some l =>
    have := noC_four _ _ hf 58 h
    simp [isB] at this

end Go.Proofs.YtfkohahlpfejbaaDoor.pl
