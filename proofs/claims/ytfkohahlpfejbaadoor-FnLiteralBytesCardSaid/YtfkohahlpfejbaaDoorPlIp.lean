/-
  PLAIN: addresses, as the reference reads them.
-/
import Derived.Test.YtfkohahlpfejbaaDoorPlNum
import Derived.Test.YtfkohahlpfejbaaDoorPlHost
namespace Go.Proofs.YtfkohahlpfejbaaDoor.pl

/-- a number up to 255 without a nought ahead -/
def oct (p : List UInt8) : Option UInt8 :=
  match decimal p with
  | some n => if 255 < n ∨ (1 < p.length ∧ p.head? = some 48) then none else some (UInt8.ofNat n)
  | none => none
def octs : List (List UInt8) → Option (List UInt8)
  | [] => some []
  | p :: r => match oct p, octs r with
    | some a, some b => some (a :: b)
    | _, _ => none
/-- an address of IPv4 -/
def four (s : List UInt8) : Option (List UInt8) :=
  match octs (split 46 s) with
  | some l => if l.length = 4 then some l else none
  | none => none

theorem octs_len : ∀ (ps : List (List UInt8)) (l : List UInt8), octs ps = some l → l.length = ps.length
  | [], l, h => by injection h with h; subst h; rfl
  | p :: r, l, h => by
    unfold octs at h
    cases ho : oct p with
    | none => rw [ho] at h; cases h
    | some a =>
      cases hr : octs r with
      | none => rw [ho, hr] at h; cases h
      | some b => rw [ho, hr] at h; injection h with h; subst h; simp [octs_len r b hr]
theorem octs_bad (ps qs : List (List UInt8)) (p : List UInt8) (h : oct p = none) : octs (ps ++ p :: qs) = none := by
  induction ps with
  | nil => show octs (p :: qs) = none; unfold octs; rw [h]
  | cons x r ih =>
    show octs (x :: (r ++ p :: qs)) = none
    unfold octs
    rw [ih]
    cases oct x <;> rfl
theorem octs_snoc (ps : List (List UInt8)) (p : List UInt8) (l : List UInt8) (b : UInt8) (h : octs ps = some l) (hb : oct p = some b) : octs (ps ++ [p]) = some (l ++ [b]) := by
  induction ps generalizing l with
  | nil => injection h with h; subst h; show octs [p] = some [b]; unfold octs; rw [hb]; rfl
  | cons x r ih =>
    unfold octs at h
    cases ho : oct x with
    | none => rw [ho] at h; cases h
    | some a =>
      cases hr : octs r with
      | none => rw [ho, hr] at h; cases h
      | some m =>
        rw [ho, hr] at h
        injection h with h
        subst h
        show octs (x :: (r ++ [p])) = _
        unfold octs
        rw [ho, ih m hr]
        rfl

/-- what the walk finds of a part -/
theorem oct_cases (p : List UInt8) :
    (decimal p = none ∧ oct p = none) ∨ (∃ n, decimal p = some n ∧ 255 < n ∧ oct p = none) ∨ (∃ n, decimal p = some n ∧ n ≤ 255 ∧ 1 < p.length ∧ p.head? = some 48 ∧ oct p = none) ∨
    (∃ n, decimal p = some n ∧ n ≤ 255 ∧ (¬ 1 < p.length ∨ p.head? ≠ some 48) ∧ oct p = some (UInt8.ofNat n)) := by
  unfold oct
  cases hd : decimal p with
  | none => exact .inl ⟨rfl, rfl⟩
  | some n =>
    right
    by_cases h1 : 255 < n
    · exact .inl ⟨n, rfl, h1, by simp [h1]⟩
    · right
      by_cases h2 : 1 < p.length ∧ p.head? = some 48
      · exact .inl ⟨n, rfl, by omega, h2.1, h2.2, by simp [h2]⟩
      · refine .inr ⟨n, rfl, by omega, ?_, ?_⟩
        · by_cases h3 : 1 < p.length
          · exact .inr (fun h4 => h2 ⟨h3, h4⟩)
          · exact .inl h3
        · show (if _ then _ else _) = _
          rw [if_neg]
          rintro (h | h)
          · exact h1 h
          · exact h2 h

/-- one group of hexadecimal digits -/
def hexG (p : List UInt8) : Option (List UInt8) :=
  if p.all isHex = true ∧ 1 ≤ p.length ∧ p.length ≤ 4 then some [UInt8.ofNat (hexV 0 p / 256), UInt8.ofNat (hexV 0 p)] else none
def grps (last : Bool) : List (List UInt8) → Option (List UInt8)
  | [] => some []
  | [p] => match (if last = true then four p else none) with
    | some b => some b
    | none => hexG p
  | p :: q :: r => match hexG p, grps last (q :: r) with
    | some a, some b => some (a ++ b)
    | _, _ => none
def groups (s : List UInt8) (last : Bool) : Option (List UInt8) := if s = [] then some [] else grps last (split 58 s)

/-- groups, all of hexadecimal digits -/
def hexAll : List (List UInt8) → Option (List UInt8)
  | [] => some []
  | p :: r => match hexG p, hexAll r with
    | some a, some b => some (a ++ b)
    | _, _ => none

theorem hexAll_cons (p : List UInt8) (r : List (List UInt8)) : hexAll (p :: r) = (match hexG p, hexAll r with
    | some a, some b => some (a ++ b)
    | _, _ => none) := rfl

theorem hexAll_snoc (ps : List (List UInt8)) (p a b : List UInt8) (h : hexAll ps = some a) (hb : hexG p = some b) : hexAll (ps ++ [p]) = some (a ++ b) := by
  induction ps generalizing a with
  | nil => injection h with h; subst h; show hexAll [p] = some b; unfold hexAll; rw [hb]; simp [hexAll]
  | cons x r ih =>
    unfold hexAll at h
    cases ho : hexG x with
    | none => rw [ho] at h; cases h
    | some c =>
      cases hr : hexAll r with
      | none => rw [ho, hr] at h; cases h
      | some m =>
        rw [ho, hr] at h
        injection h with h
        subst h
        show hexAll (x :: (r ++ [p])) = _
        unfold hexAll
        rw [ho, ih m hr]
        simp

theorem grps_app (last : Bool) (ps : List (List UInt8)) (q : List UInt8) (r : List (List UInt8)) : grps last (ps ++ q :: r) = (match hexAll ps, grps last (q :: r) with
    | some a, some b => some (a ++ b)
    | _, _ => none) := by
  induction ps with
  | nil => show grps last (q :: r) = _; simp only [hexAll]; cases grps last (q :: r) <;> rfl
  | cons x t ih =>
    have e : grps last (x :: (t ++ q :: r)) = (match hexG x, grps last (t ++ q :: r) with
        | some a, some b => some (a ++ b)
        | _, _ => none) := by
      cases t with
      | nil => rfl
      | cons y t => rfl
    show grps last (x :: (t ++ q :: r)) = _
    rw [e, ih, hexAll_cons]
    cases hexG x with
    | none => rfl
    | some a =>
      cases hexAll t with
      | none => rfl
      | some b =>
        cases grps last (q :: r) with
        | none => rfl
        | some c => show some (a ++ (b ++ c)) = some (a ++ b ++ c); rw [List.append_assoc]

theorem at_split (L : List (List UInt8)) (k : Nat) (p : List UInt8) (hk : L[k]? = some p) : L = L.take k ++ p :: L.drop (k + 1) := by
  have hlt : k < L.length := (List.getElem?_eq_some_iff.1 hk).1
  have h1 := List.take_append_drop k L
  have h2 : L.drop k = p :: L.drop (k + 1) := by
    rw [List.drop_eq_getElem_cons hlt]
    congr 1
    exact (List.getElem?_eq_some_iff.1 hk).2
  rw [h2] at h1
  exact h1.symm

/-- the last part is an address of IPv4 -/
theorem grps_four (L : List (List UInt8)) (k : Nat) (p acc b : List UInt8) (hk : L[k]? = some p) (hl : k + 1 = L.length) (ha : hexAll (L.take k) = some acc) (hb : four p = some b) : grps true L = some (acc ++ b) := by
  have e := at_split L k p hk
  rw [List.drop_eq_nil_of_le (by omega)] at e
  rw [e, grps_app, ha]
  simp only [grps, if_pos, hb]
/-- a part that is neither -/
theorem grps_bad (last : Bool) (L : List (List UInt8)) (k : Nat) (p acc : List UInt8) (hk : L[k]? = some p) (ha : hexAll (L.take k) = some acc) (hg : hexG p = none) (hf : last = true → k + 1 = L.length → four p = none) : grps last L = none := by
  have e := at_split L k p hk
  have hlt : k < L.length := (List.getElem?_eq_some_iff.1 hk).1
  rw [e, grps_app, ha]
  cases hd : L.drop (k + 1) with
  | nil =>
    have hl : k + 1 = L.length := by
      have := congrArg List.length hd
      simp at this
      omega
    have h2 : (if last = true then four p else none) = none := by
      cases last with
      | false => rfl
      | true => rw [if_pos rfl]; exact hf rfl hl
    simp only [grps, h2, hg]
  | cons q r =>
    simp only [grps, hg]
/-- at the end -/
theorem grps_end (last : Bool) (L : List (List UInt8)) (k : Nat) (p acc b : List UInt8) (hk : L[k]? = some p) (hl : k + 1 = L.length) (ha : hexAll (L.take k) = some acc) (hg : hexG p = some b) (hf : last = true → four p = none) : grps last L = some (acc ++ b) := by
  have e := at_split L k p hk
  rw [List.drop_eq_nil_of_le (by omega)] at e
  rw [e, grps_app, ha]
  have h2 : (if last = true then four p else none) = none := by
    cases last with
    | false => rfl
    | true => rw [if_pos rfl]; exact hf rfl
  simp only [grps, h2, hg]
theorem hexAll_next (L : List (List UInt8)) (k : Nat) (p acc b : List UInt8) (hk : L[k]? = some p) (ha : hexAll (L.take k) = some acc) (hg : hexG p = some b) : hexAll (L.take (k + 1)) = some (acc ++ b) := by
  rw [List.take_add_one, hk]
  exact hexAll_snoc _ p acc b ha hg

/-- the first place of two colons -/
def dd : List UInt8 → Option Nat
  | [] => none
  | [_] => none
  | a :: b :: r => if a = 58 ∧ b = 58 then some 0 else (dd (b :: r)).map (· + 1)

def addr (s : List UInt8) : Option (List UInt8) :=
  match four s with
  | some b => some b
  | none =>
    match dd s with
    | some k => match groups (s.take k) false, groups (s.drop (k + 2)) true with
      | some a, some b => if 14 < a.length + b.length then none else some (a ++ List.replicate (16 - a.length - b.length) 0 ++ b)
      | _, _ => none
    | none => match groups s true with
      | some b => if b.length = 16 then some b else none
      | none => none

end Go.Proofs.YtfkohahlpfejbaaDoor.pl
