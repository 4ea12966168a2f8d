/-
  PLAIN: domain names, the package's way and the reference's.
-/
import Derived.Test.YtabeklpllphiaaaPl
import Derived.Below
namespace Go.Proofs.Ytabeklpllphiaaa.pl

/-- one byte of the package's reading of a domain name: the byte before, whether a letter or hyphen has been met, the length of the label -/
def stepD (st : Int × Bool × Nat) (b : UInt8) : Option (Int × Bool × Nat) :=
  if (97 ≤ b.toNat ∧ b.toNat ≤ 122) ∨ (65 ≤ b.toNat ∧ b.toNat ≤ 90) ∨ b.toNat = 95 then some (b.toNat, true, st.2.2 + 1)
  else if 48 ≤ b.toNat ∧ b.toNat ≤ 57 then some (b.toNat, st.2.1, st.2.2 + 1)
  else if b.toNat = 45 then (if st.1 = 46 then none else some (b.toNat, true, st.2.2 + 1))
  else if b.toNat = 46 then (if st.1 = 46 ∨ st.1 = 45 then none else if 63 < st.2.2 ∨ st.2.2 = 0 then none else some (b.toNat, st.2.1, 0))
  else none
def runD (l : List UInt8) : Option (Int × Bool × Nat) := l.foldl (fun st b => st.bind (fun x => stepD x b)) (some (46, false, 0))

theorem runD_snoc (l : List UInt8) (b : UInt8) : runD (l ++ [b]) = (runD l).bind (fun x => stepD x b) := by simp [runD]
theorem runD_succ (s : ByteArray) (k : Nat) (h : k < s.size) : runD (s.data.toList.take (k + 1)) = (runD (s.data.toList.take k)).bind (fun x => stepD x s[k]) := by
  rw [take_succ s k h, runD_snoc]
theorem runD_none (l m : List UInt8) (h : runD l = none) : runD (l ++ m) = none := by
  unfold runD at h ⊢
  rw [List.foldl_append, h]
  induction m with
  | nil => rfl
  | cons b m ih => simpa using ih
theorem runD_dead (s : ByteArray) (k : Nat) (h : k < s.size) (st : Int × Bool × Nat) (h1 : runD (s.data.toList.take k) = some st) (h2 : stepD st s[k] = none) : runD s.data.toList = none := by
  have := runD_none (s.data.toList.take (k + 1)) (s.data.toList.drop (k + 1)) (by rw [runD_succ s k h, h1]; exact h2)
  rwa [List.take_append_drop] at this

open Go.RowKit in
theorem stepD_cases (b : UInt8) (a : Int) (n : Bool) (q : Nat) :
    (Hid (stepD (a, n, q) b = some ((b.toNat : Int), true, q + 1)) ∧ 97 ≤ (b.toNat : Int) ∧ (b.toNat : Int) ≤ 122) ∨
    (Hid (stepD (a, n, q) b = some ((b.toNat : Int), true, q + 1)) ∧ 65 ≤ (b.toNat : Int) ∧ (b.toNat : Int) ≤ 90) ∨
    (Hid (stepD (a, n, q) b = some (95, true, q + 1)) ∧ (b.toNat : Int) = 95) ∨
    (Hid (stepD (a, n, q) b = some ((b.toNat : Int), n, q + 1)) ∧ 48 ≤ (b.toNat : Int) ∧ (b.toNat : Int) ≤ 57) ∨
    (Hid (stepD (a, n, q) b = some (45, true, q + 1)) ∧ (b.toNat : Int) = 45 ∧ (a == 46) = false) ∨
    (Hid (stepD (a, n, q) b = some (46, n, 0)) ∧ (b.toNat : Int) = 46 ∧ (a == 46) = false ∧ (a == 45) = false ∧ ((q : Int) == 0) = false ∧ q ≤ 63) ∨
    (Hid (stepD (a, n, q) b = none) ∧ (b.toNat : Int) = 45 ∧ (a == 46) = true) ∨
    (Hid (stepD (a, n, q) b = none) ∧ (b.toNat : Int) = 46 ∧ (a == 46) = true) ∨
    (Hid (stepD (a, n, q) b = none) ∧ (b.toNat : Int) = 46 ∧ (a == 46) = false ∧ (a == 45) = true) ∨
    (Hid (stepD (a, n, q) b = none) ∧ (b.toNat : Int) = 46 ∧ (a == 46) = false ∧ (a == 45) = false ∧ 63 < q) ∨
    (Hid (stepD (a, n, q) b = none) ∧ (b.toNat : Int) = 46 ∧ (a == 46) = false ∧ (a == 45) = false ∧ q ≤ 63 ∧ ((q : Int) == 0) = true) ∨
    (Hid (stepD (a, n, q) b = none) ∧ (b.toNat : Int) < 45) ∨
    (Hid (stepD (a, n, q) b = none) ∧ (b.toNat : Int) = 47) ∨
    (Hid (stepD (a, n, q) b = none) ∧ 58 ≤ (b.toNat : Int) ∧ (b.toNat : Int) < 65 ∧ ((b.toNat : Int) == 95) = false) ∨
    (Hid (stepD (a, n, q) b = none) ∧ 91 ≤ (b.toNat : Int) ∧ (b.toNat : Int) < 95 ∧ ((b.toNat : Int) == 95) = false) ∨
    (Hid (stepD (a, n, q) b = none) ∧ (b.toNat : Int) = 96) ∨
    (Hid (stepD (a, n, q) b = none) ∧ 122 < (b.toNat : Int) ∧ ((b.toNat : Int) == 95) = false ∧ ((b.toNat : Int) == 45) = false ∧ ((b.toNat : Int) == 46) = false) := by
  have e : ∀ c : Nat, (b.toNat : Int) = c → b.toNat = c := fun c h => by omega
  by_cases h1 : (b.toNat : Int) < 45
  · refine Or.inr ?_; refine Or.inr ?_; refine Or.inr ?_; refine Or.inr ?_; refine Or.inr ?_; refine Or.inr ?_; refine Or.inr ?_; refine Or.inr ?_; refine Or.inr ?_; refine Or.inr ?_; refine Or.inr ?_; refine Or.inl ?_; exact ⟨by unfold Hid stepD; simp only []; (repeat (first | rw [if_pos (by omega)] | rw [if_neg (by omega)])); (try simp only [*]); (try rfl), h1⟩
  by_cases h2 : (b.toNat : Int) = 45
  · by_cases g : a = 46
    · refine Or.inr ?_; refine Or.inr ?_; refine Or.inr ?_; refine Or.inr ?_; refine Or.inr ?_; refine Or.inr ?_; refine Or.inl ?_; exact ⟨by unfold Hid stepD; simp only []; (repeat (first | rw [if_pos (by omega)] | rw [if_neg (by omega)])); (try simp only [*]); (try rfl), h2, by simpa using g⟩
    · refine Or.inr ?_; refine Or.inr ?_; refine Or.inr ?_; refine Or.inr ?_; refine Or.inl ?_; exact ⟨by unfold Hid stepD; simp only []; (repeat (first | rw [if_pos (by omega)] | rw [if_neg (by omega)])); (try simp only [*]); (try rfl), h2, by simpa using g⟩
  by_cases h3 : (b.toNat : Int) = 46
  · by_cases g : a = 46
    · refine Or.inr ?_; refine Or.inr ?_; refine Or.inr ?_; refine Or.inr ?_; refine Or.inr ?_; refine Or.inr ?_; refine Or.inr ?_; refine Or.inl ?_; exact ⟨by unfold Hid stepD; simp only []; (repeat (first | rw [if_pos (by omega)] | rw [if_neg (by omega)])); (try simp only [*]); (try rfl), h3, by simpa using g⟩
    by_cases g2 : a = 45
    · refine Or.inr ?_; refine Or.inr ?_; refine Or.inr ?_; refine Or.inr ?_; refine Or.inr ?_; refine Or.inr ?_; refine Or.inr ?_; refine Or.inr ?_; refine Or.inl ?_; exact ⟨by unfold Hid stepD; simp only []; (repeat (first | rw [if_pos (by omega)] | rw [if_neg (by omega)])); (try simp only [*]); (try rfl), h3, by simpa using g, by simpa using g2⟩
    by_cases g3 : 63 < q
    · refine Or.inr ?_; refine Or.inr ?_; refine Or.inr ?_; refine Or.inr ?_; refine Or.inr ?_; refine Or.inr ?_; refine Or.inr ?_; refine Or.inr ?_; refine Or.inr ?_; refine Or.inl ?_; exact ⟨by unfold Hid stepD; simp only []; (repeat (first | rw [if_pos (by omega)] | rw [if_neg (by omega)])); (try simp only [*]); (try rfl), h3, by simpa using g, by simpa using g2, g3⟩
    by_cases g4 : q = 0
    · refine Or.inr ?_; refine Or.inr ?_; refine Or.inr ?_; refine Or.inr ?_; refine Or.inr ?_; refine Or.inr ?_; refine Or.inr ?_; refine Or.inr ?_; refine Or.inr ?_; refine Or.inr ?_; refine Or.inl ?_; exact ⟨by unfold Hid stepD; simp only []; (repeat (first | rw [if_pos (by omega)] | rw [if_neg (by omega)])); (try simp only [*]); (try rfl), h3, by simpa using g, by simpa using g2, by omega, by simpa using g4⟩
    · refine Or.inr ?_; refine Or.inr ?_; refine Or.inr ?_; refine Or.inr ?_; refine Or.inr ?_; refine Or.inl ?_; exact ⟨by unfold Hid stepD; simp only []; (repeat (first | rw [if_pos (by omega)] | rw [if_neg (by omega)])); (try simp only [*]); (try rfl), h3, by simpa using g, by simpa using g2, by simpa using g4, by omega⟩
  by_cases h4 : (b.toNat : Int) = 47
  · refine Or.inr ?_; refine Or.inr ?_; refine Or.inr ?_; refine Or.inr ?_; refine Or.inr ?_; refine Or.inr ?_; refine Or.inr ?_; refine Or.inr ?_; refine Or.inr ?_; refine Or.inr ?_; refine Or.inr ?_; refine Or.inr ?_; refine Or.inl ?_; exact ⟨by unfold Hid stepD; simp only []; (repeat (first | rw [if_pos (by omega)] | rw [if_neg (by omega)])); (try simp only [*]); (try rfl), h4⟩
  by_cases h5 : (b.toNat : Int) ≤ 57
  · refine Or.inr ?_; refine Or.inr ?_; refine Or.inr ?_; refine Or.inl ?_; exact ⟨by unfold Hid stepD; simp only []; (repeat (first | rw [if_pos (by omega)] | rw [if_neg (by omega)])); (try simp only [*]); (try rfl), by omega, h5⟩
  by_cases h6 : (b.toNat : Int) < 65
  · refine Or.inr ?_; refine Or.inr ?_; refine Or.inr ?_; refine Or.inr ?_; refine Or.inr ?_; refine Or.inr ?_; refine Or.inr ?_; refine Or.inr ?_; refine Or.inr ?_; refine Or.inr ?_; refine Or.inr ?_; refine Or.inr ?_; refine Or.inr ?_; refine Or.inl ?_; exact ⟨by unfold Hid stepD; simp only []; (repeat (first | rw [if_pos (by omega)] | rw [if_neg (by omega)])); (try simp only [*]); (try rfl), by omega, h6, by rw [beq_eq_false_iff_ne]; omega⟩
  by_cases h7 : (b.toNat : Int) ≤ 90
  · refine Or.inr ?_; refine Or.inl ?_; exact ⟨by unfold Hid stepD; simp only []; (repeat (first | rw [if_pos (by omega)] | rw [if_neg (by omega)])); (try simp only [*]); (try rfl), by omega, h7⟩
  by_cases h8 : (b.toNat : Int) < 95
  · refine Or.inr ?_; refine Or.inr ?_; refine Or.inr ?_; refine Or.inr ?_; refine Or.inr ?_; refine Or.inr ?_; refine Or.inr ?_; refine Or.inr ?_; refine Or.inr ?_; refine Or.inr ?_; refine Or.inr ?_; refine Or.inr ?_; refine Or.inr ?_; refine Or.inr ?_; refine Or.inl ?_; exact ⟨by unfold Hid stepD; simp only []; (repeat (first | rw [if_pos (by omega)] | rw [if_neg (by omega)])); (try simp only [*]); (try rfl), by omega, h8, by rw [beq_eq_false_iff_ne]; omega⟩
  by_cases h9 : (b.toNat : Int) = 95
  · refine Or.inr ?_; refine Or.inr ?_; refine Or.inl ?_; exact ⟨by unfold Hid stepD; simp only []; (repeat (first | rw [if_pos (by omega)] | rw [if_neg (by omega)])); (try simp only [*]); (try rfl), h9⟩
  by_cases h10 : (b.toNat : Int) = 96
  · refine Or.inr ?_; refine Or.inr ?_; refine Or.inr ?_; refine Or.inr ?_; refine Or.inr ?_; refine Or.inr ?_; refine Or.inr ?_; refine Or.inr ?_; refine Or.inr ?_; refine Or.inr ?_; refine Or.inr ?_; refine Or.inr ?_; refine Or.inr ?_; refine Or.inr ?_; refine Or.inr ?_; refine Or.inl ?_; exact ⟨by unfold Hid stepD; simp only []; (repeat (first | rw [if_pos (by omega)] | rw [if_neg (by omega)])); (try simp only [*]); (try rfl), h10⟩
  by_cases h11 : (b.toNat : Int) ≤ 122
  · refine Or.inl ?_; exact ⟨by unfold Hid stepD; simp only []; (repeat (first | rw [if_pos (by omega)] | rw [if_neg (by omega)])); (try simp only [*]); (try rfl), by omega, h11⟩
  · refine Or.inr ?_; refine Or.inr ?_; refine Or.inr ?_; refine Or.inr ?_; refine Or.inr ?_; refine Or.inr ?_; refine Or.inr ?_; refine Or.inr ?_; refine Or.inr ?_; refine Or.inr ?_; refine Or.inr ?_; refine Or.inr ?_; refine Or.inr ?_; refine Or.inr ?_; refine Or.inr ?_; refine Or.inr ?_; exact ⟨by unfold Hid stepD; simp only []; (repeat (first | rw [if_pos (by omega)] | rw [if_neg (by omega)])); (try simp only [*]); (try rfl), by omega, by rw [beq_eq_false_iff_ne]; omega, by rw [beq_eq_false_iff_ne]; omega, by rw [beq_eq_false_iff_ne]; omega⟩

/-- the package's answer -/
def domB (l : List UInt8) : Bool :=
  if l = [46] then true
  else if l.length = 0 ∨ 254 < l.length ∨ (l.length = 254 ∧ l.getLast? ≠ some 46) then false
  else match runD l with
    | none => false
    | some st => if st.1 = 45 ∨ 63 < st.2.2 then false else st.2.1

theorem domB_dead (l : List UInt8) (h1 : l ≠ [46]) (h : runD l = none) : domB l = false := by
  unfold domB
  rw [if_neg h1, h]
  split <;> rfl

theorem fin_no (a : Int) (b : Bool) (q : Nat) (h : a = 45 ∨ 63 < q) : (if (a, b, q).1 = 45 ∨ 63 < (a, b, q).2.2 then false else (a, b, q).2.1) = false := if_pos h
theorem fin_yes (a : Int) (b : Bool) (q : Nat) (h : ¬ (a = 45 ∨ 63 < q)) : (if (a, b, q).1 = 45 ∨ 63 < (a, b, q).2.2 then false else (a, b, q).2.1) = b := if_neg h

end Go.Proofs.Ytabeklpllphiaaa.pl
