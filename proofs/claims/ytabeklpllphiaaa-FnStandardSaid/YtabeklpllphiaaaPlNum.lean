/-
  PLAIN: decimal and hexadecimal numbers.
-/
import Derived.Test.YtabeklpllphiaaaPl
import Derived.Below
namespace Go.Proofs.Ytabeklpllphiaaa.pl

def dg (b : UInt8) : Bool := decide (48 ≤ b.toNat) && decide (b.toNat ≤ 57)
/-- the number that digits tell, on from n -/
def decV (n : Nat) (l : List UInt8) : Nat := l.foldl (fun n b => n * 10 + (b.toNat - 48)) n
/-- 1 to 9 digits -/
def decimal (l : List UInt8) : Option Nat := if l.all dg = true ∧ 1 ≤ l.length ∧ l.length ≤ 9 then some (decV 0 l) else none

theorem decV_snoc (n : Nat) (l : List UInt8) (b : UInt8) : decV n (l ++ [b]) = decV n l * 10 + (b.toNat - 48) := by simp [decV]
theorem decV_cons (n : Nat) (b : UInt8) (l : List UInt8) : decV n (b :: l) = decV (n * 10 + (b.toNat - 48)) l := by unfold decV; rw [List.foldl_cons]

theorem dg_int (b : UInt8) : dg b = true ↔ 48 ≤ (b.toNat : Int) ∧ (b.toNat : Int) ≤ 57 := by
  unfold dg; simp only [Bool.and_eq_true, decide_eq_true_eq]; omega

theorem decV_lt (l : List UInt8) (h : l.all dg = true) : decV 0 l < 10 ^ l.length := by
  have : ∀ (l : List UInt8) (n m : Nat), l.all dg = true → n < 10 ^ m → decV n l < 10 ^ (m + l.length) := by
    intro l
    induction l with
    | nil => intro n m _ h; simpa [decV] using h
    | cons b l ih =>
      intro n m h hn
      rw [List.all_cons, Bool.and_eq_true] at h
      have hb := (dg_int b).1 h.1
      rw [decV_cons]
      have := ih (n * 10 + (b.toNat - 48)) (m + 1) h.2 (by rw [Nat.pow_succ]; omega)
      rw [List.length_cons]
      rw [show m + (l.length + 1) = m + 1 + l.length by omega]
      exact this
  have h2 := this l 0 0 h (by simp)
  simpa using h2

theorem decV_bound (l : List UInt8) (h : l.all dg = true) (hl : l.length ≤ 9) : decV 0 l ≤ 999999999 := by
  have h1 := decV_lt l h
  have h2 : 10 ^ l.length ≤ 10 ^ 9 := Nat.pow_le_pow_right (by omega) hl
  have : (10 : Nat) ^ 9 = 1000000000 := by decide
  omega

theorem decimal_bound (l : List UInt8) (n : Nat) (h : decimal l = some n) : n ≤ 999999999 := by
  unfold decimal at h
  split at h
  · rename_i hc
    injection h with h
    rw [← h]
    exact decV_bound l hc.1 hc.2.2
  · cases h

theorem all_dg_succ (s : ByteArray) (k : Nat) (h : k < s.size) (hd : (s.data.toList.take k).all dg = true) (hb : dg s[k] = true) : (s.data.toList.take (k + 1)).all dg = true := by
  rw [take_succ s k h, List.all_append, hd]; simp [hb]

theorem dg_not (s : ByteArray) (k : Nat) (h : k < s.size) (hb : dg s[k] = false) : decimal s.data.toList = none := by
  unfold decimal
  rw [if_neg]
  rintro ⟨ha, _⟩
  rw [List.all_eq_true] at ha
  have := ha _ (List.mem_of_getElem? (getElem_data s k h))
  rw [this] at hb
  cases hb

/-- the package's dtoi: what stands, the number so far, how many digits so far -/
def dt : List UInt8 → Nat → Nat → Nat × Nat × Bool
  | [], n, i => if i = 0 then (0, 0, false) else (n, i, true)
  | b :: r, n, i => if dg b = true then (if 16777215 ≤ n * 10 + (b.toNat - 48) then (16777215, i, false) else dt r (n * 10 + (b.toNat - 48)) (i + 1)) else if i = 0 then (0, 0, false) else (n, i, true)

theorem drop_cons' (s : ByteArray) (k : Nat) (h : k < s.size) : s.data.toList.drop k = s[k] :: s.data.toList.drop (k + 1) := by
  have hl : s.data.toList.length = s.size := by simp
  rw [List.drop_eq_getElem_cons (by omega)]; rfl

theorem decV_ge (l : List UInt8) : ∀ n, n ≤ decV n l := by
  induction l with
  | nil => intro n; exact Nat.le_refl _
  | cons b l ih => intro n; rw [decV_cons]; have := ih (n * 10 + (b.toNat - 48)); omega

theorem dt_app (ds rest : List UInt8) : ∀ n i, ds.all dg = true → decV n ds < 16777215 → dt (ds ++ rest) n i = dt rest (decV n ds) (i + ds.length) := by
  induction ds with
  | nil => intro n i _ _; rfl
  | cons b ds ih =>
    intro n i h hv
    rw [List.all_cons, Bool.and_eq_true] at h
    rw [decV_cons] at hv
    have h2 := decV_ge ds (n * 10 + (b.toNat - 48))
    rw [List.cons_append, dt, if_pos h.1, if_neg (by omega), ih _ _ h.2 hv, decV_cons, List.length_cons]
    congr 1
    omega

theorem dt_stop (rest : List UInt8) (n i : Nat) (hi : i ≠ 0) (hr : ∀ b, rest.head? = some b → dg b = false) : dt rest n i = (n, i, true) := by
  cases rest with
  | nil => show (if i = 0 then _ else _) = _; rw [if_neg hi]
  | cons b r =>
    show (if dg b = true then _ else _) = _
    rw [if_neg (by rw [hr b rfl]; simp), if_neg hi]

/-- the decimal number ahead of a text -/
theorem dec_law (ds rest : List UInt8) (n : Nat) (h : decimal ds = some n) (hn : n < 16777215) (hr : ∀ b, rest.head? = some b → dg b = false) : dt (ds ++ rest) 0 0 = (n, ds.length, true) := by
  unfold decimal at h
  split at h
  · rename_i hc
    injection h with h
    rw [dt_app ds rest 0 0 hc.1 (by omega), dt_stop _ _ _ (by omega) hr, h]
    simp
  · cases h

/-- the value of a hexadecimal digit -/
def hexv (b : UInt8) : Option Nat :=
  if 48 ≤ b.toNat ∧ b.toNat ≤ 57 then some (b.toNat - 48) else if 97 ≤ b.toNat ∧ b.toNat ≤ 102 then some (b.toNat - 87) else if 65 ≤ b.toNat ∧ b.toNat ≤ 70 then some (b.toNat - 55) else none

theorem hexv_lt (b : UInt8) (d : Nat) (h : hexv b = some d) : d < 16 := by
  unfold hexv at h
  repeat' split at h
  all_goals (first | (injection h with h; omega) | cases h)

open Go.RowKit in
theorem hexv_cases (b : UInt8) :
    ((Hid ((((hexv b).getD 0 : Nat) : Int) = (b.toNat : Int) - 48) ∧ Hid ((hexv b).isSome = true)) ∧ 48 ≤ (b.toNat : Int) ∧ (b.toNat : Int) ≤ 57) ∨
    ((Hid ((((hexv b).getD 0 : Nat) : Int) = (b.toNat : Int) - 97 + 10) ∧ Hid ((hexv b).isSome = true)) ∧ 97 ≤ (b.toNat : Int) ∧ (b.toNat : Int) ≤ 102) ∨
    ((Hid ((((hexv b).getD 0 : Nat) : Int) = (b.toNat : Int) - 65 + 10) ∧ Hid ((hexv b).isSome = true)) ∧ 65 ≤ (b.toNat : Int) ∧ (b.toNat : Int) ≤ 70) ∨
    ((Hid ((((hexv b).getD 0 : Nat) : Int) = 0) ∧ Hid ((hexv b).isSome = false)) ∧ (b.toNat : Int) < 48) ∨
    ((Hid ((((hexv b).getD 0 : Nat) : Int) = 0) ∧ Hid ((hexv b).isSome = false)) ∧ 57 < (b.toNat : Int) ∧ (b.toNat : Int) < 65) ∨
    ((Hid ((((hexv b).getD 0 : Nat) : Int) = 0) ∧ Hid ((hexv b).isSome = false)) ∧ 70 < (b.toNat : Int) ∧ (b.toNat : Int) < 97) ∨
    ((Hid ((((hexv b).getD 0 : Nat) : Int) = 0) ∧ Hid ((hexv b).isSome = false)) ∧ 102 < (b.toNat : Int)) := by
  unfold Hid hexv
  by_cases h1 : b.toNat < 48
  · rw [if_neg (by omega), if_neg (by omega), if_neg (by omega)]
    exact Or.inr (Or.inr (Or.inr (Or.inl ⟨⟨rfl, rfl⟩, by omega⟩)))
  by_cases h2 : b.toNat ≤ 57
  · rw [if_pos (by omega)]
    exact Or.inl ⟨⟨by rw [Option.getD_some]; omega, rfl⟩, by omega, by omega⟩
  by_cases h3 : b.toNat < 65
  · rw [if_neg (by omega), if_neg (by omega), if_neg (by omega)]
    exact Or.inr (Or.inr (Or.inr (Or.inr (Or.inl ⟨⟨rfl, rfl⟩, by omega, by omega⟩))))
  by_cases h4 : b.toNat ≤ 70
  · rw [if_neg (by omega), if_neg (by omega), if_pos (by omega)]
    exact Or.inr (Or.inr (Or.inl ⟨⟨by rw [Option.getD_some]; omega, rfl⟩, by omega, by omega⟩))
  by_cases h5 : b.toNat < 97
  · rw [if_neg (by omega), if_neg (by omega), if_neg (by omega)]
    exact Or.inr (Or.inr (Or.inr (Or.inr (Or.inr (Or.inl ⟨⟨rfl, rfl⟩, by omega, by omega⟩)))))
  by_cases h6 : b.toNat ≤ 102
  · rw [if_neg (by omega), if_pos (by omega)]
    exact Or.inr (Or.inl ⟨⟨by rw [Option.getD_some]; omega, rfl⟩, by omega, by omega⟩)
  · rw [if_neg (by omega), if_neg (by omega), if_neg (by omega)]
    exact Or.inr (Or.inr (Or.inr (Or.inr (Or.inr (Or.inr ⟨⟨rfl, rfl⟩, by omega⟩)))))

/-- the package's xtoi -/
def xt : List UInt8 → Nat → Nat → Nat × Nat × Bool
  | [], n, i => if i = 0 then (0, i, false) else (n, i, true)
  | b :: r, n, i => match hexv b with
    | some d => if 16777215 ≤ n * 16 + d then (0, i, false) else xt r (n * 16 + d) (i + 1)
    | none => if i = 0 then (0, i, false) else (n, i, true)

def hexF (n : Nat) (b : UInt8) : Nat := n * 16 + (hexv b).getD 0
/-- the number that hexadecimal digits tell, on from n -/
def hexV (n : Nat) (l : List UInt8) : Nat := l.foldl hexF n
def isHex (b : UInt8) : Bool := (hexv b).isSome

theorem hexV_cons (n : Nat) (b : UInt8) (l : List UInt8) : hexV n (b :: l) = hexV (n * 16 + (hexv b).getD 0) l := by unfold hexV; rw [List.foldl_cons]; rfl
theorem hexV_snoc (n : Nat) (l : List UInt8) (b : UInt8) : hexV n (l ++ [b]) = hexV n l * 16 + (hexv b).getD 0 := by simp [hexV, hexF]

theorem hexV_ge (l : List UInt8) : ∀ n, n ≤ hexV n l := by
  induction l with
  | nil => intro n; exact Nat.le_refl _
  | cons b l ih => intro n; rw [hexV_cons]; have := ih (n * 16 + (hexv b).getD 0); omega

theorem hexD_lt (b : UInt8) : (hexv b).getD 0 < 16 := by
  cases h : hexv b with
  | none => simp
  | some d => exact hexv_lt b d h

theorem hexV_lt (l : List UInt8) : hexV 0 l < 16 ^ l.length := by
  have : ∀ (l : List UInt8) (n m : Nat), n < 16 ^ m → hexV n l < 16 ^ (m + l.length) := by
    intro l
    induction l with
    | nil => intro n m h; simpa [hexV] using h
    | cons b l ih =>
      intro n m hn
      have hb := hexD_lt b
      rw [hexV_cons]
      have := ih (n * 16 + (hexv b).getD 0) (m + 1) (by rw [Nat.pow_succ]; omega)
      rw [List.length_cons]
      rw [show m + (l.length + 1) = m + 1 + l.length by omega]
      exact this
  have h2 := this l 0 0 (by simp)
  simpa using h2

theorem xt_app (ds rest : List UInt8) : ∀ n i, ds.all isHex = true → hexV n ds < 16777215 → xt (ds ++ rest) n i = xt rest (hexV n ds) (i + ds.length) := by
  induction ds with
  | nil => intro n i _ _; rfl
  | cons b ds ih =>
    intro n i h hv
    rw [List.all_cons, Bool.and_eq_true] at h
    rw [hexV_cons] at hv
    have h2 := hexV_ge ds (n * 16 + (hexv b).getD 0)
    obtain ⟨d, hd⟩ := Option.isSome_iff_exists.1 h.1
    rw [hd, Option.getD_some] at hv h2
    rw [List.cons_append, xt, hd]
    simp only
    rw [if_neg (by omega), ih _ _ h.2 hv, hexV_cons, hd, Option.getD_some, List.length_cons]
    congr 1
    omega

theorem xt_stop (rest : List UInt8) (n i : Nat) (hi : i ≠ 0) (hr : ∀ b, rest.head? = some b → hexv b = none) : xt rest n i = (n, i, true) := by
  cases rest with
  | nil => show (if i = 0 then _ else _) = _; rw [if_neg hi]
  | cons b r =>
    show (match hexv b with | some d => _ | none => _) = _
    rw [hr b rfl]
    simp only
    rw [if_neg hi]

theorem hex_law (ds rest : List UInt8) (h0 : ds ≠ []) (h : ds.all isHex = true) (hl : ds.length ≤ 5) (hr : ∀ b, rest.head? = some b → hexv b = none) : xt (ds ++ rest) 0 0 = (hexV 0 ds, ds.length, true) := by
  have h1 := hexV_lt ds
  have h2 : 16 ^ ds.length ≤ 16 ^ 5 := Nat.pow_le_pow_right (by omega) hl
  have h3 : (16 : Nat) ^ 5 = 1048576 := by decide
  have h4 := List.length_pos_iff.2 h0
  rw [xt_app ds rest 0 0 h (by omega), xt_stop _ _ _ (by omega) hr]
  simp

end Go.Proofs.Ytabeklpllphiaaa.pl
