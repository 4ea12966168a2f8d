/-
  PLAIN: what the package's reading of an address has yet to find, against the reference's.
-/
import Derived.Test.YtfkohahlpfejbaaDoorPlIp
namespace Go.Proofs.YtfkohahlpfejbaaDoor.pl

/-! ### split, from its head -/
theorem runS_app (c : Int) (p : List UInt8) (a : List (List UInt8) × List UInt8) (h : ∀ x ∈ p, isB c x = false) : p.foldl (stepS c) a = (a.1, a.2 ++ p) := by
  induction p generalizing a with
  | nil => simp
  | cons x p ih =>
    rw [List.foldl_cons, stepS, h x (by simp)]
    simp only [Bool.false_eq_true, if_false]
    rw [ih _ (fun y hy => h y (by simp [hy]))]
    simp
theorem runS_pre (c : Int) (l : List UInt8) (a : List (List UInt8)) (b : List UInt8) : l.foldl (stepS c) (a, b) = (a ++ (l.foldl (stepS c) ([], b)).1, (l.foldl (stepS c) ([], b)).2) := by
  induction l generalizing a b with
  | nil => simp
  | cons x l ih =>
    rw [List.foldl_cons, List.foldl_cons]
    by_cases hx : isB c x = true
    · have e : ∀ y : List (List UInt8) × List UInt8, stepS c y x = (y.1 ++ [y.2], []) := fun y => by unfold stepS; rw [if_pos hx]
      rw [e, e, ih, ih ([] ++ [b])]
      simp
    · have e : ∀ y : List (List UInt8) × List UInt8, stepS c y x = (y.1, y.2 ++ [x]) := fun y => by unfold stepS; rw [if_neg hx]
      rw [e, e]
      exact ih _ _
theorem split_one (c : Int) (p : List UInt8) (h : ∀ x ∈ p, isB c x = false) : split c p = [p] := by
  unfold split runS
  rw [runS_app c p _ h]
  simp
theorem split_app (c : Int) (p : List UInt8) (x : UInt8) (r : List UInt8) (h : ∀ y ∈ p, isB c y = false) (hx : isB c x = true) : split c (p ++ x :: r) = p :: split c r := by
  unfold split runS
  rw [List.foldl_append, runS_app c p _ h, List.foldl_cons, stepS]
  simp only [hx, if_true]
  rw [runS_pre]
  simp
theorem first_at (c : Int) (l : List UInt8) : (∀ y ∈ l, isB c y = false) ∨ ∃ p x r, l = p ++ x :: r ∧ (∀ y ∈ p, isB c y = false) ∧ isB c x = true := by
  induction l with
  | nil => left; simp
  | cons a l ih =>
    by_cases ha : isB c a = true
    · exact .inr ⟨[], a, l, rfl, by simp, ha⟩
    · have ha' : isB c a = false := by simpa using ha
      rcases ih with h | ⟨p, x, r, rfl, hp, hx⟩
      · left; intro y hy
        rcases List.mem_cons.1 hy with rfl | hy
        · exact ha'
        · exact h y hy
      · refine .inr ⟨a :: p, x, r, rfl, fun y hy => ?_, hx⟩
        rcases List.mem_cons.1 hy with rfl | hy
        · exact ha'
        · exact hp y hy

/-! ### IPv4: the finished numbers, the digits since the last point, what stands -/
theorem oct_nil : oct [] = none := rfl
theorem oct_bad_digit (p : List UInt8) (x : UInt8) (hx : x ∈ p) (hd : dg x = false) : oct p = none := by
  have : decimal p = none := by
    unfold decimal
    rw [if_neg]
    rintro ⟨ha, _⟩
    rw [List.all_eq_true] at ha
    rw [ha x hx] at hd
    cases hd
  unfold oct
  rw [this]
theorem oct_zero (p : List UInt8) (x : UInt8) : oct (48 :: x :: p) = none := by
  unfold oct
  cases decimal (48 :: x :: p) with
  | none => rfl
  | some n => show (if _ then _ else _) = _; rw [if_pos]; right; simp
theorem decV_more (n : Nat) (p q : List UInt8) : decV n p ≤ decV n (p ++ q) := by
  unfold decV
  rw [List.foldl_append]
  exact decV_ge q _
theorem oct_large (p q : List UInt8) (h : 255 < decV 0 p) : oct (p ++ q) = none := by
  have := decV_more 0 p q
  unfold oct decimal
  by_cases hc : (p ++ q).all dg = true ∧ 1 ≤ (p ++ q).length ∧ (p ++ q).length ≤ 9
  · rw [if_pos hc]; show (if _ then _ else _) = _; rw [if_pos]; left; omega
  · rw [if_neg hc]

theorem decV_small (b : UInt8) (p : List UInt8) (hb : dg b = true) (h0 : b ≠ 48) : 10 ^ p.length ≤ decV 0 (b :: p) := by
  have hb2 : 1 ≤ b.toNat - 48 := by
    have h1 := (dg_int b).1 hb
    have h2 : b.toNat ≠ 48 := fun e => h0 (UInt8.toNat_inj.1 (by simpa using e))
    omega
  have : ∀ (p : List UInt8) (n : Nat), n * 10 ^ p.length ≤ decV n p := by
    intro p
    induction p with
    | nil => intro n; simp [decV]
    | cons x p ih =>
      intro n
      rw [decV_cons]
      have := ih (n * 10 + (x.toNat - 48))
      rw [List.length_cons, Nat.pow_succ]
      have h2 : n * 10 * 10 ^ p.length ≤ (n * 10 + (x.toNat - 48)) * 10 ^ p.length := Nat.mul_le_mul_right _ (by omega)
      have e : n * (10 ^ p.length * 10) = n * 10 * 10 ^ p.length := by rw [Nat.mul_comm (10 ^ p.length) 10, Nat.mul_assoc]
      omega
  rw [decV_cons]
  have h3 := this p (0 * 10 + (b.toNat - 48))
  have h4 : 1 * 10 ^ p.length ≤ (0 * 10 + (b.toNat - 48)) * 10 ^ p.length := Nat.mul_le_mul_right _ (by omega)
  omega

/-- digits up to 255, and no nought ahead -/
theorem oct_good (cur : List UInt8) (hne : cur ≠ []) (hd : cur.all dg = true) (hv : decV 0 cur ≤ 255) (h0 : 1 < cur.length → cur.head? ≠ some 48) : oct cur = some (UInt8.ofNat (decV 0 cur)) := by
  have hlen : cur.length ≤ 3 := by
    cases cur with
    | nil => simp
    | cons b p =>
      rw [List.all_cons, Bool.and_eq_true] at hd
      by_cases hp : p = []
      · subst hp; simp
      · have h1 : b ≠ 48 := fun e => h0 (by have := List.length_pos_iff.2 hp; simp; omega) (by simp [e])
        have h2 := decV_small b p hd.1 h1
        rcases Nat.lt_or_ge p.length 3 with h3 | h3
        · simp; omega
        · have h4 : 10 ^ 3 ≤ 10 ^ p.length := Nat.pow_le_pow_right (by omega) h3
          omega
  have h1 := List.length_pos_iff.2 hne
  unfold oct decimal
  rw [if_pos ⟨hd, h1, by omega⟩]
  show (if _ then _ else _) = _
  rw [if_neg]
  rintro (h | ⟨h2, h3⟩)
  · omega
  · exact h0 h2 h3

/-- what is left to find of an address of IPv4 -/
def rest4 (done cur rest : List UInt8) : Option (List UInt8) :=
  match octs (split 46 (cur ++ rest)) with
  | some l => if done.length + l.length = 4 then some (done ++ l) else none
  | none => none
theorem rest4_start (s : List UInt8) : rest4 [] [] s = four s := by
  unfold rest4 four
  rw [List.nil_append]
  cases octs (split 46 s) with
  | none => rfl
  | some l => simp

theorem dg_no46 (p : List UInt8) (h : p.all dg = true) : ∀ y ∈ p, isB 46 y = false := by
  intro y hy
  rw [List.all_eq_true] at h
  have := (dg_int y).1 (h y hy)
  unfold isB
  rw [beq_eq_false_iff_ne]
  omega
/-- the first part begins with these digits -/
theorem split_head (c : Int) (p r : List UInt8) (h : ∀ y ∈ p, isB c y = false) : ∃ q t, split c (p ++ r) = (p ++ q) :: t ∧ ((q = r ∧ t = []) ∨ ∃ x r', r = q ++ x :: r' ∧ isB c x = true ∧ t = split c r') := by
  rcases first_at c r with hr | ⟨q, x, r', rfl, hp, hx⟩
  · exact ⟨r, [], split_one c (p ++ r) (fun y hy => (List.mem_append.1 hy).elim (h y) (hr y)), .inl ⟨rfl, rfl⟩⟩
  · refine ⟨q, split c r', ?_, .inr ⟨x, r', rfl, hx, rfl⟩⟩
    rw [← List.append_assoc]
    exact split_app c (p ++ q) x r' (fun y hy => (List.mem_append.1 hy).elim (h y) (hp y)) hx

theorem octs_cons (p : List UInt8) (r : List (List UInt8)) : octs (p :: r) = (match oct p, octs r with
    | some a, some b => some (a :: b)
    | _, _ => none) := rfl
theorem octs_head_bad (p : List UInt8) (t : List (List UInt8)) (h : oct p = none) : octs (p :: t) = none := octs_bad [] t p h

/-- a further digit -/
theorem rest4_digit (done cur rest : List UInt8) (b : UInt8) : rest4 done cur (b :: rest) = rest4 done (cur ++ [b]) rest := by
  unfold rest4
  rw [List.append_assoc]
  rfl
theorem rest4_zero (done rest : List UInt8) (b : UInt8) (hb : dg b = true) : rest4 done [48] (b :: rest) = none := by
  have h2 : ∀ y ∈ [48, b], isB 46 y = false := dg_no46 _ (by simp [hb]; decide)
  obtain ⟨q, t, e, _⟩ := split_head 46 [48, b] rest h2
  unfold rest4
  show (match octs (split 46 ([48, b] ++ rest)) with | some l => _ | none => _) = _
  rw [e, octs_head_bad _ _ (show oct ([48, b] ++ q) = none from oct_zero q b)]
theorem rest4_large (done cur rest : List UInt8) (hd : cur.all dg = true) (h : 255 < decV 0 cur) : rest4 done cur rest = none := by
  obtain ⟨q, t, e, _⟩ := split_head 46 cur rest (dg_no46 cur hd)
  unfold rest4
  rw [e, octs_head_bad _ _ (oct_large cur q h)]
theorem rest4_char (done cur rest : List UInt8) (b : UInt8) (hd : cur.all dg = true) (hb : dg b = false) (h46 : b ≠ 46) : rest4 done cur (b :: rest) = none := by
  obtain ⟨q, t, e, h⟩ := split_head 46 cur (b :: rest) (dg_no46 cur hd)
  have hm : b ∈ cur ++ q := by
    rcases h with ⟨rfl, _⟩ | ⟨x, r', hr, hx, _⟩
    · simp
    · cases q with
      | nil =>
        simp at hr
        exfalso
        rw [← hr.1] at hx
        unfold isB at hx
        have : (b.toNat : Int) = 46 := by simpa using hx
        exact h46 (UInt8.toNat_inj.1 (by simpa using (by omega : b.toNat = 46)))
      | cons y q => simp at hr; simp [hr.1]
  unfold rest4
  rw [e, octs_head_bad _ _ (oct_bad_digit _ b hm hb)]
theorem rest4_dot (done cur rest : List UInt8) (hd : cur.all dg = true) : rest4 done cur (46 :: rest) = (match oct cur with
    | some b => rest4 (done ++ [b]) [] rest
    | none => none) := by
  unfold rest4
  rw [split_app 46 cur 46 rest (dg_no46 cur hd) (by decide)]
  rw [octs_cons]
  cases oct cur with
  | none => rfl
  | some b =>
    rw [List.nil_append]
    cases octs (split 46 rest) with
    | none => rfl
    | some l =>
      show (if done.length + (b :: l).length = 4 then some (done ++ b :: l) else none) = (if (done ++ [b]).length + l.length = 4 then some (done ++ [b] ++ l) else none)
      have e1 : (done ++ [b]).length + l.length = done.length + (b :: l).length := by simp; omega
      rw [e1, List.append_assoc]
      rfl
theorem rest4_dot_empty (done rest : List UInt8) : rest4 done [] (46 :: rest) = none := by rw [rest4_dot _ _ _ rfl, oct_nil]
theorem rest4_nil_nil (done : List UInt8) : rest4 done [] [] = none := rfl
theorem rest4_dot_last (done cur : List UInt8) (hd : cur.all dg = true) : rest4 done cur [46] = none := by
  rw [rest4_dot _ _ _ hd]
  cases oct cur with
  | none => rfl
  | some b => exact rest4_nil_nil _
theorem octs_pos (c : Int) (s l : List UInt8) (h : octs (split c s) = some l) : 1 ≤ l.length := by
  rw [octs_len _ _ h]
  unfold split
  simp
theorem rest4_four (done cur rest : List UInt8) (hd : cur.all dg = true) (h3 : done.length = 3) : rest4 done cur (46 :: rest) = none := by
  rw [rest4_dot _ _ _ hd]
  cases oct cur with
  | none => rfl
  | some b =>
    unfold rest4
    simp only [List.nil_append]
    cases ho : octs (split 46 rest) with
    | none => rfl
    | some l =>
      have := octs_pos _ _ _ ho
      simp only [List.length_append, List.length_cons, List.length_nil]
      rw [if_neg (by omega)]
theorem rest4_end (done cur : List UInt8) (hd : cur.all dg = true) : rest4 done cur [] = (match oct cur with
    | some b => if done.length = 3 then some (done ++ [b]) else none
    | none => none) := by
  unfold rest4
  rw [List.append_nil, split_one 46 cur (dg_no46 cur hd)]
  rw [octs_cons]
  cases oct cur with
  | none => rfl
  | some b =>
    show (if done.length + [b].length = 4 then some (done ++ [b]) else none) = (if done.length = 3 then some (done ++ [b]) else none)
    by_cases h : done.length = 3
    · rw [if_pos (by simp [h]), if_pos h]
    · rw [if_neg (by simp; omega), if_neg h]
theorem rest4_short (done cur : List UInt8) (hd : cur.all dg = true) (h : done.length < 3) : rest4 done cur [] = none := by
  rw [rest4_end _ _ hd]
  cases oct cur with
  | none => rfl
  | some b => simp only; rw [if_neg (by omega)]

end Go.Proofs.YtfkohahlpfejbaaDoor.pl
