/-
  PLAIN: functions on lists of bytes; nothing of the program.
-/
import Derived.Lib.Strings
import Derived.Lib.IndexBytes
namespace Go.Proofs.Ytabeklpllphiaaa.pl

/-- is this byte the number c? -/
def isB (c : Int) (b : UInt8) : Bool := (b.toNat : Int) == c

/-- the first place of a byte, or -1 -/
def idx (l : List UInt8) (c : Int) : Int :=
  match l.findIdx? (isB c) with
  | some i => (i : Int)
  | none => -1

theorem take_succ (s : ByteArray) (k : Nat) (h : k < s.size) : s.data.toList.take (k + 1) = s.data.toList.take k ++ [s[k]] := by
  rw [List.take_succ_eq_append_getElem (by simpa using h)]; rfl

theorem getElem_data (s : ByteArray) (k : Nat) (h : k < s.size) : s.data.toList[k]? = some s[k] := by
  rw [List.getElem?_eq_getElem (by simpa using h)]; rfl

theorem idx_hit (s : ByteArray) (c : Int) (k : Nat) (h : k < s.size) (hn : ∀ x ∈ s.data.toList.take k, isB c x = false) (hk : ((s[k].toNat : Int) == c) = true) : idx s.data.toList c = k := by
  have : s.data.toList.findIdx? (isB c) = some k := by
    rw [List.findIdx?_eq_some_iff_getElem]
    refine ⟨by simpa using h, hk, fun j hj => ?_⟩
    have := hn (s.data.toList[j]'(by have : k < s.data.toList.length := by simpa using h
                                     omega)) (by
      rw [List.mem_take_iff_getElem]
      exact ⟨j, by have : k < s.data.toList.length := by simpa using h
                   omega, rfl⟩)
    simpa using this
  simp [idx, this]

theorem idx_miss (l : List UInt8) (c : Int) (hn : ∀ x ∈ l, isB c x = false) : idx l c = -1 := by
  have : l.findIdx? (isB c) = none := by
    rw [List.findIdx?_eq_none_iff]; exact hn
  simp [idx, this]

theorem none_succ (s : ByteArray) (c : Int) (k : Nat) (h : k < s.size) (hn : ∀ x ∈ s.data.toList.take k, isB c x = false) (hk : ((s[k].toNat : Int) == c) = false) : ∀ x ∈ s.data.toList.take (k + 1), isB c x = false := by
  rw [take_succ s k h]
  intro x hx
  rw [List.mem_append] at hx
  rcases hx with hx | hx
  · exact hn x hx
  · rw [List.mem_singleton] at hx
    subst hx
    exact hk

theorem none_all (s : ByteArray) (c : Int) (k : Nat) (h : s.size ≤ k) (hn : ∀ x ∈ s.data.toList.take k, isB c x = false) : ∀ x ∈ s.data.toList, isB c x = false := by
  rw [List.take_of_length_le (by simpa using h)] at hn
  exact hn

theorem ba_ext {a b : ByteArray} (h : a.data.toList = b.data.toList) : a = b := by
  obtain ⟨⟨a⟩⟩ := a
  obtain ⟨⟨b⟩⟩ := b
  simp at h
  rw [h]

/-- host and port by a colon, a host with a colon in brackets -/
def joined (h p : List UInt8) : List UInt8 := if 0 ≤ idx h 58 then 91 :: h ++ [93, 58] ++ p else h ++ [58] ++ p

/-- has the one a byte of the other? -/
def has (l m : List UInt8) : Bool := l.any (fun b => m.contains b)

theorem has_hit (s t : ByteArray) (i k : Nat) (hi : i < s.size) (hk : k < t.size) (h : ((s[i].toNat : Int) == (t[k].toNat : Int)) = true) : has s.data.toList t.data.toList = true := by
  have e : s[i] = t[k] := by
    have := beq_iff_eq.1 h
    exact UInt8.toNat_inj.1 (by omega)
  rw [has, List.any_eq_true]
  refine ⟨s[i], List.mem_of_getElem? (getElem_data s i hi), ?_⟩
  rw [e, List.contains_iff_mem]
  exact List.mem_of_getElem? (getElem_data t k hk)

theorem has_no (l m : List UInt8) (h : ∀ x ∈ l, x ∉ m) : has l m = false := by
  rw [has, List.any_eq_false]
  intro x hx
  rw [List.contains_iff_mem]
  exact h x hx

theorem nin_succ (t : ByteArray) (b : UInt8) (k : Nat) (hk : k < t.size) (hn : b ∉ t.data.toList.take k) (h : ((b.toNat : Int) == (t[k].toNat : Int)) = false) : b ∉ t.data.toList.take (k + 1) := by
  rw [take_succ t k hk, List.mem_append, List.mem_singleton]
  rintro (h1 | h1)
  · exact hn h1
  · rw [h1] at h
    simp at h

theorem all_succ (s : ByteArray) (P : UInt8 → Prop) (k : Nat) (hk : k < s.size) (hn : ∀ x ∈ s.data.toList.take k, P x) (h : P s[k]) : ∀ x ∈ s.data.toList.take (k + 1), P x := by
  intro x hx
  rw [take_succ s k hk, List.mem_append, List.mem_singleton] at hx
  rcases hx with h1 | h1
  · exact hn x h1
  · rw [h1]; exact h

theorem take_all (s : ByteArray) (k : Nat) (h : s.size ≤ k) : s.data.toList.take k = s.data.toList := List.take_of_length_le (by simpa using h)

theorem idx_ge (l : List UInt8) (c : UInt8) : (0 ≤ idx l c.toNat) ↔ c ∈ l := by
  unfold idx
  constructor
  · intro h
    cases hf : l.findIdx? (isB c.toNat) with
    | none => rw [hf] at h; simp at h
    | some i =>
      obtain ⟨hi, hp, _⟩ := List.findIdx?_eq_some_iff_getElem.1 hf
      have : l[i] = c := by
        have := beq_iff_eq.1 hp
        exact UInt8.toNat_inj.1 (by omega)
      rw [← this]
      exact List.getElem_mem hi
  · intro h
    cases hf : l.findIdx? (isB c.toNat) with
    | none =>
      rw [List.findIdx?_eq_none_iff] at hf
      have := hf c h
      simp [isB] at this
    | some i => simp

theorem has_one (l : List UInt8) (c : UInt8) : has l [c] = true ↔ c ∈ l := by
  rw [has, List.any_eq_true]
  constructor
  · rintro ⟨x, hx, h⟩
    simp at h
    rw [← h]; exact hx
  · intro h
    exact ⟨c, h, by simp⟩

theorem joined_yes (h p : List UInt8) (hh : has h [58] = true) : joined h p = 91 :: h ++ [93, 58] ++ p := by
  rw [joined, if_pos]
  exact (idx_ge h 58).2 ((has_one h 58).1 hh)

theorem joined_no (h p : List UInt8) (hh : has h [58] = false) : joined h p = h ++ [58] ++ p := by
  rw [joined, if_neg]
  intro hc
  rw [(has_one h 58).2 ((idx_ge h 58).1 hc)] at hh
  exact absurd hh (by decide)

/-- a name with a point in it gets one at its end -/
def absN (l : List UInt8) : List UInt8 := if has l [46] = true ∧ l.getLast? ≠ some 46 then l ++ [46] else l

theorem idx_ne (l : List UInt8) (c : UInt8) (k : Int) (hk : (c.toNat : Int) = k) : (idx l k != -1) = has l [c] := by
  subst hk
  have h1 := idx_ge l c
  have h2 := has_one l c
  have h3 : -1 ≤ idx l c.toNat := by unfold idx; split <;> omega
  rw [Bool.eq_iff_iff, bne_iff_ne, h2, ← h1]
  omega

theorem has_size (s : ByteArray) (c : UInt8) (h : has s.data.toList [c] = true) : 1 ≤ s.size := by
  have := (has_one _ _).1 h
  have h2 := List.length_pos_of_mem this
  have h3 : s.data.toList.length = s.size := by simp
  omega

theorem last_get (s : ByteArray) (h : 1 ≤ s.size) : s.data.toList.getLast? = some (s[s.size - 1]) := by
  rw [List.getLast?_eq_getElem?]
  have : s.data.toList.length = s.size := by simp
  rw [this]
  exact getElem_data s _ (by omega)

theorem absN_no (l : List UInt8) (h : has l [46] = false) : absN l = l := by
  rw [absN, if_neg (by rw [h]; simp)]

theorem absN_dot (s : ByteArray) (h : 1 ≤ s.size) (hl : ((s[s.size - 1].toNat : Int) != 46) = false) : absN s.data.toList = s.data.toList := by
  rw [absN, if_neg]
  rintro ⟨_, h2⟩
  rw [last_get s h] at h2
  apply h2
  congr 1
  apply UInt8.toNat_inj.1
  simp at hl
  have : (46 : UInt8).toNat = 46 := rfl
  omega

theorem absN_yes (s : ByteArray) (h : 1 ≤ s.size) (hh : has s.data.toList [46] = true) (hl : ((s[s.size - 1].toNat : Int) != 46) = true) : absN s.data.toList = s.data.toList ++ [46] := by
  rw [absN, if_pos]
  refine ⟨hh, ?_⟩
  rw [last_get s h]
  intro e
  injection e with e
  rw [e] at hl
  exact absurd hl (by decide)

theorem last_ne (s : ByteArray) (h : 1 ≤ s.size) (h4 : s.data.toList.getLast? ≠ some 46) : ((s[s.size - 1].toNat : Int) != 46) = true := by
  rw [bne_iff_ne]
  intro e
  apply h4
  rw [last_get s h]
  congr 1
  apply UInt8.toNat_inj.1
  have : (46 : UInt8).toNat = 46 := rfl
  omega

theorem last_eq (s : ByteArray) (h : 1 ≤ s.size) (h4 : s.data.toList.getLast? = some 46) : ((s[s.size - 1].toNat : Int) == 46) = true := by
  rw [last_get s h] at h4
  injection h4 with h4
  rw [h4]; rfl

/-- a letter made small -/
def lowB (b : UInt8) : UInt8 := if 65 ≤ b.toNat ∧ b.toNat ≤ 90 then b + 32 else b
def low (l : List UInt8) : List UInt8 := l.map lowB

theorem lowB_yes (b : UInt8) (h1 : 65 ≤ (b.toNat : Int)) (h2 : (b.toNat : Int) ≤ 90) : ((lowB b).toNat : Int) = (b.toNat : Int) + 97 - 65 := by
  rw [lowB, if_pos (by omega), UInt8.toNat_add]
  have : (32 : UInt8).toNat = 32 := rfl
  omega

theorem lowB_no (b : UInt8) (h : ¬ (65 ≤ (b.toNat : Int) ∧ (b.toNat : Int) ≤ 90)) : lowB b = b := by
  rw [lowB, if_neg (by omega)]

/-- the first k bytes by f, the others as they were -/
def part (f : UInt8 → UInt8) (l : List UInt8) (k : Nat) : List UInt8 := (l.take k).map f ++ l.drop k

theorem part_len (f : UInt8 → UInt8) (l : List UInt8) (k : Nat) : (part f l k).length = l.length := by
  simp [part]; omega

theorem part_zero (f : UInt8 → UInt8) (l : List UInt8) : part f l 0 = l := by simp [part]

theorem part_all (f : UInt8 → UInt8) (l : List UInt8) (k : Nat) (h : l.length ≤ k) : part f l k = l.map f := by
  simp [part, List.take_of_length_le h, List.drop_eq_nil_of_le h]

theorem part_at (f : UInt8 → UInt8) (s : ByteArray) (k : Nat) (h : k < s.size) : (part f s.data.toList k)[k]? = some s[k] := by
  have hl : s.data.toList.length = s.size := by simp
  rw [part, List.getElem?_append_right (by simp; omega)]
  have : k - ((s.data.toList.take k).map f).length = 0 := by simp; omega
  rw [this, List.getElem?_drop, Nat.add_zero]
  exact getElem_data s k h

theorem part_succ (f : UInt8 → UInt8) (s : ByteArray) (k : Nat) (h : k < s.size) : (part f s.data.toList k).set k (f s[k]) = part f s.data.toList (k + 1) := by
  have hl : s.data.toList.length = s.size := by simp
  have hd : s.data.toList.drop k = s[k] :: s.data.toList.drop (k + 1) := by
    rw [List.drop_eq_getElem_cons (by omega)]; rfl
  rw [part, part, take_succ s k h, List.set_append_right _ _ (by simp; omega), hd]
  have : k - ((s.data.toList.take k).map f).length = 0 := by simp; omega
  rw [this]
  simp

theorem part_same (f : UInt8 → UInt8) (s : ByteArray) (k : Nat) (h : k < s.size) (e : f s[k] = s[k]) : part f s.data.toList k = part f s.data.toList (k + 1) := by
  have hl : s.data.toList.length = s.size := by simp
  have hd : s.data.toList.drop k = s[k] :: s.data.toList.drop (k + 1) := by
    rw [List.drop_eq_getElem_cons (by omega)]; rfl
  rw [part, part, take_succ s k h, hd]
  simp [e]

/-- one byte of a split: what has been cut off, and what stands since the last cut -/
def stepS (c : Int) (a : List (List UInt8) × List UInt8) (b : UInt8) : List (List UInt8) × List UInt8 :=
  if isB c b then (a.1 ++ [a.2], []) else (a.1, a.2 ++ [b])
def runS (c : Int) (l : List UInt8) : List (List UInt8) × List UInt8 := l.foldl (stepS c) ([], [])
/-- the parts between places of a byte -/
def split (c : Int) (l : List UInt8) : List (List UInt8) := (runS c l).1 ++ [(runS c l).2]

theorem runS_snoc (c : Int) (l : List UInt8) (b : UInt8) : runS c (l ++ [b]) = stepS c (runS c l) b := by
  simp [runS]

theorem runS_succ (c : Int) (s : ByteArray) (k : Nat) (h : k < s.size) : runS c (s.data.toList.take (k + 1)) = stepS c (runS c (s.data.toList.take k)) s[k] := by
  rw [take_succ s k h, runS_snoc]

theorem runS_len (c : Int) (l : List UInt8) : (runS c l).1.length ≤ l.length := by
  have : ∀ (m : List UInt8) (a : List (List UInt8) × List UInt8), (m.foldl (stepS c) a).1.length ≤ a.1.length + m.length := by
    intro m
    induction m with
    | nil => intro a; simp
    | cons b m ih =>
      intro a
      rw [List.foldl_cons]
      have := ih (stepS c a b)
      have h2 : (stepS c a b).1.length ≤ a.1.length + 1 := by
        unfold stepS; split <;> simp
      simp only [List.length_cons]
      omega
  simpa [runS] using this l ([], [])

theorem size_mk (l : List UInt8) : (⟨l.toArray⟩ : ByteArray).size = l.length := rfl

theorem take_drop_succ (s : ByteArray) (f k : Nat) (hf : f ≤ k) (h : k < s.size) : (s.data.toList.take (k + 1)).drop f = (s.data.toList.take k).drop f ++ [s[k]] := by
  have hl : s.data.toList.length = s.size := by simp
  rw [take_succ s k h, List.drop_append_of_le_length (by rw [List.length_take]; omega)]

/-- a string as a value -/
def strV (l : List UInt8) : Value := .string ⟨l.toArray⟩

theorem extract_strV (s : ByteArray) (f k : Nat) : Value.string (s.extract f k) = strV ((s.data.toList.take k).drop f) := by
  rw [strV, Lib.extract_eq]
  congr 3
  rw [List.drop_take]

end Go.Proofs.Ytabeklpllphiaaa.pl
