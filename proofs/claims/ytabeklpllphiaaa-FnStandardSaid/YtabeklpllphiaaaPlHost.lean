/-
  PLAIN: the last place of a byte; hosts, ports and zones.
-/
import Derived.Test.YtabeklpllphiaaaPlIsN
namespace Go.Proofs.Ytabeklpllphiaaa.pl

/-- the last place of a byte, or -1 -/
def lidx (l : List UInt8) (c : Int) : Int :=
  match l.reverse.findIdx? (isB c) with
  | some j => (l.length : Int) - 1 - j
  | none => -1

theorem drop_cons (s : ByteArray) (k : Nat) (h : k < s.size) : s.data.toList.drop k = s[k] :: s.data.toList.drop (k + 1) := by
  have hl : s.data.toList.length = s.size := by simp
  rw [List.drop_eq_getElem_cons (by omega)]; rfl

theorem lidx_none (l : List UInt8) (c : Int) (h : ∀ x ∈ l, isB c x = false) : lidx l c = -1 := by
  have : l.reverse.findIdx? (isB c) = none := by
    rw [List.findIdx?_eq_none_iff]; intro x hx; exact h x (List.mem_reverse.1 hx)
  simp [lidx, this]

/-- a hit behind which there is none -/
theorem lidx_app (a b : List UInt8) (x : UInt8) (c : Int) (hx : isB c x = true) (hb : ∀ y ∈ b, isB c y = false) : lidx (a ++ x :: b) c = a.length := by
  have h : (a ++ x :: b).reverse.findIdx? (isB c) = some b.length := by
    rw [List.findIdx?_eq_some_iff_getElem]
    refine ⟨by simp, ?_, ?_⟩
    · simp [hx]
    · intro j hj
      have hjl : j < b.length := by omega
      have e : (a ++ x :: b).reverse[j]'(by simp; omega) = b.reverse[j]'(by simpa using hjl) := by
        simp only [List.reverse_append, List.reverse_cons, List.append_assoc]
        rw [List.getElem_append_left (by simpa using hjl)]
      rw [e]
      have := hb (b.reverse[j]'(by simpa using hjl)) (List.mem_reverse.1 (List.getElem_mem _))
      simpa using this
  unfold lidx
  rw [h]
  simp
  omega

theorem lidx_hit (s : ByteArray) (c : Int) (k : Nat) (h : k < s.size) (hk : ((s[k].toNat : Int) == c) = true) (hn : ∀ x ∈ s.data.toList.drop (k + 1), isB c x = false) : lidx s.data.toList c = k := by
  have hl : s.data.toList.length = s.size := by simp
  have e : s.data.toList = s.data.toList.take k ++ s[k] :: s.data.toList.drop (k + 1) := by
    rw [← drop_cons s k h, List.take_append_drop]
  rw [e, lidx_app _ _ _ _ hk hn, List.length_take]
  omega

theorem none_pred (s : ByteArray) (c : Int) (k : Nat) (h : k < s.size) (hn : ∀ x ∈ s.data.toList.drop (k + 1), isB c x = false) (hk : ((s[k].toNat : Int) == c) = false) : ∀ x ∈ s.data.toList.drop k, isB c x = false := by
  rw [drop_cons s k h]
  intro x hx
  rcases List.mem_cons.1 hx with rfl | hx
  · exact hk
  · exact hn x hx

/-- a text is cut at the last place of a byte -/
theorem lidx_parts (l : List UInt8) (c : UInt8) (h : 0 ≤ lidx l c.toNat) : ∃ a b, l = a ++ c :: b ∧ c ∉ b ∧ lidx l c.toNat = a.length := by
  refine snoc_ind (P := fun l => 0 ≤ lidx l c.toNat → ∃ a b, l = a ++ c :: b ∧ c ∉ b ∧ lidx l c.toNat = a.length) ?_ ?_ l h
  · intro h; simp [lidx] at h
  · intro l x ih h
    by_cases hx : x = c
    · subst hx
      exact ⟨l, [], rfl, by simp, by rw [lidx_app l [] x _ (by simp [isB]) (by simp)]⟩
    · by_cases hm : 0 ≤ lidx l c.toNat
      · obtain ⟨a, b, h1, h2, h3⟩ := ih hm
        have hnb : ∀ y ∈ b ++ [x], isB c.toNat y = false := by
          intro y hy
          unfold isB
          rw [beq_eq_false_iff_ne]
          intro e
          have : y = c := UInt8.toNat_inj.1 (by omega)
          subst this
          rcases List.mem_append.1 hy with hy | hy
          · exact h2 hy
          · exact hx (List.mem_singleton.1 hy).symm
        refine ⟨a, b ++ [x], by rw [h1]; simp, ?_, ?_⟩
        · intro hc
          have := hnb c hc
          simp [isB] at this
        · rw [h1]
          show lidx (a ++ c :: b ++ [x]) _ = _
          rw [List.append_assoc]
          exact lidx_app a (b ++ [x]) c _ (by simp [isB]) hnb
      · exfalso
        have hno : ∀ y ∈ l, isB c.toNat y = false := by
          intro y hy
          cases hb : isB c.toNat y with
          | false => rfl
          | true =>
            exfalso
            apply hm
            unfold lidx
            cases hf : l.reverse.findIdx? (isB c.toNat) with
            | none =>
              rw [List.findIdx?_eq_none_iff] at hf
              rw [hf y (List.mem_reverse.2 hy)] at hb
              cases hb
            | some j =>
              obtain ⟨hj, _⟩ := List.findIdx?_eq_some_iff_getElem.1 hf
              simp at hj
              simp
              omega
        have : lidx (l ++ [x]) c.toNat = -1 := by
          apply lidx_none
          intro y hy
          rcases List.mem_append.1 hy with hy | hy
          · exact hno y hy
          · rw [List.mem_singleton.1 hy]
            unfold isB
            rw [beq_eq_false_iff_ne]
            intro e
            exact hx (UInt8.toNat_inj.1 (by omega))
        omega

theorem lidx_neg (l : List UInt8) (c : UInt8) : lidx l c.toNat < 0 ↔ c ∉ l := by
  constructor
  · intro h hc
    have : ∀ y ∈ l.reverse, isB c.toNat y = false := by
      unfold lidx at h
      cases hf : l.reverse.findIdx? (isB c.toNat) with
      | none => rw [List.findIdx?_eq_none_iff] at hf; exact hf
      | some j =>
        rw [hf] at h
        obtain ⟨hj, _⟩ := List.findIdx?_eq_some_iff_getElem.1 hf
        simp at hj h
        omega
    have := this c (List.mem_reverse.2 hc)
    simp [isB] at this
  · intro h
    have hn : ∀ y ∈ l, isB c.toNat y = false := by
      intro y hy
      unfold isB
      rw [beq_eq_false_iff_ne]
      intro e
      apply h
      have : y = c := UInt8.toNat_inj.1 (by omega)
      rw [← this]; exact hy
    rw [lidx_none l _ hn]
    omega

theorem idx_neg (l : List UInt8) (c : UInt8) : idx l c.toNat < 0 ↔ c ∉ l := by
  rw [← idx_ge l c]; omega

/-- a text is cut at the first place of a byte -/
theorem idx_parts (l : List UInt8) (c : UInt8) (h : 0 ≤ idx l c.toNat) : ∃ a b, l = a ++ c :: b ∧ c ∉ a ∧ idx l c.toNat = a.length := by
  unfold idx at h ⊢
  cases hf : l.findIdx? (isB c.toNat) with
  | none => rw [hf] at h; simp at h
  | some i =>
    obtain ⟨hi, hp, hn⟩ := List.findIdx?_eq_some_iff_getElem.1 hf
    have hc : l[i] = c := by
      have := beq_iff_eq.1 hp
      exact UInt8.toNat_inj.1 (by omega)
    refine ⟨l.take i, l.drop (i + 1), ?_, ?_, ?_⟩
    · rw [← hc, ← List.drop_eq_getElem_cons hi, List.take_append_drop]
    · intro hm
      obtain ⟨j, hj, e⟩ := List.mem_take_iff_getElem.1 hm
      have := hn j (by omega)
      rw [e] at this
      simp [isB] at this
    · simp; omega

theorem idx_app (a b : List UInt8) (c : UInt8) (ha : c ∉ a) : idx (a ++ c :: b) c.toNat = a.length := by
  have : (a ++ c :: b).findIdx? (isB c.toNat) = some a.length := by
    rw [List.findIdx?_eq_some_iff_getElem]
    refine ⟨by simp, by simp [isB], ?_⟩
    intro j hj
    rw [List.getElem_append_left hj]
    have hne : a[j] ≠ c := by
      intro e; apply ha; rw [← e]; exact List.getElem_mem hj
    unfold isB
    simp only [beq_iff_eq]
    intro e
    exact hne (UInt8.toNat_inj.1 (by omega))
  simp [idx, this]

theorem idx_lt (l : List UInt8) (c : Int) : idx l c < l.length ∨ idx l c = -1 := by
  unfold idx
  cases hf : l.findIdx? (isB c) with
  | none => right; rfl
  | some i =>
    left
    obtain ⟨hi, _⟩ := List.findIdx?_eq_some_iff_getElem.1 hf
    simp; omega

theorem idx_ge_neg (l : List UInt8) (c : Int) : -1 ≤ idx l c := by
  unfold idx; split <;> omega

theorem lidx_lt (l : List UInt8) (c : Int) : lidx l c < l.length := by
  unfold lidx
  split <;> omega

theorem lidx_ge_neg (l : List UInt8) (c : Int) : -1 ≤ lidx l c := by
  unfold lidx
  split
  · rename_i j hf
    obtain ⟨hj, _⟩ := List.findIdx?_eq_some_iff_getElem.1 hf
    simp at hj
    omega
  · omega

theorem ext_take (s : ByteArray) (j : Nat) : s.extract 0 j = ⟨(s.data.toList.take j).toArray⟩ := by
  rw [Lib.extract_eq]; simp
theorem ext_drop (s : ByteArray) (j : Nat) : s.extract j s.size = ⟨(s.data.toList.drop j).toArray⟩ := by
  rw [Lib.extract_eq]
  congr 2
  have hl : s.data.toList.length = s.size := by simp
  exact List.take_of_length_le (by rw [List.length_drop]; omega)
theorem ext_mid (s : ByteArray) (i j : Nat) : s.extract i j = ⟨((s.data.toList.take j).drop i).toArray⟩ := by
  rw [Lib.extract_eq, List.drop_take]

theorem idx_at (s : ByteArray) (k : Nat) (c : Int) (h : idx s.data.toList c = (k : Int)) (hk : k < s.size) : (s[k].toNat : Int) = c := by
  have hl : s.data.toList.length = s.size := by simp
  unfold idx at h
  cases hf : s.data.toList.findIdx? (isB c) with
  | none => rw [hf] at h; simp at h
  | some i =>
    rw [hf] at h
    obtain ⟨hi, hp, _⟩ := List.findIdx?_eq_some_iff_getElem.1 hf
    have e : i = k := by simp at h; omega
    subst e
    exact beq_iff_eq.1 hp

/-- the package's host and port -/
def splitHP (l : List UInt8) : Option (List UInt8 × List UInt8) :=
  if lidx l 58 < 0 then none
  else if l.head? = some 91 then
    if idx l 93 < 0 then none
    else if idx l 93 + 1 = l.length then none
    else if idx l 93 + 1 ≠ lidx l 58 then none
    else if 0 ≤ idx (l.drop 1) 91 then none
    else if 0 ≤ idx (l.drop (idx l 93 + 1).toNat) 93 then none
    else some ((l.take (idx l 93).toNat).drop 1, l.drop (lidx l 58 + 1).toNat)
  else if 0 ≤ idx (l.take (lidx l 58).toNat) 58 then none
  else if 0 ≤ idx l 91 then none
  else if 0 ≤ idx l 93 then none
  else some (l.take (lidx l 58).toNat, l.drop (lidx l 58 + 1).toNat)

/-- the package's host and zone -/
def splitHZ (l : List UInt8) : List UInt8 × List UInt8 :=
  if 0 < lidx l 37 then (l.take (lidx l 37).toNat, l.drop (lidx l 37 + 1).toNat) else (l, [])

end Go.Proofs.Ytabeklpllphiaaa.pl
