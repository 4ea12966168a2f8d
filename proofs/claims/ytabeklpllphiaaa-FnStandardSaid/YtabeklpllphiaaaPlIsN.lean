/-
  PLAIN: the reference's domain names.
-/
import Derived.Test.YtabeklpllphiaaaPlName
namespace Go.Proofs.Ytabeklpllphiaaa.pl

/-- a byte (made small) that makes a name one that is said of -/
def sdB (c : UInt8) : Bool := (decide (97 ≤ (c.toNat : Int)) && decide ((c.toNat : Int) ≤ 122)) || ((c.toNat : Int) == 45) || ((c.toNat : Int) == 95)
/-- a byte (made small) of a label -/
def nbB (c : UInt8) : Bool := (decide (97 ≤ (c.toNat : Int)) && decide ((c.toNat : Int) ≤ 122)) || (decide (48 ≤ (c.toNat : Int)) && decide ((c.toNat : Int) ≤ 57)) || ((c.toNat : Int) == 45) || ((c.toNat : Int) == 95)
def headB (l : List UInt8) : Bool := decide (1 ≤ l.length) && decide (l.length ≤ 63) && (l.head? != some 45) && (l.getLast? != some 45)
def okLab (l : List UInt8) : Bool := headB l && (l.map lowB).all nbB
def cutDot (l : List UInt8) : List UInt8 := if l.getLast? = some 46 then l.dropLast else l
def lenB (l : List UInt8) : Bool := decide (1 ≤ l.length) && decide (l.length ≤ 253)
def isN (l : List UInt8) : Bool := if l = [46] then true else lenB (cutDot l) && (split 46 (cutDot l)).all okLab
def saN (l : List UInt8) : Bool := if l = [46] then true else (split 46 (cutDot l)).any (fun p => (p.map lowB).any sdB) || !isN l

theorem strV_of (L : ByteArray) : strV L.data.toList = .string L := by
  obtain ⟨⟨l⟩⟩ := L
  rfl

theorem low_one (L : ByteArray) (k : Nat) (h : k < L.size) : low (L.extract k (k + 1)).data.toList = [lowB L[k]] := by
  have hl : L.data.toList.length = L.size := by simp
  rw [Lib.extract_data, low]
  have hd : L.data.toList.drop k = L[k] :: L.data.toList.drop (k + 1) := by
    rw [List.drop_eq_getElem_cons (by omega)]; rfl
  rw [hd, show k + 1 - k = 1 by omega]
  rfl

theorem all_take_succ (f : UInt8 → Bool) (L : ByteArray) (k : Nat) (h : k < L.size) : ((L.data.toList.take (k + 1)).map lowB).all f = (((L.data.toList.take k).map lowB).all f && f (lowB L[k])) := by
  rw [take_succ L k h]; simp
theorem any_take_succ (f : UInt8 → Bool) (L : ByteArray) (k : Nat) (h : k < L.size) : ((L.data.toList.take (k + 1)).map lowB).any f = (((L.data.toList.take k).map lowB).any f || f (lowB L[k])) := by
  rw [take_succ L k h]; simp

theorem headB_short (M : ByteArray) (h : M.size < 1) : headB M.data.toList = false := by
  have hl : M.data.toList.length = M.size := by simp
  unfold headB; rw [hl, decide_eq_false (by omega)]; rfl
theorem headB_long (M : ByteArray) (h : 63 < M.size) : headB M.data.toList = false := by
  have hl : M.data.toList.length = M.size := by simp
  unfold headB; rw [hl, decide_eq_false (p := M.size ≤ 63) (by omega)]; simp
theorem head_get (M : ByteArray) (h : 1 ≤ M.size) : M.data.toList.head? = some (M[0]) := by
  rw [List.head?_eq_getElem?]; exact getElem_data M 0 (by omega)
theorem some_ne (b : UInt8) : (some b != some (45 : UInt8)) = ((b.toNat : Int) != 45) := by
  rw [Bool.eq_iff_iff, bne_iff_ne, bne_iff_ne]
  constructor
  · intro h e
    apply h
    congr 1
    apply UInt8.toNat_inj.1
    have : (45 : UInt8).toNat = 45 := rfl
    omega
  · rintro h e
    injection e with e
    rw [e] at h
    exact h rfl
theorem headB_mid (M : ByteArray) (h : 1 ≤ M.size) (h2 : M.size ≤ 63) : headB M.data.toList = (((M[0].toNat : Int) != 45) && ((M[M.size - 1].toNat : Int) != 45)) := by
  have hl : M.data.toList.length = M.size := by simp
  unfold headB
  rw [hl, decide_eq_true h, decide_eq_true h2, head_get M h, last_get M h, some_ne, some_ne]
  rfl

open Go.RowKit in
theorem sd_cases (x : UInt8) : (Hid (sdB x = true) ∧ 97 ≤ (x.toNat : Int) ∧ (x.toNat : Int) ≤ 122) ∨ (Hid (sdB x = true) ∧ (x.toNat : Int) < 97 ∧ ((x.toNat : Int) == 45) = true) ∨ (Hid (sdB x = true) ∧ (x.toNat : Int) < 97 ∧ ((x.toNat : Int) == 45) = false ∧ ((x.toNat : Int) == 95) = true) ∨
    (Hid (sdB x = false) ∧ (x.toNat : Int) < 97 ∧ ((x.toNat : Int) == 45) = false ∧ ((x.toNat : Int) == 95) = false) ∨ (Hid (sdB x = false) ∧ 122 < (x.toNat : Int) ∧ ((x.toNat : Int) == 45) = false ∧ ((x.toNat : Int) == 95) = false) := by
  unfold Hid sdB
  by_cases h1 : 97 ≤ (x.toNat : Int)
  · by_cases h2 : (x.toNat : Int) ≤ 122
    · exact Or.inl ⟨by simp [h1, h2], h1, h2⟩
    · have e1 : ((x.toNat : Int) == 45) = false := by rw [beq_eq_false_iff_ne]; omega
      have e2 : ((x.toNat : Int) == 95) = false := by rw [beq_eq_false_iff_ne]; omega
      exact Or.inr (Or.inr (Or.inr (Or.inr ⟨by simp [e1, e2, h2], by omega, e1, e2⟩)))
  · have h3 : (x.toNat : Int) < 97 := by omega
    rcases e1 : ((x.toNat : Int) == 45) with _ | _
    · rcases e2 : ((x.toNat : Int) == 95) with _ | _
      · exact Or.inr (Or.inr (Or.inr (Or.inl ⟨by simp [h1], h3, rfl, rfl⟩)))
      · exact Or.inr (Or.inr (Or.inl ⟨by simp, h3, rfl, rfl⟩))
    · exact Or.inr (Or.inl ⟨by simp, h3, rfl⟩)

open Go.RowKit in
theorem nb_cases (x : UInt8) : (Hid (nbB x = true) ∧ 97 ≤ (x.toNat : Int) ∧ (x.toNat : Int) ≤ 122) ∨ (Hid (nbB x = true) ∧ 48 ≤ (x.toNat : Int) ∧ (x.toNat : Int) ≤ 57) ∨ (Hid (nbB x = true) ∧ (x.toNat : Int) < 48 ∧ ((x.toNat : Int) == 45) = true) ∨ (Hid (nbB x = true) ∧ 57 < (x.toNat : Int) ∧ (x.toNat : Int) < 97 ∧ ((x.toNat : Int) == 45) = false ∧ ((x.toNat : Int) == 95) = true) ∨
    (Hid (nbB x = false) ∧ (x.toNat : Int) < 48 ∧ ((x.toNat : Int) == 45) = false ∧ ((x.toNat : Int) == 95) = false) ∨ (Hid (nbB x = false) ∧ 57 < (x.toNat : Int) ∧ (x.toNat : Int) < 97 ∧ ((x.toNat : Int) == 45) = false ∧ ((x.toNat : Int) == 95) = false) ∨ (Hid (nbB x = false) ∧ 122 < (x.toNat : Int) ∧ ((x.toNat : Int) == 45) = false ∧ ((x.toNat : Int) == 95) = false) := by
  unfold Hid nbB
  by_cases h1 : 97 ≤ (x.toNat : Int)
  · by_cases h2 : (x.toNat : Int) ≤ 122
    · exact Or.inl ⟨by simp [h1, h2], h1, h2⟩
    · have e1 : ((x.toNat : Int) == 45) = false := by rw [beq_eq_false_iff_ne]; omega
      have e2 : ((x.toNat : Int) == 95) = false := by rw [beq_eq_false_iff_ne]; omega
      have e3 : ¬ (x.toNat : Int) ≤ 57 := by omega
      exact Or.inr (Or.inr (Or.inr (Or.inr (Or.inr (Or.inr ⟨by simp [e1, e2, e3, h2], by omega, e1, e2⟩)))))
  · by_cases h2 : (x.toNat : Int) < 48
    · have e2 : ((x.toNat : Int) == 95) = false := by rw [beq_eq_false_iff_ne]; omega
      have e3 : ¬ 48 ≤ (x.toNat : Int) := by omega
      rcases e1 : ((x.toNat : Int) == 45) with _ | _
      · exact Or.inr (Or.inr (Or.inr (Or.inr (Or.inl ⟨by simp [e2, e3, h1], h2, rfl, e2⟩))))
      · exact Or.inr (Or.inr (Or.inl ⟨by simp, h2, rfl⟩))
    · have e1 : ((x.toNat : Int) == 45) = false := by rw [beq_eq_false_iff_ne]; omega
      by_cases h3 : (x.toNat : Int) ≤ 57
      · exact Or.inr (Or.inl ⟨by simp [h3, show 48 ≤ (x.toNat : Int) by omega], by omega, h3⟩)
      · rcases e2 : ((x.toNat : Int) == 95) with _ | _
        · exact Or.inr (Or.inr (Or.inr (Or.inr (Or.inr (Or.inl ⟨by simp [e1, h1, h3], by omega, by omega, e1, rfl⟩)))))
        · exact Or.inr (Or.inr (Or.inr (Or.inl ⟨by simp, by omega, by omega, e1, rfl⟩)))

theorem take_snoc_of {α : Type} (l : List α) (k : Nat) (x : α) (h : l[k]? = some x) : l.take (k + 1) = l.take k ++ [x] := by
  obtain ⟨hk, e⟩ := List.getElem?_eq_some_iff.1 h
  rw [List.take_succ_eq_append_getElem hk, e]

theorem snoc_ind {α : Type} {P : List α → Prop} (h0 : P []) (hs : ∀ l b, P l → P (l ++ [b])) (l : List α) : P l := by
  have h : ∀ r : List α, P r.reverse := by
    intro r
    induction r with
    | nil => exact h0
    | cons b r ih => rw [List.reverse_cons]; exact hs _ _ ih
  simpa using h l.reverse

theorem runS_part (c : Int) (l : List UInt8) : (∀ p ∈ (runS c l).1, p.length ≤ l.length) ∧ (runS c l).2.length ≤ l.length := by
  refine snoc_ind (P := fun l => (∀ p ∈ (runS c l).1, p.length ≤ l.length) ∧ (runS c l).2.length ≤ l.length) (by simp [runS]) ?_ l
  · intro l b ih
    rw [runS_snoc, stepS]
    split
    · refine ⟨?_, by simp⟩
      intro p hp
      rw [List.mem_append, List.mem_singleton] at hp
      rcases hp with h | h
      · have := ih.1 p h; simp; omega
      · rw [h]; have := ih.2; simp; omega
    · refine ⟨fun p hp => by have := ih.1 p hp; simp; omega, by have := ih.2; simp; omega⟩

theorem split_part (c : Int) (l p : List UInt8) (h : p ∈ split c l) : p.length ≤ l.length := by
  rw [split, List.mem_append, List.mem_singleton] at h
  rcases h with h | h
  · exact (runS_part c l).1 p h
  · rw [h]; exact (runS_part c l).2

theorem split_len (c : Int) (L : ByteArray) : (split c L.data.toList).length ≤ L.size + 1 := by
  have := runS_len c L.data.toList
  have h2 : L.data.toList.length = L.size := by simp
  rw [split]
  simp only [List.length_append, List.length_singleton]
  omega

theorem split_size (c : Int) (L : ByteArray) (k : Nat) (M : ByteArray) (h : (split c L.data.toList)[k]? = some M.data.toList) : M.size ≤ L.size := by
  have := split_part c _ _ (List.mem_of_getElem? h)
  have h1 : M.data.toList.length = M.size := by simp
  have h2 : L.data.toList.length = L.size := by simp
  omega

end Go.Proofs.Ytabeklpllphiaaa.pl
