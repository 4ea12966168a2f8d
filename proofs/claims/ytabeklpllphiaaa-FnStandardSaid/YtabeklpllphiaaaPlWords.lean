/-
  PLAIN: the words of a text.
-/
import Derived.Test.YtabeklpllphiaaaPlIsN
namespace Go.Proofs.Ytabeklpllphiaaa.pl

/-- one byte: the words so far, and the one that is being read -/
def stepW (p : UInt8 → Bool) (a : List (List UInt8) × List UInt8) (b : UInt8) : List (List UInt8) × List UInt8 :=
  if p b = true then (if a.2 = [] then (a.1, []) else (a.1 ++ [a.2], [])) else (a.1, a.2 ++ [b])
def runW (p : UInt8 → Bool) (l : List UInt8) : List (List UInt8) × List UInt8 := l.foldl (stepW p) ([], [])
/-- what a last word adds -/
def flush (a : List (List UInt8) × List UInt8) : List (List UInt8) := if a.2 = [] then a.1 else a.1 ++ [a.2]
/-- the words between bytes of a kind -/
def words (p : UInt8 → Bool) (l : List UInt8) : List (List UInt8) := flush (runW p l)

theorem runW_snoc (p : UInt8 → Bool) (l : List UInt8) (b : UInt8) : runW p (l ++ [b]) = stepW p (runW p l) b := by simp [runW]
theorem runW_succ (p : UInt8 → Bool) (s : ByteArray) (k : Nat) (h : k < s.size) : runW p (s.data.toList.take (k + 1)) = stepW p (runW p (s.data.toList.take k)) s[k] := by
  rw [take_succ s k h, runW_snoc]

def cnt (p : UInt8 → Bool) (l : List UInt8) : Nat := (l.filter p).length
theorem cnt_snoc (p : UInt8 → Bool) (l : List UInt8) (b : UInt8) : cnt p (l ++ [b]) = cnt p l + if p b = true then 1 else 0 := by
  unfold cnt
  rw [List.filter_append, List.length_append]
  by_cases h : p b = true <;> simp [h]
theorem cnt_succ (p : UInt8 → Bool) (s : ByteArray) (k : Nat) (h : k < s.size) : cnt p (s.data.toList.take (k + 1)) = cnt p (s.data.toList.take k) + if p s[k] = true then 1 else 0 := by
  rw [take_succ s k h, cnt_snoc]
theorem cnt_le (p : UInt8 → Bool) (l : List UInt8) : cnt p l ≤ l.length := List.length_filter_le _ _
theorem cnt_take (p : UInt8 → Bool) (l : List UInt8) (k : Nat) : cnt p (l.take k) ≤ cnt p l := by
  unfold cnt
  exact List.Sublist.length_le ((List.take_sublist k l).filter p)

theorem runW_cnt (p : UInt8 → Bool) (l : List UInt8) : (runW p l).1.length ≤ cnt p l := by
  refine snoc_ind (P := fun l => (runW p l).1.length ≤ cnt p l) (by simp [runW, cnt]) ?_ l
  intro l b ih
  rw [runW_snoc, cnt_snoc, stepW]
  split
  · split <;> simp <;> omega
  · simp; omega

theorem runW_len (p : UInt8 → Bool) (l : List UInt8) : (runW p l).1.length ≤ l.length := Nat.le_trans (runW_cnt p l) (cnt_le p l)
theorem words_len (p : UInt8 → Bool) (l : List UInt8) : (words p l).length ≤ l.length + 1 := by
  have := runW_len p l
  unfold words flush
  split
  · omega
  · simp; omega

/-- every word is at most as long as the text -/
theorem runW_part (p : UInt8 → Bool) (l : List UInt8) : (∀ q ∈ (runW p l).1, q.length ≤ l.length) ∧ (runW p l).2.length ≤ l.length := by
  refine snoc_ind (P := fun l => (∀ q ∈ (runW p l).1, q.length ≤ l.length) ∧ (runW p l).2.length ≤ l.length) (by simp [runW]) ?_ l
  intro l b ih
  rw [runW_snoc, stepW]
  split
  · split
    · exact ⟨fun q hq => by have := ih.1 q hq; simp; omega, by simp⟩
    · refine ⟨?_, by simp⟩
      intro q hq
      rw [List.mem_append, List.mem_singleton] at hq
      rcases hq with h | h
      · have := ih.1 q h; simp; omega
      · rw [h]; have := ih.2; simp; omega
  · exact ⟨fun q hq => by have := ih.1 q hq; simp; omega, by have := ih.2; simp; omega⟩
theorem words_part (p : UInt8 → Bool) (l q : List UInt8) (h : q ∈ words p l) : q.length ≤ l.length := by
  unfold words flush at h
  split at h
  · exact (runW_part p l).1 q h
  · rw [List.mem_append, List.mem_singleton] at h
    rcases h with h | h
    · exact (runW_part p l).1 q h
    · rw [h]; exact (runW_part p l).2

/-- blanks, tabs, carriage returns and line ends -/
def ws (b : UInt8) : Bool := [32, 13, 9, 10].contains b
theorem ws_has (L : ByteArray) (k : Nat) (h : k < L.size) : has (L.extract k (k + 1)).data.toList [32, 9, 13, 10] = ws L[k] := by
  have hl : L.data.toList.length = L.size := by simp
  rw [Lib.extract_data]
  have hd : L.data.toList.drop k = L[k] :: L.data.toList.drop (k + 1) := by
    rw [List.drop_eq_getElem_cons (by omega)]; rfl
  rw [hd, show k + 1 - k = 1 by omega]
  unfold has ws
  simp only [List.take_succ_cons, List.take_zero, List.any_cons, List.any_nil, Bool.or_false]
  rw [Bool.eq_iff_iff]
  simp
  constructor
  · rintro (h | h | h | h) <;> simp [h]
  · rintro (h | h | h | h) <;> simp [h]

theorem cut_nil (s : ByteArray) (la k : Nat) (h1 : la ≤ k) (h2 : k ≤ s.size) : (s.data.toList.take k).drop la = [] ↔ la = k := by
  have hl : s.data.toList.length = s.size := by simp
  rw [List.drop_eq_nil_iff, List.length_take]
  omega

end Go.Proofs.Ytabeklpllphiaaa.pl
