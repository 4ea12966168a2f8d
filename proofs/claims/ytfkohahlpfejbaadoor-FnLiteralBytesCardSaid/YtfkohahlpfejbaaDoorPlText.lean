/-
  PLAIN: the text of an address.
-/
import Derived.Test.YtfkohahlpfejbaaDoorPlTxt
import Derived.Test.YtfkohahlpfejbaaDoorPlRead6
namespace Go.Proofs.YtfkohahlpfejbaaDoor.pl

def gs : List UInt8 → List Nat
  | x :: y :: r => (x.toNat * 256 + y.toNat) :: gs r
  | _ => []
def dots : List UInt8 → List UInt8
  | [a, b, c, d] => num 10 a.toNat ++ 46 :: (num 10 b.toNat ++ 46 :: (num 10 c.toNat ++ 46 :: num 10 d.toNat))
  | _ => []
def pre12 : List UInt8 := [0, 0, 0, 0, 0, 0, 0, 0, 0, 0, 255, 255]
def mapped (b : List UInt8) : Bool := b.take 12 == pre12
/-- how many noughts from i on -/
def run0 (g : List Nat) (i : Nat) : Nat := ((g.drop i).takeWhile (fun x => x == 0)).length
/-- the first longest run of two or more; none: at 8 -/
def best (g : List Nat) : Nat → Nat × Nat
  | 0 => (8, 1)
  | k + 1 => if (best g k).2 < run0 g k then (k, run0 g k) else best g k
/-- groups with colons between -/
def jn : List Nat → List UInt8
  | [] => []
  | [x] => num 16 x
  | x :: y :: r => num 16 x ++ 58 :: jn (y :: r)
/-- the text so far -/
def tx (g : List Nat) (a l i : Nat) : List UInt8 := if i ≤ a then jn (g.take i) else jn (g.take a) ++ [58, 58] ++ jn ((g.take i).drop (a + l))
def text6 (b : List UInt8) : List UInt8 := tx (gs b) (best (gs b) 8).1 (best (gs b) 8).2 8
def text (b : List UInt8) : List UInt8 :=
  if b.length = 4 then dots b else if mapped b = true then [58, 58, 102, 102, 102, 102, 58] ++ dots (b.drop 12) else text6 b

theorem gs_len : ∀ (n : Nat) (b : List UInt8), b.length = 2 * n → (gs b).length = n
  | 0, b, h => by rw [List.eq_nil_of_length_eq_zero (by omega : b.length = 0)]; rfl
  | n + 1, [], h => by simp at h
  | n + 1, [_], h => by simp at h; omega
  | n + 1, x :: y :: r, h => by simp at h; show (gs r).length + 1 = n + 1; rw [gs_len n r (by omega)]
theorem gs_lt : ∀ (n : Nat) (b : List UInt8), b.length ≤ n → ∀ x ∈ gs b, x < 65536
  | 0, b, h, x, hx => by rw [List.eq_nil_of_length_eq_zero (by omega : b.length = 0)] at hx; simp [gs] at hx
  | n + 1, [], h, x, hx => by simp [gs] at hx
  | n + 1, [_], h, x, hx => by simp [gs] at hx
  | n + 1, a :: b :: r, h, x, hx => by
    have h1 := UInt8.toNat_lt a
    have h2 := UInt8.toNat_lt b
    rw [gs] at hx
    rcases List.mem_cons.1 hx with rfl | hx
    · omega
    · exact gs_lt n r (by simp at h; omega) x hx

/-! ### the run -/
theorem run0_end (g : List Nat) (i : Nat) (h : g.length ≤ i) : run0 g i = 0 := by unfold run0; rw [List.drop_eq_nil_of_le h]; rfl
theorem run0_zero (g : List Nat) (i : Nat) (h : i < g.length) (h0 : g[i] = 0) : run0 g i = run0 g (i + 1) + 1 := by
  unfold run0
  rw [List.drop_eq_getElem_cons h, List.takeWhile_cons]
  simp [h0]
theorem run0_stop (g : List Nat) (i : Nat) (h : i < g.length) (h0 : g[i] ≠ 0) : run0 g i = 0 := by
  unfold run0
  rw [List.drop_eq_getElem_cons h, List.takeWhile_cons]
  simp [h0]
/-- the walk: n noughts found -/
theorem run0_go (g : List Nat) (i n : Nat) (h : i + n < g.length) (h0 : g[i + n] = 0) (hr : run0 g i = n + run0 g (i + n)) : run0 g i = n + 1 + run0 g (i + (n + 1)) := by
  rw [hr, run0_zero g (i + n) h h0]; rw [show i + (n + 1) = i + n + 1 by omega]; omega
theorem run0_le (g : List Nat) (i : Nat) (h : i ≤ g.length) : i + run0 g i ≤ g.length := by
  unfold run0
  have := List.takeWhile_sublist (l := g.drop i) (fun x => x == 0)
  have := this.length_le
  rw [List.length_drop] at this
  omega
theorem run0_all (g : List Nat) (i j : Nat) (h : j < run0 g i) : g[i + j]? = some 0 := by
  unfold run0 at h
  have h1 : (g.drop i).takeWhile (fun x => x == 0) <+: g.drop i := List.takeWhile_prefix _
  obtain ⟨t, ht⟩ := h1
  have h2 : (g.drop i)[j]? = some ((g.drop i).takeWhile (fun x => x == 0))[j] := by
    conv => lhs; rw [← ht]
    rw [List.getElem?_append_left h, List.getElem?_eq_getElem h]
  have h3 : ∀ (l : List Nat), ∀ x ∈ l.takeWhile (fun x => x == 0), x = 0 := by
    intro l
    induction l with
    | nil => intro x hx; simp at hx
    | cons a l ih =>
      intro x hx
      rw [List.takeWhile_cons] at hx
      split at hx
      · rename_i ha
        rcases List.mem_cons.1 hx with rfl | hx
        · simpa using ha
        · exact ih x hx
      · simp at hx
  rw [List.getElem?_drop] at h2
  rw [h2, h3 _ _ (List.getElem_mem h)]

theorem best_ok (g : List Nat) (hg : g.length = 8) : ∀ k, k ≤ 8 → (best g k = (8, 1)) ∨ ((best g k).1 < k ∧ 2 ≤ (best g k).2 ∧ (best g k).1 + (best g k).2 ≤ 8 ∧ (best g k).2 = run0 g (best g k).1)
  | 0, _ => .inl rfl
  | k + 1, h => by
    rw [best]
    have ih := best_ok g hg k (by omega)
    have hr := run0_le g k (by omega)
    split
    · rename_i hc
      right
      refine ⟨by simp, ?_, by simp only; omega, rfl⟩
      simp only
      rcases ih with e | ⟨_, h2, _⟩
      · rw [e] at hc; simp at hc; omega
      · omega
    · rcases ih with e | ⟨h1, h2, h3, h4⟩
      · exact .inl e
      · exact .inr ⟨by omega, h2, h3, h4⟩
theorem best_take (g : List Nat) (k : Nat) (h : (best g k).2 < run0 g k) : best g (k + 1) = (k, run0 g k) := by rw [best, if_pos h]
theorem best_leave (g : List Nat) (k : Nat) (h : ¬ (best g k).2 < run0 g k) : best g (k + 1) = best g k := by rw [best, if_neg h]

/-! ### the text, group by group -/
theorem num_ne (b n : Nat) (hb : 2 ≤ b) (hn : n < 2 ^ 63) : num b n ≠ [] := by rw [num_step b n hb hn]; simp
theorem num_last (b n : Nat) (hb : 2 ≤ b) (hb16 : b ≤ 16) (hn : n < 2 ^ 63) : ∃ x t, num b n = t ++ [hx x] ∧ x < 16 := by
  have := Nat.mod_lt n (by omega : 0 < b)
  exact ⟨n % b, _, num_step b n hb hn, by omega⟩
theorem hx_not (x : Nat) (h : x < 16) : hx x ≠ 58 ∧ hx x ≠ 46 ∧ isHex (hx x) = true ∧ hexv (hx x) = some x := by
  have : ∀ x : Fin 16, hx x.val ≠ 58 ∧ hx x.val ≠ 46 ∧ isHex (hx x.val) = true ∧ hexv (hx x.val) = some x.val := by decide
  exact this ⟨x, h⟩
def small (g : List Nat) : Prop := ∀ x ∈ g, x < 65536
theorem jn_snoc (g : List Nat) (x : Nat) (h : g ≠ []) : jn (g ++ [x]) = jn g ++ 58 :: num 16 x := by
  induction g with
  | nil => exact absurd rfl h
  | cons a g ih =>
    cases g with
    | nil => rfl
    | cons b r => show num 16 a ++ 58 :: jn ((b :: r) ++ [x]) = _; rw [ih (by simp)]; simp [jn]
theorem jn_last (g : List Nat) (h : g ≠ []) (hs : small g) : ∃ x t, jn g = t ++ [x] ∧ x ≠ 58 := by
  induction g with
  | nil => exact absurd rfl h
  | cons a g ih =>
    cases g with
    | nil =>
      obtain ⟨x, t, e, hx⟩ := num_last 16 a (by decide) (by decide) (by have := hs a (by simp); omega)
      exact ⟨pl.hx x, t, e, (hx_not x hx).1⟩
    | cons b r =>
      obtain ⟨x, t, e, hx⟩ := ih (by simp) (fun y hy => hs y (by simp [hy]))
      exact ⟨x, num 16 a ++ 58 :: t, by rw [jn, e]; simp, hx⟩
theorem jn_none (g : List Nat) (hs : small g) (h : jn g = []) : g = [] := by
  cases hg : g with
  | nil => rfl
  | cons a r =>
    obtain ⟨x, t, e, _⟩ := jn_last g (by rw [hg]; simp) hs
    rw [h] at e
    simp at e

theorem take_ne (g : List Nat) (i : Nat) (h0 : i ≠ 0) (hi : i < g.length) : g.take i ≠ [] := by
  intro e
  have := congrArg List.length e
  rw [List.length_take, List.length_nil] at this
  omega
/-- whether no colon goes ahead of a group -/
def bare (a l i : Nat) : Prop := i = 0 ∨ i = a + l
theorem tx_zero (g : List Nat) (a l : Nat) : tx g a l 0 = [] := by unfold tx; rw [if_pos (Nat.zero_le _)]; rfl
theorem tx_run (g : List Nat) (a l : Nat) (hl : 1 ≤ l) (hg : a + l ≤ g.length) : tx g a l a ++ [58, 58] = tx g a l (a + l) := by
  unfold tx
  rw [if_pos (Nat.le_refl _), if_neg (by omega), List.drop_eq_nil_of_le (by rw [List.length_take]; omega)]
  simp [jn]
theorem tx_bare (g : List Nat) (a l i : Nat) (hi : i < g.length) (hl : 1 ≤ l) (h : i < a ∨ a + l ≤ i) (hb : bare a l i) : tx g a l (i + 1) = tx g a l i ++ num 16 g[i] := by
  unfold tx
  have e : g.take (i + 1) = g.take i ++ [g[i]] := by rw [List.take_add_one, List.getElem?_eq_getElem hi]; rfl
  rcases h with h | h
  · rw [if_pos (by omega), if_pos (by omega)]
    have : i = 0 := by rcases hb with hb | hb; exact hb; omega
    subst this
    rw [e]
    rfl
  · have hbi : i = a + l := by rcases hb with hb | hb; omega; exact hb
    rw [if_neg (by omega), if_neg (by omega), e, List.drop_append_of_le_length (by rw [List.length_take]; omega), List.drop_eq_nil_of_le (by rw [List.length_take]; omega)]
    simp [jn]
theorem tx_colon (g : List Nat) (a l i : Nat) (hi : i < g.length) (hl : 1 ≤ l) (h : i < a ∨ a + l ≤ i) (hb : ¬ bare a l i) : tx g a l (i + 1) = tx g a l i ++ 58 :: num 16 g[i] := by
  unfold tx
  have e : g.take (i + 1) = g.take i ++ [g[i]] := by rw [List.take_add_one, List.getElem?_eq_getElem hi]; rfl
  have h0 : i ≠ 0 := fun e => hb (.inl e)
  rcases h with h | h
  · rw [if_pos (by omega), if_pos (by omega), e, jn_snoc _ _ (take_ne g i h0 hi)]
  · have : i ≠ a + l := fun e => hb (.inr e)
    rw [if_neg (by omega), if_neg (by omega), e, List.drop_append_of_le_length (by rw [List.length_take]; omega), jn_snoc _ _ (by intro e; have := congrArg List.length e; simp at this; omega)]
    simp
theorem take_small (g : List Nat) (hs : small g) (i j : Nat) : small ((g.take i).drop j) := fun x hx => hs x (List.mem_of_mem_take (List.mem_of_mem_drop hx))
theorem tx_sep (g : List Nat) (hs : small g) (a l i : Nat) (hi : i < g.length) (hl : 1 ≤ l) (h : i < a ∨ a + l ≤ i) :
    (bare a l i → tx g a l i = [] ∨ (tx g a l i).getLast? = some 58) ∧ (¬ bare a l i → tx g a l i ≠ [] ∧ ∃ x, (tx g a l i).getLast? = some x ∧ x ≠ 58) := by
  unfold tx
  constructor
  · rintro (rfl | rfl)
    · left; rw [if_pos (Nat.zero_le _)]; rfl
    · right
      rw [if_neg (by omega), List.drop_eq_nil_of_le (by rw [List.length_take]; omega)]
      simp [jn]
  · intro hb
    have h0 : i ≠ 0 := fun e => hb (.inl e)
    rcases h with h | h
    · rw [if_pos (by omega)]
      obtain ⟨x, t, e, hx⟩ := jn_last (g.take i) (take_ne g i h0 hi) (fun x hx => hs x (List.mem_of_mem_take hx))
      rw [e]
      exact ⟨by simp, x, by simp, hx⟩
    · have : i ≠ a + l := fun e => hb (.inr e)
      rw [if_neg (by omega)]
      obtain ⟨x, t, e, hx⟩ := jn_last ((g.take i).drop (a + l)) (by intro e; have := congrArg List.length e; simp at this; omega) (take_small g hs _ _)
      rw [e]
      exact ⟨by simp, x, by rw [← List.append_assoc, List.getLast?_append]; rfl, hx⟩

end Go.Proofs.YtfkohahlpfejbaaDoor.pl
