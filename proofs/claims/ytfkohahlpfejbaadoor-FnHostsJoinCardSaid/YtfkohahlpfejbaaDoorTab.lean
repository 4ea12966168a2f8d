/-
  WORDS FOR MAPS OF SLICES OF STRINGS: at each key a row of its own.
-/
import Derived.Test.YtfkohahlpfejbaaDoorAddrsOf
import Derived.Maps.AppendAt
namespace Go.Proofs.YtfkohahlpfejbaaDoor
open Go.RowKit

abbrev Key := List UInt8

/-- f holds at each key (wrapped by Wr) the slice that owns the strings L, in block g -/
structure Grp (w : World) (B : Nat) (f : Key → Option Value) (L : Key → List (List UInt8)) (g : Key → Nat) (Wr : Key → Value → Value) : Prop where
  no : ∀ k, L k = [] → f k = none
  yes : ∀ k, L k ≠ [] → ∃ c, f k = some (Wr k (.slice (some ⟨g k, 0, none⟩) (L k).length c)) ∧ Strs w B (.slice (some ⟨g k, 0, none⟩) (L k).length c) (L k)
  inj : ∀ k k', L k ≠ [] → L k' ≠ [] → g k = g k' → k = k'

theorem Strs.at_row {w : World} {B g n c : Nat} {l : List (List UInt8)} (h : Strs w B (.slice (some ⟨g, 0, none⟩) n c) l) : B ≤ g ∧ ∃ cur, w.heap[g]? = some (.cells cur 9 (0, 0)) := by
  rcases h.2 with ⟨hv, _⟩ | ⟨g', cap, cur, hv, hb, hh, _⟩
  · cases hv
  · injection hv with e1
    injection e1 with e1
    injection e1 with e1
    subst e1
    exact ⟨hb, cur, hh⟩
theorem Strs.grown {w w' : World} {B : Nat} {row : Option Nat} {v : Value} {l : List (List UInt8)} (h : Strs w B v l) (hg : w.grownBy w' row) (hne : v.ownBlock = none ∨ v.ownBlock ≠ row) : Strs w' B v l := World.ownsRow.kept h hg hne
theorem MapF.ne_row {P : Program} {k : TypeId} {w : World} {b n g : Nat} {f : Key → Option Value} {cur : Array Value} {ty : TypeId} {fz : Nat × Nat} (h : MapF P k w b n f) (hc : w.heap[g]? = some (.cells cur ty fz)) : g ≠ b := by
  intro e
  subst e
  obtain ⟨D, ⟨es, clock, hb, _⟩, _⟩ := h
  rw [hb] at hc
  cases hc

theorem Grp.empty (w : World) (B : Nat) (Wr : Key → Value → Value) : Grp w B (fun _ => none) (fun _ => []) (fun _ => 0) Wr :=
  ⟨fun _ _ => rfl, fun _ h => absurd rfl h, fun _ _ h => absurd rfl h⟩
theorem Grp.other {w w' : World} {B : Nat} {row : Option Nat} {f : Key → Option Value} {L : Key → List (List UInt8)} {g : Key → Nat} {Wr : Key → Value → Value} (h : Grp w B f L g Wr) (hg : w.grownBy w' row) (hne : ∀ k, L k ≠ [] → some (g k) ≠ row) : Grp w' B f L g Wr :=
  ⟨h.no, fun k hk => by
    obtain ⟨c, h1, h2⟩ := h.yes k hk
    exact ⟨c, h1, h2.grown hg (.inr (hne k hk))⟩, h.inj⟩
theorem Grp.below {w w' : World} {B : Nat} {f : Key → Option Value} {L : Key → List (List UInt8)} {g : Key → Nat} {Wr : Key → Value → Value} (h : Grp w B f L g Wr) (hb : Below w.heap.size w w') : Grp w' B f L g Wr :=
  ⟨h.no, fun k hk => by
    obtain ⟨c, h1, h2⟩ := h.yes k hk
    exact ⟨c, h1, h2.below hb⟩, h.inj⟩
theorem Grp.lt {w : World} {B : Nat} {f : Key → Option Value} {L : Key → List (List UInt8)} {g : Key → Nat} {Wr : Key → Value → Value} (h : Grp w B f L g Wr) (k : Key) (hk : L k ≠ []) : g k < w.heap.size := by
  obtain ⟨c, _, h2⟩ := h.yes k hk
  obtain ⟨_, cur, hh⟩ := h2.at_row
  exact (Array.getElem?_eq_some_iff.1 hh).1

/-- the slice at a key, nil where there is none -/
def Grp.val (L : Key → List (List UInt8)) (g : Key → Nat) (k : Key) (c : Nat) : Value := if L k = [] then .slice none 0 0 else .slice (some ⟨g k, 0, none⟩) (L k).length c
theorem Grp.at_key {w : World} {B : Nat} {f : Key → Option Value} {L : Key → List (List UInt8)} {g : Key → Nat} {Wr : Key → Value → Value} (h : Grp w B f L g Wr) (k : Key) :
    ∃ c, Strs w B (Grp.val L g k c) (L k) ∧ (L k = [] → f k = none) ∧ (L k ≠ [] → f k = some (Wr k (Grp.val L g k c))) := by
  by_cases hk : L k = []
  · exact ⟨0, by unfold Grp.val; rw [if_pos hk, hk]; exact Strs.nil _ _, h.no k, fun h2 => absurd hk h2⟩
  · obtain ⟨c, h1, h2⟩ := h.yes k hk
    exact ⟨c, by unfold Grp.val; rw [if_neg hk]; exact h2, fun h3 => absurd h3 hk, fun _ => by unfold Grp.val; rw [if_neg hk]; exact h1⟩

/-- after an append at key K, and a store of the new slice there -/
theorem Grp.step {w w' : World} {B : Nat} {f : Key → Option Value} {L : Key → List (List UInt8)} {g : Key → Nat} {Wr Wr' : Key → Value → Value} (h : Grp w B f L g Wr) (K : Key) (c : Nat) (v' : Value) (N : List UInt8)
    (hv : Strs w' B v' (L K ++ [N])) (hg : w.grownBy w' (Grp.val L g K c).ownBlock) (hp : v'.ownBlock = (Grp.val L g K c).ownBlock ∨ v'.ownBlock = some w.heap.size) (hW : ∀ k, k ≠ K → Wr' k = Wr k) :
    ∃ gK, Grp w' B (fun x => if x = K then some (Wr' K v') else f x) (fun x => if x = K then L K ++ [N] else L x) (fun x => if x = K then gK else g x) Wr' ∧ ((L K ≠ [] ∧ gK = g K) ∨ gK = w.heap.size) := by
  have hne : L K ++ [N] ≠ [] := by simp
  obtain ⟨gK, cap, hv'⟩ : ∃ gK cap, v' = .slice (some ⟨gK, 0, none⟩) (L K ++ [N]).length cap := by
    rcases hv.2 with ⟨_, hn⟩ | ⟨gK, cap, cur, hv', _⟩
    · exact absurd (List.eq_nil_of_length_eq_zero hn) hne
    · exact ⟨gK, cap, hv'⟩
  subst hv'
  have hpos : (L K ≠ [] ∧ gK = g K) ∨ gK = w.heap.size := by
    rcases hp with hp | hp
    · left
      unfold Grp.val at hp
      by_cases hk : L K = []
      · rw [if_pos hk] at hp; simp [Value.ownBlock] at hp
      · rw [if_neg hk] at hp; simp [Value.ownBlock] at hp; exact ⟨hk, hp⟩
    · right; simpa [Value.ownBlock] using hp
  have hfar : ∀ k, k ≠ K → L k ≠ [] → some (g k) ≠ (Grp.val L g K c).ownBlock := fun k hk hl => by
    unfold Grp.val
    by_cases hK : L K = []
    · rw [if_pos hK]; simp [Value.ownBlock]
    · rw [if_neg hK]; simp only [Value.ownBlock, ne_eq, Option.some.injEq]; exact fun e => hk (h.inj k K hl hK e)
  have hnew : ∀ k, k ≠ K → L k ≠ [] → g k ≠ gK := fun k hk hl e => by
    rcases hpos with ⟨h1, h2⟩ | h2
    · exact hk (h.inj k K hl h1 (by rw [e, h2]))
    · have := h.lt k hl; omega
  refine ⟨gK, ⟨fun k hk => ?_, fun k hk => ?_, fun k k' hk hk' he => ?_⟩, hpos⟩
  · by_cases e : k = K
    · simp only [if_pos e] at hk; exact absurd hk hne
    · simp only [if_neg e] at hk ⊢; exact h.no k hk
  · by_cases e : k = K
    · subst e
      simp only [if_pos]
      exact ⟨cap, rfl, hv⟩
    · simp only [if_neg e] at hk ⊢
      obtain ⟨c', h1, h2⟩ := h.yes k hk
      refine ⟨c', by rw [hW k e]; exact h1, h2.grown hg (.inr (hfar k e hk))⟩
  · by_cases e : k = K
    · by_cases e' : k' = K
      · rw [e, e']
      · simp only [if_pos e, if_neg e'] at he hk hk'
        exact absurd he.symm (hnew k' e' hk')
    · by_cases e' : k' = K
      · simp only [if_neg e, if_pos e'] at he hk hk'
        exact absurd he (hnew k e hk)
      · simp only [if_neg e, if_neg e'] at he hk hk'
        exact h.inj k k' hk hk' he

/-- 'append(s, x)' of one string, and where the new slice lies -/
theorem app_str_at {ops : Array Oper} {rest : List Oper} {o : Oper} {a : Act} {Q : Exit → Act → World → Prop} {wr : World} {v : Value} {l : List (List UInt8)} {x : Value} (p : List UInt8)
    (hgd : o.guard = none) (s y : Operand) (ho : o.op = .call { callee := .builtin .append, args := #[s, y], argTypes := #[31, 31] })
    (hs : a.eval s = v) (B : Nat) (hown : Strs wr B v l) (hy : a.eval y = .slice (some ⟨wr.heap.size, 0, none⟩) 1 1) (hp : x = pl.strV p) (hlen : l.length < 8796093022207) (hB : B ≤ wr.heap.size)
    (h : ∀ v' w', Strs w' B v' (l ++ [p]) → (wr.alloc (.cells #[x] 9)).grownBy w' v.ownBlock → (v'.ownBlock = v.ownBlock ∨ v'.ownBlock = some (wr.heap.size + 1)) → wpList Tryd.prog ops Q rest (a.put o.dst v') w') : wpList Tryd.prog ops Q (o :: rest) a (wr.alloc (.cells #[x] 9)) := by
  obtain ⟨i0, hi, hz0, hz1, hz2⟩ := info_parts infoStr
  refine wpList_append_own_at (w := (wr.alloc (.cells #[x] 9))) hgd s y 31 ho B 9 i0 (.string ⟨#[]⟩) 1 16 Tryd.underlying31 hi hz0 hz1 hz2 rfl (by decide) v l.length (l.map pl.strV) hs (World.ownsRow.alloc hown _) ⟨wr.heap.size, 0, none⟩ 1 1 [x] hy rfl (cell_one_new _ _ _) ?_ ?_ ?_ ?_ ?_
  · intro u hu
    rw [List.mem_singleton] at hu
    subst hu
    rw [hp]
    rfl
  · unfold maxLen; omega
  · omega
  · simp; omega
  · intro v' w' h1 h2 _ h4
    refine h v' w' ?_ h2 (by simpa using h4)
    subst hp
    unfold Strs
    rw [List.length_append, List.map_append]
    exact h1

end Go.Proofs.YtfkohahlpfejbaaDoor
