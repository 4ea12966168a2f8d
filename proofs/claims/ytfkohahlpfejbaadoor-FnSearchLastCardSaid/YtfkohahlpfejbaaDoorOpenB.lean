/-
  ARGUMENTS OPENED: the words, and slices of strings.
-/
import Derived.Test.YtfkohahlpfejbaaDoorArgs
import Derived.Deep.Strs
import Derived.Deep.Slices
import Derived.Deep.Fields
import Derived.ChangeSame
namespace Go.Proofs.YtfkohahlpfejbaaDoor
open Go.ChangeShapes Go.WideShapes Go.Deep Go.RowKit

section
variable {H : Type} {enc : TypeId × Value → H} {P : Program} {w : World} {base : Nat} {spare : Nat → Bool} {held : Bool}

theorem pl.list_of {α : Type} (len : Nat) (r : Nat → α → Prop) [Inhabited α] (h : ∀ i, i < len → ∃ x, r i x) : ∃ l : List α, l.length = len ∧ ∀ k x, l[k]? = some x → r k x := by
  obtain ⟨f, hf⟩ : ∃ f : Nat → α, ∀ i, i < len → r i (f i) := Classical.axiomOfChoice (r := fun i x => i < len → r i x) (fun i => by
    by_cases hi : i < len
    · obtain ⟨x, hx⟩ := h i hi; exact ⟨x, fun _ => hx⟩
    · exact ⟨default, fun h => absurd h hi⟩)
  refine ⟨(List.range len).map f, by simp, fun k x hk => ?_⟩
  obtain ⟨h1, h2⟩ := List.getElem?_eq_some_iff.1 hk
  simp only [List.length_map, List.length_range] at h1
  simp only [List.getElem_map, List.getElem_range] at h2
  subst h2
  exact hf k h1

theorem cell_lt_o {g o : Nat} {s : Option Nat} {v : Value} (h : w.cell? ⟨g, o, s⟩ = some v) : g < w.heap.size := by
  rcases Nat.lt_or_ge g w.heap.size with h1 | h1
  · exact h1
  · simp [World.cell?, Array.getElem?_eq_none h1] at h
theorem spot_add {g o : Nat} {s : Option Nat} {n : Nat} {v : Value} (h : w.cell? (Addr.add ⟨g, o, s⟩ n) = some v) : n = 0 → s = none := fun h0 => by
  subst h0
  exact World.cell?_spot h

theorem RdS.of_trod {t e : TypeId} {fuel : Nat} {v : Value} {x : DataW H × List MemPlace} (ht : P.underlying t = some (.slice e)) (he : P.underlying e = some .string) (hc : P.cellsOf e = 1)
    (h : DataW.trod enc P w base spare held fuel t [v] = some x) : ∃ l, RdS w v l := by
  rcases open_strs ht he hc h with ⟨h0, _⟩ | ⟨a, len, cap, m, Sx, h0, _, hl, _, hm, _, hi⟩
  · injection h0 with h0 _
    exact ⟨[], none, 0, h0, Nat.zero_le _, fun _ => rfl, fun k p hk => by simp at hk⟩
  · injection h0 with h0 _
    have hlm : len ≤ m := by rw [hm]; split <;> omega
    obtain ⟨l, hll, hlx⟩ := pl.list_of len (fun i (p : List UInt8) => w.cell? (a.add i) = some (pl.strV p)) (fun i hi' => ⟨(Sx i).data.toList, (hi i (by omega)).1⟩)
    subst hll
    refine ⟨l, some a, cap, h0, hl, (fun e => by cases e), fun k p hk => ?_⟩
    obtain ⟨g, o, s⟩ := a
    have hpos : 0 < l.length := by have := (List.getElem?_eq_some_iff.1 hk).1; omega
    have hs : s = none := spot_add (hi 0 (by omega)).1 rfl
    subst hs
    have hck := hlx k p hk
    rw [Addr.add_lit] at hck
    exact ⟨g, o, rfl, cell_lt_o hck, hck⟩
end

end Go.Proofs.YtfkohahlpfejbaaDoor
