/-
  WORDS FOR MEMORY: a row of bytes that the call itself has made.
-/
import Derived.Test.YtabeklpllphiaaaRows
import Derived.WalkKit
import Derived.WalkSpells
import Derived.WalkLawsBesides
import Derived.Lib.Hide
import Derived.Outline
import Derived.BigQuiet
import Derived.Deep.QuietTactic
import Derived.Laws.IdiomStrings
import Derived.Test.YtabeklpllphiaaaPl
namespace Go.Proofs.Ytabeklpllphiaaa
open Go.RowKit

/-- Block g begins with the bytes l; none of these cells is frozen. -/
def ByteRow (w : World) (g : Nat) (l : List UInt8) : Prop :=
  ∃ (rest : List Value) (m n : Nat), w.heap[g]? = some (.cells (l.map (fun b => Value.int .u8 b.toNat) ++ rest).toArray 5 (m, n)) ∧ ∀ j, j < l.length → ¬ (m ≤ j ∧ j < n)

section
variable {w w' : World} {g : Nat} {l : List UInt8}
theorem ByteRow.lt (h : ByteRow w g l) : g < w.heap.size := by
  obtain ⟨_, _, _, h, _⟩ := h
  exact (Array.getElem?_eq_some_iff.1 h).1

theorem ByteRow.cell (h : ByteRow w g l) (j : Nat) (b : UInt8) (hj : l[j]? = some b) : w.cell? ⟨g, j, none⟩ = some (.int .u8 (b.toNat : Int)) := by
  obtain ⟨rest, m, n, hh, _⟩ := h
  obtain ⟨hl, hb⟩ := List.getElem?_eq_some_iff.1 hj
  simp only [World.cell?, hh]
  simp [List.getElem?_append, hl, hb]

theorem ByteRow.frozen (h : ByteRow w g l) (j : Nat) (hj : j < l.length) : w.frozen? ⟨g, j, none⟩ = false := by
  obtain ⟨rest, m, n, hh, hf⟩ := h
  have := hf j hj
  simp only [World.frozen?, hh]
  simp
  omega

theorem ByteRow.keep (h : ByteRow w g l) (e : w'.heap[g]? = w.heap[g]?) : ByteRow w' g l := by
  obtain ⟨rest, m, n, hh, hf⟩ := h
  exact ⟨rest, m, n, e.trans hh, hf⟩

theorem ByteRow.drewN (h : ByteRow w g l) (n : Nat) : ByteRow (w.drewN n) g l := h.keep rfl

theorem ByteRow.set (h : ByteRow w g l) (j : Nat) (b : UInt8) (hj : j < l.length) : ByteRow (w.setCell ⟨g, j, none⟩ (.int .u8 (b.toNat : Int))) g (l.set j b) := by
  obtain ⟨rest, m, n, hh, hf⟩ := h
  refine ⟨rest, m, n, ?_, by simpa using hf⟩
  have e : (l.set j b).map (fun b => Value.int .u8 b.toNat) = (l.map (fun b => Value.int .u8 b.toNat)).set j (.int .u8 b.toNat) := by
    rw [List.map_set]
  simp [World.setCell, Array.getElem?_modify, hh, e, hj]

theorem ByteRow.of_string (w : World) (s : ByteArray) (cap : Nat) :
    ByteRow (w.drew.alloc (.cells (bytesRow s cap) 5 ((bytesRow s cap).size, (bytesRow s cap).size + 1))) w.heap.size s.data.toList := by
  refine ⟨List.replicate (cap - s.size) (.int .u8 0), (bytesRow s cap).size, (bytesRow s cap).size + 1, ?_, ?_⟩
  · show (w.heap.push _)[w.heap.size]? = _
    simp [bytesRow]
  · intro j hj
    have h1 : s.data.size ≤ (bytesRow s cap).size := by simp [bytesRow]
    rw [Array.length_toList] at hj
    omega
end

theorem infoStr : (Try.prog.info? 9).map (fun i => (i.zero, i.size, i.bytes)) = some (some (.string ⟨#[]⟩), 1, 16) := by kernel_rfl

/-- The slice value v owns the strings l, from block B on. -/
def Strs (w : World) (B : Nat) (v : Value) (l : List (List UInt8)) : Prop := w.ownsRow B 9 1 v l.length (l.map pl.strV)

theorem Strs.nil (w : World) (B : Nat) : Strs w B (.slice none 0 0) [] := World.ownsRow_nil _ _ _ _

/-- 'out = append(out, p)' of one string. -/
theorem app_str {ops : Array Oper} {rest : List Oper} {o : Oper} {a : Act} {Q : Exit → Act → World → Prop} {w wr : World} {v : Value} {l : List (List UInt8)} {x : Value} (p : List UInt8)
    (hgd : o.guard = none) (s y : Operand) (ho : o.op = .call { callee := .builtin .append, args := #[s, y], argTypes := #[59, 59] })
    (hs : a.eval s = v) (B : Nat) (hown : Strs wr B v l) (hy : a.eval y = .slice (some ⟨wr.heap.size, 0, none⟩) 1 1) (hp : x = pl.strV p) (hlen : l.length < 8796093022207) (hb : Below B w wr) (hB : B ≤ w.heap.size)
    (h : ∀ v' w', Strs w' B v' (l ++ [p]) → Below B w w' → (wr.alloc (.cells #[x] 9)).grownBy w' v.ownBlock → wpList Try.prog ops Q rest (a.put o.dst v') w') : wpList Try.prog ops Q (o :: rest) a (wr.alloc (.cells #[x] 9)) := by
  obtain ⟨i0, hi, hz0, hz1, hz2⟩ := info_parts infoStr
  have hsz := hb.size
  refine wpList_append_own _ hgd s y 59 ho B 9 i0 (.string ⟨#[]⟩) 1 16 Try.underlying59 hi hz0 hz1 hz2 rfl (by decide) v l.length (l.map pl.strV) hs (World.ownsRow.alloc hown _) ⟨wr.heap.size, 0, none⟩ 1 1 [x] hy rfl (cell_one_new _ _ _) ?_ ?_ ?_ ?_ ?_
  · intro u hu
    rw [List.mem_singleton] at hu
    subst hu
    rw [hp]
    rfl
  · unfold maxLen; omega
  · omega
  · simp; omega
  · intro v' w' h1 h2 _
    refine h v' w' ?_ ?_ h2
    · subst hp
      unfold Strs
      rw [List.length_append, List.map_append]
      exact h1
    · have hb2 : Below B w (wr.alloc (.cells #[x] 9)) := hb.alloc (by omega) _
      exact hb2.grown h2 (by simp; omega) (fun k hk => ((World.ownsRow.lt hown) k hk).1)

/-- What a later world that keeps all from B on, but for new blocks, leaves owned. -/
theorem Strs.below {w w' : World} {B : Nat} {v : Value} {l : List (List UInt8)} (h : Strs w B v l) (hb : Below w.heap.size w w') : Strs w' B v l :=
  World.ownsRow.kept (row := none) h ⟨hb.os, hb.tape, hb.output, hb.size, fun k hk _ => hb.block k hk⟩ (by cases v.ownBlock <;> simp)

/-- The shape of an owned value: its length, and each of its cells. -/
theorem Strs.form {w : World} {B : Nat} {v : Value} {l : List (List UInt8)} (h : Strs w B v l) :
    ∃ a cap, v = .slice a l.length cap ∧ ∀ k p, l[k]? = some p → ∃ g, a = some ⟨g, 0, none⟩ ∧ g < w.heap.size ∧ B ≤ g ∧ w.cell? ⟨g, k, none⟩ = some (pl.strV p) := by
  have h0 := h
  rcases h.2 with ⟨rfl, hn⟩ | ⟨g, cap, cur, rfl, hg, hh, _⟩
  · refine ⟨none, 0, by rw [hn], ?_⟩
    intro k p hk
    have : l = [] := List.eq_nil_of_length_eq_zero hn
    rw [this] at hk
    simp at hk
  · refine ⟨_, cap, rfl, ?_⟩
    intro k p hk
    have hc := World.ownsRow.cells h0 (g := g) rfl k (pl.strV p) (by simp [hk])
    rw [Addr.add_lit, Nat.zero_add] at hc
    exact ⟨g, rfl, (Array.getElem?_eq_some_iff.1 hh).1, hg, hc⟩

end Go.Proofs.Ytabeklpllphiaaa
