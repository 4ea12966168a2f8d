/-
  WORDS FOR MEMORY: what an append of bytes leaves: all blocks that are no rows of bytes.
-/
import Derived.Test.YtfkohahlpfejbaaDoorNet3
import Derived.Lib.AppendStr
namespace Go.Proofs.YtfkohahlpfejbaaDoor
open Go.RowKit

structure Fr (B : Nat) (w w' : World) : Prop where
  bel : Below B w w'
  oth : ∀ (k : Nat) (arr : Array Value) (ty : TypeId), ty ≠ 5 → Blk w k arr ty → Blk w' k arr ty

theorem Fr.refl (B : Nat) (w : World) : Fr B w w := ⟨Below.refl _ _, fun _ _ _ _ h => h⟩
theorem Fr.trans {B : Nat} {a b c : World} (h : Fr B a b) (k : Fr B b c) : Fr B a c := ⟨h.bel.trans k.bel, fun i arr ty ht hb => k.oth i arr ty ht (h.oth i arr ty ht hb)⟩
theorem Fr.mono {B C : Nat} {a b : World} (h : Fr C a b) (hB : B ≤ C) : Fr B a b := ⟨h.bel.mono hB, h.oth⟩
/-- a call that leaves all that was there -/
theorem Fr.of {B : Nat} {w w' : World} (h : Below w.heap.size w w') (hB : B ≤ w.heap.size) : Fr B w w' := ⟨h.mono hB, fun _ _ _ _ hb => hb.below h hb.lt⟩
theorem Fr.alloc {B : Nat} {w w' : World} (h : Fr B w w') (o : Obj) (hB : B ≤ w'.heap.size) : Fr B w (w'.alloc o) := h.trans (Fr.of ((Below.refl _ _).alloc (Nat.le_refl _) o) hB)
theorem Fr.drew {B : Nat} {w w' : World} (h : Fr B w w') : Fr B w w'.drew := h.trans ⟨below_drewN (Below.refl _ _) 1, fun _ _ _ _ h => h⟩

/-- the block of an owned row bears bytes -/
theorem Byts.block {w : World} {B : Nat} {v : Value} {l : List UInt8} (h : Byts w B v l) (k : Nat) (hk : v.ownBlock = some k) : ∃ cur, w.heap[k]? = some (.cells cur 5 (0, 0)) := by
  rcases h.2 with ⟨rfl, _⟩ | ⟨g, cap, cur, rfl, hg, hh, _⟩
  · cases hk
  · injection hk with hk
    subst hk
    exact ⟨cur, hh⟩
theorem Fr.grown {B : Nat} {w wr w' : World} {v : Value} {l : List UInt8} (h : Fr B w wr) (hown : Byts wr B v l) (hg : wr.grownBy w' v.ownBlock) (hB : B ≤ wr.heap.size) : Fr B w w' := by
  refine ⟨h.bel.grown hg hB (fun k hk => ((World.ownsRow.lt hown) k hk).1), fun k arr ty ht hb => ?_⟩
  have h1 := h.oth k arr ty ht hb
  refine h1.keep (hg.block k h1.lt (fun e => ?_))
  obtain ⟨cur, hc⟩ := hown.block k e.symm
  unfold Blk at h1
  rw [h1] at hc
  injection hc with hc
  injection hc with _ hc
  exact ht hc

/-- 'out = append(out, b)' of one byte. -/
theorem app_byte_fr {ops : Array Oper} {rest : List Oper} {o : Oper} {a : Act} {Q : Exit → Act → World → Prop} {w wr : World} {v : Value} {l : List UInt8} {x : Value} (b : UInt8) (t : TypeId) (hu : Tryd.prog.underlying t = some (.slice 5))
    (hgd : o.guard = none) (s y : Operand) (ho : o.op = .call { callee := .builtin .append, args := #[s, y], argTypes := #[t, t] })
    (hs : a.eval s = v) (B : Nat) (hown : Byts wr B v l) (hy : a.eval y = .slice (some ⟨wr.heap.size, 0, none⟩) 1 1) (hp : x = pl.byteV b) (hlen : l.length < 70368744177664) (hb : Fr B w wr) (hB : B ≤ w.heap.size)
    (h : ∀ v' w', Byts w' B v' (l ++ [b]) → Fr B w w' → wpList Tryd.prog ops Q rest (a.put o.dst v') w') : wpList Tryd.prog ops Q (o :: rest) a (wr.alloc (.cells #[x] 5)) := by
  obtain ⟨i0, hi, hz0, hz1, hz2⟩ := info_parts infoByte
  have hsz := hb.bel.size
  have hown2 : Byts (wr.alloc (.cells #[x] 5)) B v l := World.ownsRow.alloc hown _
  refine wpList_append_own _ hgd s y t ho B 5 i0 (.int .u8 0) 1 1 hu hi hz0 hz1 hz2 rfl (by decide) v l.length (l.map pl.byteV) hs (World.ownsRow.alloc hown _) ⟨wr.heap.size, 0, none⟩ 1 1 [x] hy rfl (cell_one_new _ _ _) ?_ ?_ ?_ ?_ ?_
  · intro u hu
    rw [List.mem_singleton] at hu
    subst hu
    rw [hp]
    rfl
  · unfold maxLen; omega
  · omega
  · simp; omega
  · intro v' w' h1 h2 _
    refine h v' w' ?_ ?_
    · subst hp
      unfold Byts
      rw [List.length_append, List.map_append]
      exact h1
    · exact (hb.alloc _ (by omega)).grown hown2 h2 (by simp; omega)

/-- 'out = append(out, a, b)' of two bytes. -/
theorem app_two_fr {ops : Array Oper} {rest : List Oper} {o : Oper} {a : Act} {Q : Exit → Act → World → Prop} {w wr : World} {v : Value} {l : List UInt8} {x y : Value} (b c : UInt8) (t : TypeId) (hu : Tryd.prog.underlying t = some (.slice 5))
    (hgd : o.guard = none) (s y' : Operand) (ho : o.op = .call { callee := .builtin .append, args := #[s, y'], argTypes := #[t, t] })
    (hs : a.eval s = v) (B : Nat) (hown : Byts wr B v l) (hy : a.eval y' = .slice (some ⟨wr.heap.size, 0, none⟩) 2 2) (hp : x = pl.byteV b) (hq : y = pl.byteV c) (hlen : l.length < 70368744177664) (hb : Fr B w wr) (hB : B ≤ w.heap.size)
    (h : ∀ v' w', Byts w' B v' (l ++ [b, c]) → Fr B w w' → wpList Tryd.prog ops Q rest (a.put o.dst v') w') : wpList Tryd.prog ops Q (o :: rest) a (wr.alloc (.cells #[x, y] 5)) := by
  obtain ⟨i0, hi, hz0, hz1, hz2⟩ := info_parts infoByte
  have hsz := hb.bel.size
  have hown2 : Byts (wr.alloc (.cells #[x, y] 5)) B v l := World.ownsRow.alloc hown _
  refine wpList_append_own _ hgd s y' t ho B 5 i0 (.int .u8 0) 1 1 hu hi hz0 hz1 hz2 rfl (by decide) v l.length (l.map pl.byteV) hs (World.ownsRow.alloc hown _) ⟨wr.heap.size, 0, none⟩ 2 2 [x, y] hy rfl ?_ ?_ ?_ ?_ ?_ ?_
  · intro j u hj
    have hn : (wr.alloc (.cells #[x, y] 5)).heap[wr.heap.size]? = some (.cells #[x, y] 5 (0, 0)) := heap_alloc_new _ _
    rw [Addr.add_lit]
    show (wr.alloc (.cells #[x, y] 5)).cell? ⟨wr.heap.size, 0 + j, none⟩ = some u
    rw [Nat.zero_add, cell_of_row _ _ _ _ _ _ hn]
    simpa using hj
  · intro u hu
    rw [List.mem_cons, List.mem_singleton] at hu
    rcases hu with rfl | rfl
    · rw [hp]; rfl
    · rw [hq]; rfl
  · unfold maxLen; omega
  · omega
  · simp; omega
  · intro v' w' h1 h2 _
    refine h v' w' ?_ ?_
    · subst hp hq
      unfold Byts
      rw [List.length_append, List.map_append]
      exact h1
    · exact (hb.alloc _ (by omega)).grown hown2 h2 (by simp; omega)

/-- 'out = append(out, "..."...)'. -/
theorem app_str_fr {ops : Array Oper} {rest : List Oper} {o : Oper} {a : Act} {Q : Exit → Act → World → Prop} {w wr : World} {v : Value} {l : List UInt8} (S : ByteArray) (t u : TypeId) (ht : Tryd.prog.underlying t = some (.slice 5)) (hu : Tryd.prog.underlying u = some .string)
    (hgd : o.guard = none) (s y : Operand) (ho : o.op = .call { callee := .builtin .append, args := #[s, y], argTypes := #[t, u] })
    (hs : a.eval s = v) (B : Nat) (hown : Byts wr B v l) (hy : a.eval y = .string S) (hlen : l.length + S.size < 70368744177664) (hb : Fr B w wr) (hB : B ≤ w.heap.size)
    (h : ∀ v' w', Byts w' B v' (l ++ S.data.toList) → Fr B w w' → wpList Tryd.prog ops Q rest (a.put o.dst v') w') : wpList Tryd.prog ops Q (o :: rest) a wr := by
  obtain ⟨i0, hi, hz0, hz1, hz2⟩ := info_parts infoByte
  have hsz := hb.bel.size
  refine Lib.wpList_append_own_string _ hgd s y t u ho B 5 i0 ht hu hi hz0 hz1 hz2 v l.length (l.map pl.byteV) hs hown S hy (by unfold maxLen; omega) (by omega) (by omega) ?_
  intro v' w' h1 h2 _
  refine h v' w' ?_ (hb.grown hown h2 (by omega))
  unfold Byts
  have hl : S.data.toList.length = S.size := by simp
  rw [List.length_append, List.map_append, hl]
  exact h1

end Go.Proofs.YtfkohahlpfejbaaDoor
