/-
  THE LAW: 'append(out, x...)' of bytes, x nil or not.
-/
import Derived.Test.YtfkohahlpfejbaaDoorByt
import Derived.Laws.AppendOwnNone
namespace Go.Proofs.YtfkohahlpfejbaaDoor
open Go.RowKit

theorem app_bytes {ops : Array Oper} {rest : List Oper} {o : Oper} {a : Act} {Q : Exit → Act → World → Prop} {w wr : World} {v yv : Value} {l m : List UInt8} (t : TypeId) (hu : Tryd.prog.underlying t = some (.slice 5))
    (hgd : o.guard = none) (s y : Operand) (ho : o.op = .call { callee := .builtin .append, args := #[s, y], argTypes := #[t, t] })
    (hs : a.eval s = v) (B : Nat) (hown : Byts wr B v l) (hy : a.eval y = yv) (hr : Reads wr yv m) (hlen : l.length + m.length ≤ 70368744177664) (hb : Below B w wr) (hB : B ≤ w.heap.size)
    (h : ∀ v' w', Byts w' B v' (l ++ m) → Below B w w' → wpList Tryd.prog ops Q rest (a.put o.dst v') w') : wpList Tryd.prog ops Q (o :: rest) a wr := by
  obtain ⟨i0, hi, hz0, hz1, hz2⟩ := info_parts infoByte
  have hsz := hb.size
  obtain ⟨ao, cap, rfl, h1, h2, h0, h3⟩ := hr
  rcases ao with _ | x
  · have hm : m = [] := List.eq_nil_of_length_eq_zero (by have := h0 rfl; omega)
    have hc0 : cap = 0 := h0 rfl
    rw [hm] at hy
    rw [hc0] at hy
    refine wpList_append_own_none hgd s y t ho B 5 i0 1 hu hi v l.length (l.map pl.byteV) hs hown hy (h v wr ?_ hb)
    rw [hm, List.append_nil]
    exact hown
  · refine wpList_append_own _ hgd s y t ho B 5 i0 (.int .u8 0) 1 1 hu hi hz0 hz1 hz2 rfl (by decide) v l.length (l.map pl.byteV) hs hown x m.length cap (m.map pl.byteV) hy (by simp) ?_ ?_ ?_ ?_ ?_ ?_
    · intro j u hj
      rw [List.getElem?_map, Option.map_eq_some_iff] at hj
      obtain ⟨b, hb', rfl⟩ := hj
      obtain ⟨g, off, ha, _, hc⟩ := h3 j b hb'
      rw [Option.some.inj ha, Addr.add_lit]
      exact hc
    · intro u hu
      obtain ⟨b, _, rfl⟩ := List.mem_map.1 hu
      rfl
    · unfold maxLen; omega
    · omega
    · omega
    · intro v' w' h1 h2 _
      refine h v' w' ?_ ?_
      · unfold Byts
        rw [List.length_append, List.map_append]
        exact h1
      · exact hb.grown h2 (by omega) (fun k hk => ((World.ownsRow.lt hown) k hk).1)

end Go.Proofs.YtfkohahlpfejbaaDoor
