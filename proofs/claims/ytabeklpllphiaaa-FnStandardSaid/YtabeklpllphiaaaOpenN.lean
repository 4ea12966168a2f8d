/-
  ARGUMENTS OPENED: sources, slices of sources; the walk of FnSources.
-/
import Derived.Test.YtabeklpllphiaaaNsL
import Derived.Test.YtabeklpllphiaaaOpenB
namespace Go.Proofs.Ytabeklpllphiaaa
open Go.ChangeShapes Go.WideShapes Go.Deep Go.RowKit

/-- The value v reads as this source. -/
def RdS1 (w : World) (v : Value) (s : Src) : Prop := ∃ vn, v = .agg #[pl.strV s.1, vn] ∧ RdK w vn s.2

section
variable {H : Type} {enc : TypeId × Value → H} {P : Program} {w : World} {base : Nat} {spare : Nat → Bool} {held : Bool}

theorem RdK.of_trod {t e : TypeId} {f0 f1 f2 : Field} {fuel : Nat} {v : Value} {x : DataW H × List MemPlace} (ht : P.underlying t = some (.slice e)) (he : P.underlying e = some (.struct #[f0, f1, f2])) (hone : oneCellFields P #[f0, f1, f2] = true) (hC : P.cellsOf e = 3)
    (h0 : P.underlying f0.type = some .bool) (h1 : P.underlying f1.type = some .string) (h2 : P.underlying f2.type = some .string)
    (h : DataW.trod enc P w base spare held fuel t [v] = some x) : ∃ l, RdK w v l := by
  rcases open_slice ht h with ⟨e0, _⟩ | ⟨a, len, cap, m, n, D, Pl, e0, _, hl, _, hm, _, hi⟩
  · injection e0 with e0 _
    exact ⟨[], none, 0, e0, fun k p hk => by simp at hk⟩
  · injection e0 with e0 _
    have hlm : len ≤ m := by rw [hm]; split <;> omega
    rw [hC] at hi
    have hf : ∀ i, i < len → ∃ (s : Crit), w.cell? (a.add (i * 3)) = some (.bool s.1) ∧ w.cell? (a.add (i * 3 + 1)) = some (pl.strV s.2.1) ∧ w.cell? (a.add (i * 3 + 2)) = some (pl.strV s.2.2) := fun i hi' => by
      obtain ⟨cs', hc, ht'⟩ := hi i (by omega)
      obtain ⟨ys, n', hn', hy, hlen, hyl, hf⟩ := DataW.trod_struct he ht'
      obtain ⟨_, hcl, hat⟩ := World.cells?_some hc
      match cs', hcl with
      | [c0, c1, c2], _ =>
        obtain ⟨o0, k0⟩ := hone_of hone 0 f0 rfl
        obtain ⟨o1, k1⟩ := hone_of hone 1 f1 rfl
        obtain ⟨o2, k2⟩ := hone_of hone 2 f2 rfl
        have ha0 := hat 0 (by omega)
        have ha1 := hat 1 (by omega)
        have ha2 := hat 2 (by omega)
        rw [Go.Deep.add_add] at ha0 ha1 ha2
        have g0 := hf 0 f0 rfl
        have g1 := hf 1 f1 rfl
        have g2 := hf 2 f2 rfl
        rw [o0, k0] at g0
        rw [o1, k1] at g1
        rw [o2, k2] at g2
        simp only [List.drop_zero, List.take_succ_cons, List.take_zero, List.drop_succ_cons] at g0 g1 g2
        have hy0 : ys[0]? = some (ys[0]'(by rw [hyl]; simp)) := List.getElem?_eq_getElem _
        have hy1 : ys[1]? = some (ys[1]'(by rw [hyl]; simp)) := List.getElem?_eq_getElem _
        have hy2 : ys[2]? = some (ys[2]'(by rw [hyl]; simp)) := List.getElem?_eq_getElem _
        obtain ⟨b0, hb0, _⟩ := DataW.trod_bool h0 (g0.trans hy0)
        obtain ⟨s1, hs1, _, _⟩ := DataW.trod_string h1 (g1.trans hy1)
        obtain ⟨s2, hs2, _, _⟩ := DataW.trod_string h2 (g2.trans hy2)
        simp only [List.cons.injEq, and_true] at hb0 hs1 hs2
        subst hb0
        subst hs1
        subst hs2
        exact ⟨(b0, s1.data.toList, s2.data.toList), ha0, ha1, ha2⟩
    obtain ⟨l, hll, hlx⟩ := pl.list_of len (fun i (s : Crit) => w.cell? (a.add (i * 3)) = some (.bool s.1) ∧ w.cell? (a.add (i * 3 + 1)) = some (pl.strV s.2.1) ∧ w.cell? (a.add (i * 3 + 2)) = some (pl.strV s.2.2)) hf
    subst hll
    refine ⟨l, some a, cap, e0, fun k p hk => ?_⟩
    obtain ⟨g, o, s⟩ := a
    have hpos : 0 < l.length := by have := (List.getElem?_eq_some_iff.1 hk).1; omega
    obtain ⟨_, hz, _⟩ := hf 0 hpos
    have hs : s = none := spot_add hz (by omega)
    subst hs
    obtain ⟨hc0, hc1, hc2⟩ := hlx k p hk
    rw [Addr.add_lit] at hc0 hc1 hc2
    exact ⟨g, o, rfl, cell_lt_o hc0, hc0, hc1, hc2⟩

theorem RdN.of_trod {t e tc ec : TypeId} {f0 f1 g0 g1 g2 : Field} {fuel : Nat} {v : Value} {x : DataW H × List MemPlace} (ht : P.underlying t = some (.slice e)) (he : P.underlying e = some (.struct #[f0, f1])) (hone : oneCellFields P #[f0, f1] = true) (hC : P.cellsOf e = 2)
    (h0 : P.underlying f0.type = some .string) (h1 : P.underlying f1.type = some (.slice ec)) (he2 : P.underlying ec = some (.struct #[g0, g1, g2])) (hone2 : oneCellFields P #[g0, g1, g2] = true) (hC2 : P.cellsOf ec = 3)
    (k0 : P.underlying g0.type = some .bool) (k1 : P.underlying g1.type = some .string) (k2 : P.underlying g2.type = some .string) (_ : tc = ec)
    (h : DataW.trod enc P w base spare held fuel t [v] = some x) : ∃ l, RdN w v l := by
  rcases open_slice ht h with ⟨e0, _⟩ | ⟨a, len, cap, m, n, D, Pl, e0, _, hl, _, hm, _, hi⟩
  · injection e0 with e0 _
    exact ⟨[], none, 0, e0, fun k p hk => by simp at hk⟩
  · injection e0 with e0 _
    have hlm : len ≤ m := by rw [hm]; split <;> omega
    rw [hC] at hi
    have hf : ∀ i, i < len → ∃ (s : Src), ∃ vn, w.cell? (a.add (i * 2)) = some (pl.strV s.1) ∧ w.cell? (a.add (i * 2 + 1)) = some vn ∧ RdK w vn s.2 := fun i hi' => by
      obtain ⟨cs', hc, ht'⟩ := hi i (by omega)
      obtain ⟨ys, n', hn', hy, hlen, hyl, hf⟩ := DataW.trod_struct he ht'
      obtain ⟨_, hcl, hat⟩ := World.cells?_some hc
      match cs', hcl with
      | [c0, c1], _ =>
        obtain ⟨o0, q0⟩ := hone_of hone 0 f0 rfl
        obtain ⟨o1, q1⟩ := hone_of hone 1 f1 rfl
        have ha0 := hat 0 (by omega)
        have ha1 := hat 1 (by omega)
        rw [Go.Deep.add_add] at ha0 ha1
        have z0 := hf 0 f0 rfl
        have z1 := hf 1 f1 rfl
        rw [o0, q0] at z0
        rw [o1, q1] at z1
        simp only [List.drop_zero, List.take_succ_cons, List.take_zero, List.drop_succ_cons] at z0 z1
        have hy0 : ys[0]? = some (ys[0]'(by rw [hyl]; simp)) := List.getElem?_eq_getElem _
        have hy1 : ys[1]? = some (ys[1]'(by rw [hyl]; simp)) := List.getElem?_eq_getElem _
        obtain ⟨s0, hs0, _, _⟩ := DataW.trod_string h0 (z0.trans hy0)
        obtain ⟨l1, hl1⟩ := RdK.of_trod h1 he2 hone2 hC2 k0 k1 k2 (z1.trans hy1)
        simp only [List.cons.injEq, and_true] at hs0
        subst hs0
        exact ⟨(s0.data.toList, l1), c1, ha0, ha1, hl1⟩
    obtain ⟨l, hll, hlx⟩ := pl.list_of len (fun i (s : Src) => ∃ vn, w.cell? (a.add (i * 2)) = some (pl.strV s.1) ∧ w.cell? (a.add (i * 2 + 1)) = some vn ∧ RdK w vn s.2) hf
    subst hll
    refine ⟨l, some a, cap, e0, fun k p hk => ?_⟩
    obtain ⟨g, o, s⟩ := a
    have hpos : 0 < l.length := by have := (List.getElem?_eq_some_iff.1 hk).1; omega
    obtain ⟨_, _, hz, _⟩ := hf 0 hpos
    have hs : s = none := spot_add hz (by omega)
    subst hs
    obtain ⟨vn, hc0, hc1, hr⟩ := hlx k p hk
    rw [Addr.add_lit] at hc0 hc1
    exact ⟨g, o, vn, rfl, cell_lt_o hc0, hc0, hc1, hr⟩

theorem RdS1.of_trod {r : Reach} {b0 : Nat} {t tc ec : TypeId} {f0 f1 g0 g1 g2 : Field} {v : Value} {d : DataW H} {ps : List MemPlace} (he : P.underlying t = some (.struct #[f0, f1])) (hone : oneCellFields P #[f0, f1] = true) (hC : P.cellsOf t = 2)
    (h0 : P.underlying f0.type = some .string) (h1 : P.underlying f1.type = some (.slice ec)) (he2 : P.underlying ec = some (.struct #[g0, g1, g2])) (hone2 : oneCellFields P #[g0, g1, g2] = true) (hC2 : P.cellsOf ec = 3)
    (k0 : P.underlying g0.type = some .bool) (k1 : P.underlying g1.type = some .string) (k2 : P.underlying g2.type = some .string) (_ : tc = ec)
    (hv : Value.okWide P w r b0 t v) (h : DataW.Trod enc P w base spare held t v d ps) : ∃ s, RdS1 w v s := by
  obtain ⟨cs, rfl, hsz⟩ := okWide_struct he hv
  obtain ⟨l⟩ := cs
  obtain ⟨fuel, hf⟩ := h
  obtain ⟨ys, n, hn, hy, hlen, hyl, hfl⟩ := DataW.trod_struct he hf
  rw [hC] at hsz
  match l, hsz with
  | [u0, u1], _ =>
    obtain ⟨o0, q0⟩ := hone_of hone 0 f0 rfl
    obtain ⟨o1, q1⟩ := hone_of hone 1 f1 rfl
    have e0 := hfl 0 f0 rfl
    have e1 := hfl 1 f1 rfl
    rw [o0, q0] at e0
    rw [o1, q1] at e1
    have hy0 : ys[0]? = some (ys[0]'(by rw [hyl]; simp)) := List.getElem?_eq_getElem _
    have hy1 : ys[1]? = some (ys[1]'(by rw [hyl]; simp)) := List.getElem?_eq_getElem _
    obtain ⟨s0, hs0, _, _⟩ := DataW.trod_string h0 (e0.trans hy0)
    obtain ⟨l1, r1⟩ := RdK.of_trod (v := u1) h1 he2 hone2 hC2 k0 k1 k2 (e1.trans hy1)
    have hs1 : [u0] = [Value.string s0] := hs0
    injection hs1 with hs1 _
    subst hs1
    exact ⟨(s0.data.toList, l1), u1, rfl, r1⟩
end

theorem walk_FnSources (db : ByteArray) (v : Value) (l : List Src) (W : World) (_ : db.size ≤ maxLen) (hv : RdN W v l) :
    Calls Try.prog 6 #[.string db, v] W fun e W' => e = .returned (.bool true) ∧ Below W.heap.size W W' := src_law v db.data.toList l W hv

end Go.Proofs.Ytabeklpllphiaaa
