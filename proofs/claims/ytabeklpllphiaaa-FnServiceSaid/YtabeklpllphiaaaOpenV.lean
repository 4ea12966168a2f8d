/-
  ARGUMENTS OPENED: slices of services; the walk of FnService.
-/
import Derived.Test.YtabeklpllphiaaaSvL
import Derived.Test.YtabeklpllphiaaaOpenB
namespace Go.Proofs.Ytabeklpllphiaaa
open Go.ChangeShapes Go.WideShapes Go.Deep Go.RowKit

section
variable {H : Type} {enc : TypeId × Value → H} {P : Program} {w : World} {base : Nat} {spare : Nat → Bool} {held : Bool}

theorem RdV.of_trod {t e ts ti : TypeId} {f0 f1 f2 f3 : Field} {fuel : Nat} {v : Value} {x : DataW H × List MemPlace} (ht : P.underlying t = some (.slice e)) (he : P.underlying e = some (.struct #[f0, f1, f2, f3])) (hone : oneCellFields P #[f0, f1, f2, f3] = true) (hC : P.cellsOf e = 4)
    (h0 : P.underlying f0.type = some .string) (h1 : P.underlying f1.type = some (.int .i64)) (h2 : P.underlying f2.type = some .string) (h3 : P.underlying f3.type = some (.slice ts)) (h4 : P.underlying ts = some .string) (h5 : P.cellsOf ts = 1) (_ : ti = ts)
    (h : DataW.trod enc P w base spare held fuel t [v] = some x) : ∃ l, RdV w v l := by
  rcases open_slice ht h with ⟨e0, _⟩ | ⟨a, len, cap, m, n, D, Pl, e0, _, hl, _, hm, _, hi⟩
  · injection e0 with e0 _
    exact ⟨[], none, 0, e0, fun k p hk => by simp at hk⟩
  · injection e0 with e0 _
    have hlm : len ≤ m := by rw [hm]; split <;> omega
    rw [hC] at hi
    have hf : ∀ i, i < len → ∃ (s : Svc), ∃ vn, w.cell? (a.add (i * 4)) = some (pl.strV s.1) ∧ w.cell? (a.add (i * 4 + 1)) = some (.int .i64 s.2.1) ∧ w.cell? (a.add (i * 4 + 2)) = some (pl.strV s.2.2.1) ∧ w.cell? (a.add (i * 4 + 3)) = some vn ∧ RdS w vn s.2.2.2 := fun i hi' => by
      obtain ⟨cs', hc, ht'⟩ := hi i (by omega)
      obtain ⟨ys, n', hn', hy, hlen, hyl, hf⟩ := DataW.trod_struct he ht'
      obtain ⟨_, hcl, hat⟩ := World.cells?_some hc
      match cs', hcl with
      | [c0, c1, c2, c3], _ =>
        obtain ⟨o0, k0⟩ := hone_of hone 0 f0 rfl
        obtain ⟨o1, k1⟩ := hone_of hone 1 f1 rfl
        obtain ⟨o2, k2⟩ := hone_of hone 2 f2 rfl
        obtain ⟨o3, k3⟩ := hone_of hone 3 f3 rfl
        have ha0 := hat 0 (by omega)
        have ha1 := hat 1 (by omega)
        have ha2 := hat 2 (by omega)
        have ha3 := hat 3 (by omega)
        rw [Go.Deep.add_add] at ha0 ha1 ha2 ha3
        have g0 := hf 0 f0 rfl
        have g1 := hf 1 f1 rfl
        have g2 := hf 2 f2 rfl
        have g3 := hf 3 f3 rfl
        rw [o0, k0] at g0
        rw [o1, k1] at g1
        rw [o2, k2] at g2
        rw [o3, k3] at g3
        simp only [List.drop_zero, List.take_succ_cons, List.take_zero, List.drop_succ_cons] at g0 g1 g2 g3
        have hy0 : ys[0]? = some (ys[0]'(by rw [hyl]; simp)) := List.getElem?_eq_getElem _
        have hy1 : ys[1]? = some (ys[1]'(by rw [hyl]; simp)) := List.getElem?_eq_getElem _
        have hy2 : ys[2]? = some (ys[2]'(by rw [hyl]; simp)) := List.getElem?_eq_getElem _
        have hy3 : ys[3]? = some (ys[3]'(by rw [hyl]; simp)) := List.getElem?_eq_getElem _
        obtain ⟨s0, hs0, _, _⟩ := DataW.trod_string h0 (g0.trans hy0)
        obtain ⟨i1, hi1, _, _⟩ := DataW.trod_int h1 (g1.trans hy1)
        obtain ⟨s2, hs2, _, _⟩ := DataW.trod_string h2 (g2.trans hy2)
        obtain ⟨l1, hl1⟩ := RdS.of_trod h3 h4 h5 (g3.trans hy3)
        simp only [List.cons.injEq, and_true] at hs0 hi1 hs2
        subst hs0
        subst hi1
        subst hs2
        exact ⟨(s0.data.toList, i1, s2.data.toList, l1), c3, ha0, ha1, ha2, ha3, hl1⟩
    obtain ⟨l, hll, hlx⟩ := pl.list_of len (fun i (s : Svc) => ∃ vn, w.cell? (a.add (i * 4)) = some (pl.strV s.1) ∧ w.cell? (a.add (i * 4 + 1)) = some (.int .i64 s.2.1) ∧ w.cell? (a.add (i * 4 + 2)) = some (pl.strV s.2.2.1) ∧ w.cell? (a.add (i * 4 + 3)) = some vn ∧ RdS w vn s.2.2.2) hf
    subst hll
    refine ⟨l, some a, cap, e0, fun k p hk => ?_⟩
    obtain ⟨g, o, s⟩ := a
    have hpos : 0 < l.length := by have := (List.getElem?_eq_some_iff.1 hk).1; omega
    obtain ⟨_, _, hz, _⟩ := hf 0 hpos
    have hs : s = none := spot_add hz (by omega)
    subst hs
    obtain ⟨vn, hc0, hc1, hc2, hc3, hr⟩ := hlx k p hk
    rw [Addr.add_lit] at hc0 hc1 hc2 hc3
    exact ⟨g, o, vn, rfl, cell_lt_o hc0, hc0, hc1, hc2, hc3, hr⟩
end

theorem walk_FnService (v : Value) (l : SvcL) (pr nm : ByteArray) (W : World) (hv : RdV W v l) (_ : pr.size ≤ maxLen) (_ : nm.size ≤ maxLen) :
    Calls Try.prog 3 #[v, .string pr, .string nm] W fun e W' => e = .returned (.bool true) ∧ Below W.heap.size W W' := svc_law v l pr.data.toList nm.data.toList W hv

end Go.Proofs.Ytabeklpllphiaaa
