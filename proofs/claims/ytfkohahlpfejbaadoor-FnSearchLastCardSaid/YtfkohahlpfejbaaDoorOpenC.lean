/-
  ARGUMENTS OPENED: configurations of resolv.conf; the walk of FnResolv.
-/
import Derived.Test.YtfkohahlpfejbaaDoorRv9
import Derived.Test.YtfkohahlpfejbaaDoorOpenB
namespace Go.Proofs.YtfkohahlpfejbaaDoor
open Go.ChangeShapes Go.WideShapes Go.Deep Go.RowKit

/-- The value v reads as this configuration. -/
def RdC (w : World) (v : Value) (c : Cnf) : Prop := ∃ vs vq vo, v = .agg #[vs, vq, vo] ∧ RdS w vs c.1 ∧ RdS w vq c.2.1 ∧ RdO w vo c.2.2

section
variable {H : Type} {enc : TypeId × Value → H} {P : Program} {w : World} {base : Nat} {spare : Nat → Bool} {held : Bool}

theorem RdO.of_trod {t e : TypeId} {f0 f1 : Field} {fuel : Nat} {v : Value} {x : DataW H × List MemPlace} (ht : P.underlying t = some (.slice e)) (he : P.underlying e = some (.struct #[f0, f1])) (hone : oneCellFields P #[f0, f1] = true) (hC : P.cellsOf e = 2)
    (h0 : P.underlying f0.type = some (.int .i64)) (h1 : P.underlying f1.type = some (.int .i64))
    (h : DataW.trod enc P w base spare held fuel t [v] = some x) : ∃ l, RdO w v l := by
  rcases open_slice ht h with ⟨e0, _⟩ | ⟨a, len, cap, m, n, D, Pl, e0, _, hl, _, hm, _, hi⟩
  · injection e0 with e0 _
    exact ⟨[], none, 0, e0, Nat.zero_le _, fun _ => rfl, fun k p hk => by simp at hk⟩
  · injection e0 with e0 _
    have hlm : len ≤ m := by rw [hm]; split <;> omega
    rw [hC] at hi
    have hf : ∀ i, i < len → ∃ (s : Opt), w.cell? (a.add (i * 2)) = some (.int .i64 s.1) ∧ w.cell? (a.add (i * 2 + 1)) = some (.int .i64 s.2) ∧ s.2 < 9223372036854775808 := fun i hi' => by
      obtain ⟨cs', hc, ht'⟩ := hi i (by omega)
      obtain ⟨ys, n', hn', hy, hlen, hyl, hf⟩ := DataW.trod_struct he ht'
      obtain ⟨_, hcl, hat⟩ := World.cells?_some hc
      match cs', hcl with
      | [c0, c1], _ =>
        obtain ⟨o0, k0⟩ := hone_of hone 0 f0 rfl
        obtain ⟨o1, k1⟩ := hone_of hone 1 f1 rfl
        have ha0 := hat 0 (by omega)
        have ha1 := hat 1 (by omega)
        rw [Go.Deep.add_add] at ha0 ha1
        have g0 := hf 0 f0 rfl
        have g1 := hf 1 f1 rfl
        rw [o0, k0] at g0
        rw [o1, k1] at g1
        simp only [List.drop_zero, List.take_succ_cons, List.take_zero, List.drop_succ_cons] at g0 g1
        have hy0 : ys[0]? = some (ys[0]'(by rw [hyl]; simp)) := List.getElem?_eq_getElem _
        have hy1 : ys[1]? = some (ys[1]'(by rw [hyl]; simp)) := List.getElem?_eq_getElem _
        obtain ⟨i0, hi0, _, _⟩ := DataW.trod_int h0 (g0.trans hy0)
        obtain ⟨i1, hi1, _, hwf⟩ := DataW.trod_int h1 (g1.trans hy1)
        simp only [List.cons.injEq, and_true] at hi0 hi1
        subst hi0
        subst hi1
        refine ⟨(i0, i1), ha0, ha1, ?_⟩
        simp [Lit.wf, IntKind.max, IntKind.min, IntKind.signed, IntKind.bits] at hwf
        show i1 < _
        omega
    obtain ⟨l, hll, hlx⟩ := pl.list_of len (fun i (s : Opt) => w.cell? (a.add (i * 2)) = some (.int .i64 s.1) ∧ w.cell? (a.add (i * 2 + 1)) = some (.int .i64 s.2) ∧ s.2 < 9223372036854775808) hf
    subst hll
    refine ⟨l, some a, cap, e0, hl, (fun e => by cases e), fun k p hk => ?_⟩
    obtain ⟨g, o, s⟩ := a
    have hpos : 0 < l.length := by have := (List.getElem?_eq_some_iff.1 hk).1; omega
    obtain ⟨_, hz, _⟩ := hf 0 hpos
    have hs : s = none := spot_add hz (by omega)
    subst hs
    obtain ⟨hc0, hc1, hr⟩ := hlx k p hk
    rw [Addr.add_lit] at hc0 hc1
    exact ⟨g, o, rfl, cell_lt_o hc0, hc0, hc1, hr⟩

theorem RdC.of_trod {r : Reach} {b0 : Nat} {t ts tp te : TypeId} {f0 f1 f2 g0 g1 : Field} {v : Value} {d : DataW H} {ps : List MemPlace} (hs : P.underlying t = some (.struct #[f0, f1, f2])) (hone : oneCellFields P #[f0, f1, f2] = true) (hC : P.cellsOf t = 3)
    (h0 : P.underlying f0.type = some (.slice ts)) (h1 : P.underlying f1.type = some (.slice ts)) (h2 : P.underlying ts = some .string) (h3 : P.cellsOf ts = 1) (h4 : P.underlying f2.type = some (.slice tp)) (he : P.underlying tp = some (.struct #[g0, g1])) (hone2 : oneCellFields P #[g0, g1] = true) (hC2 : P.cellsOf tp = 2)
    (k0 : P.underlying g0.type = some (.int .i64)) (k1 : P.underlying g1.type = some (.int .i64)) (_ : te = tp)
    (hv : Value.okWide P w r b0 t v) (h : DataW.Trod enc P w base spare held t v d ps) : ∃ c, RdC w v c := by
  obtain ⟨cs, rfl, hsz⟩ := okWide_struct hs hv
  obtain ⟨l⟩ := cs
  obtain ⟨fuel, hf⟩ := h
  obtain ⟨ys, n, hn, hy, hlen, hyl, hfl⟩ := DataW.trod_struct hs hf
  rw [hC] at hsz
  match l, hsz with
  | [u0, u1, u2], _ =>
    obtain ⟨o0, q0⟩ := hone_of hone 0 f0 rfl
    obtain ⟨o1, q1⟩ := hone_of hone 1 f1 rfl
    obtain ⟨o2, q2⟩ := hone_of hone 2 f2 rfl
    have e0 := hfl 0 f0 rfl
    have e1 := hfl 1 f1 rfl
    have e2 := hfl 2 f2 rfl
    rw [o0, q0] at e0
    rw [o1, q1] at e1
    rw [o2, q2] at e2
    have hy0 : ys[0]? = some (ys[0]'(by rw [hyl]; simp)) := List.getElem?_eq_getElem _
    have hy1 : ys[1]? = some (ys[1]'(by rw [hyl]; simp)) := List.getElem?_eq_getElem _
    have hy2 : ys[2]? = some (ys[2]'(by rw [hyl]; simp)) := List.getElem?_eq_getElem _
    obtain ⟨l0, r0⟩ := RdS.of_trod (v := u0) h0 h2 h3 (e0.trans hy0)
    obtain ⟨l1, r1⟩ := RdS.of_trod (v := u1) h1 h2 h3 (e1.trans hy1)
    obtain ⟨l2, r2⟩ := RdO.of_trod (v := u2) h4 he hone2 hC2 k0 k1 (e2.trans hy2)
    exact ⟨(l0, l1, l2), u0, u1, u2, rfl, r0, r1, r2⟩
end

theorem walk_FnResolv (v : Value) (c : Cnf) (apart : Bool) (hn : ByteArray) (W : World) (hv : RdC W v c) (_ : hn.size ≤ maxLen) (hL : laidMetH Tryd.prog Rows.fnResolvRow.laid W) :
    Calls Tryd.prog 11 #[v, .bool apart, .string hn] W fun e W' => e = .returned (.bool true) ∧ Below W.heap.size W W' := by
  rw [MakeChecks.laidMetH_plain _ _ _ (by kernel_rfl)] at hL
  obtain ⟨g4, o4, g6, o6, hI⟩ := ip_of_laid hL
  obtain ⟨sv, se, op⟩ := c
  obtain ⟨vs, vq, vo, rfl, h0, h1, h2⟩ := hv
  exact resolv_law g4 o4 g6 o6 vs vq vo sv se op apart hn W h0 h1 h2 hI

end Go.Proofs.YtfkohahlpfejbaaDoor
