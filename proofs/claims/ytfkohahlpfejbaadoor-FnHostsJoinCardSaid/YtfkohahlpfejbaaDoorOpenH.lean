/-
  ARGUMENTS OPENED: slices of strings, of hosts.
-/
import Derived.Test.YtfkohahlpfejbaaDoorHostLawH
import Derived.Deep.Strs
import Derived.Deep.Slices
import Derived.Deep.Fields
import Derived.ChangeSame
namespace Go.Proofs.YtfkohahlpfejbaaDoor
open Go.ChangeShapes Go.WideShapes Go.Deep Go.RowKit

section
variable {H : Type} {enc : TypeId × Value → H} {P : Program} {w : World} {base : Nat} {spare : Nat → Bool} {held : Bool}

theorem pl.list_of {α : Type} (len : Nat) (r : Nat → α → Prop) [Inhabited α] (h : ∀ i, i < len → ∃ x, r i x) : ∃ l : List α, l.length = len ∧ ∀ k x, l[k]? = some x → r k x := by
  obtain ⟨f, hf⟩ : ∃ f : Nat → α, ∀ i, i < len → r i (f i) := Classical.axiomOfChoice (r := fun i x => i < len → r i x) (fun i => by
    by_cases hi : i < len
    · obtain ⟨x, hx⟩ := h i hi; exact ⟨x, fun _ => hx⟩
    · exact ⟨default, fun h => absurd h hi⟩)
  refine ⟨(List.range len).map f, by simp, fun k x hk => ?_⟩
  obtain ⟨h1, h2⟩ := List.getElem?_eq_some_iff.1 hk
  simp only [List.length_map, List.length_range] at h1
  simp only [List.getElem_map, List.getElem_range] at h2
  subst h2
  exact hf k h1

theorem cell_lt_o {g o : Nat} {s : Option Nat} {v : Value} (h : w.cell? ⟨g, o, s⟩ = some v) : g < w.heap.size := by
  rcases Nat.lt_or_ge g w.heap.size with h1 | h1
  · exact h1
  · simp [World.cell?, Array.getElem?_eq_none h1] at h
theorem spot_add {g o : Nat} {s : Option Nat} {n : Nat} {v : Value} (h : w.cell? (Addr.add ⟨g, o, s⟩ n) = some v) : n = 0 → s = none := fun h0 => by
  subst h0
  exact World.cell?_spot h

theorem RdS.of_trod {t e : TypeId} {fuel : Nat} {v : Value} {x : DataW H × List MemPlace} (ht : P.underlying t = some (.slice e)) (he : P.underlying e = some .string) (hc : P.cellsOf e = 1)
    (h : DataW.trod enc P w base spare held fuel t [v] = some x) : ∃ l, RdS w v l := by
  rcases open_strs ht he hc h with ⟨h0, _⟩ | ⟨a, len, cap, m, Sx, h0, _, hl, _, hm, _, hi⟩
  · injection h0 with h0 _
    exact ⟨[], none, 0, h0, Nat.zero_le _, fun _ => rfl, fun k p hk => by simp at hk⟩
  · injection h0 with h0 _
    have hlm : len ≤ m := by rw [hm]; split <;> omega
    obtain ⟨l, hll, hlx⟩ := pl.list_of len (fun i (p : List UInt8) => w.cell? (a.add i) = some (pl.strV p)) (fun i hi' => ⟨(Sx i).data.toList, (hi i (by omega)).1⟩)
    subst hll
    refine ⟨l, some a, cap, h0, hl, (fun e => by cases e), fun k p hk => ?_⟩
    obtain ⟨g, o, s⟩ := a
    have hpos : 0 < l.length := by have := (List.getElem?_eq_some_iff.1 hk).1; omega
    have hs : s = none := spot_add (hi 0 (by omega)).1 rfl
    subst hs
    have hck := hlx k p hk
    rw [Addr.add_lit] at hck
    exact ⟨g, o, rfl, cell_lt_o hck, hck⟩

theorem RdH.of_trod {t e ts : TypeId} {f0 f1 : Field} {fuel : Nat} {v : Value} {x : DataW H × List MemPlace} (ht : P.underlying t = some (.slice e)) (he : P.underlying e = some (.struct #[f0, f1])) (hone : oneCellFields P #[f0, f1] = true) (hC : P.cellsOf e = 2)
    (h0 : P.underlying f0.type = some .string) (h1 : P.underlying f1.type = some (.slice ts)) (h2 : P.underlying ts = some .string) (h3 : P.cellsOf ts = 1)
    (h : DataW.trod enc P w base spare held fuel t [v] = some x) : ∃ l, RdH w v l := by
  rcases open_slice ht h with ⟨e0, _⟩ | ⟨a, len, cap, m, n, D, Pl, e0, _, hl, _, hm, _, hi⟩
  · injection e0 with e0 _
    exact ⟨[], none, 0, e0, fun k p hk => by simp at hk⟩
  · injection e0 with e0 _
    have hlm : len ≤ m := by rw [hm]; split <;> omega
    rw [hC] at hi
    have hf : ∀ i, i < len → ∃ (hst : List UInt8 × List (List UInt8)) , ∃ vn, w.cell? (a.add (i * 2)) = some (pl.strV hst.1) ∧ w.cell? (a.add (i * 2 + 1)) = some vn ∧ RdS w vn hst.2 := fun i hi' => by
      obtain ⟨cs', hc, ht'⟩ := hi i (by omega)
      obtain ⟨ys, n', hn', hy, hlen, hyl, hf⟩ := DataW.trod_struct he ht'
      obtain ⟨_, hcl, hat⟩ := World.cells?_some hc
      match cs', hcl with
      | [c0, c1], _ =>
        obtain ⟨o0, k0⟩ := hone_of hone 0 f0 rfl
        obtain ⟨o1, k1⟩ := hone_of hone 1 f1 rfl
        have ha0 := hat 0 (by omega)
        have ha1 := hat 1 (by omega)
        rw [Go.Deep.add_add] at ha0 ha1
        have g0 := hf 0 f0 rfl
        have g1 := hf 1 f1 rfl
        rw [o0, k0] at g0
        rw [o1, k1] at g1
        simp only [List.drop_zero, List.take_succ_cons, List.take_zero, List.drop_succ_cons] at g0 g1
        have hy0 : ys[0]? = some (ys[0]'(by rw [hyl]; simp)) := List.getElem?_eq_getElem _
        have hy1 : ys[1]? = some (ys[1]'(by rw [hyl]; simp)) := List.getElem?_eq_getElem _
        obtain ⟨s, hs, _, _⟩ := DataW.trod_string h0 (g0.trans hy0)
        obtain ⟨l1, hl1⟩ := RdS.of_trod h1 h2 h3 (g1.trans hy1)
        simp only [List.cons.injEq, and_true] at hs
        subst hs
        exact ⟨(s.data.toList, l1), c1, ha0, ha1, hl1⟩
    obtain ⟨l, hll, hlx⟩ := pl.list_of len (fun i (hst : List UInt8 × List (List UInt8)) => ∃ vn, w.cell? (a.add (i * 2)) = some (pl.strV hst.1) ∧ w.cell? (a.add (i * 2 + 1)) = some vn ∧ RdS w vn hst.2) hf
    subst hll
    refine ⟨l, some a, cap, e0, fun k p hk => ?_⟩
    obtain ⟨g, o, s⟩ := a
    have hpos : 0 < l.length := by have := (List.getElem?_eq_some_iff.1 hk).1; omega
    obtain ⟨_, _, hz, _⟩ := hf 0 hpos
    have hs : s = none := spot_add hz (by omega)
    subst hs
    obtain ⟨vn, hc0, hc1, hr⟩ := hlx k p hk
    rw [Addr.add_lit] at hc0 hc1
    exact ⟨g, o, vn, rfl, cell_lt_o hc0, hc0, hc1, hr⟩
end

theorem walk_FnAddr (v : Value) (l : HostL) (gap : Int) (ad : ByteArray) (W : World) (hv : RdH W v l) (_ : (Lit.int .i64 gap).wf = true) (_ : ad.size ≤ maxLen) (hL : laidMetH Tryd.prog Rows.fnAddrRow.laid W) :
    Calls Tryd.prog 3 #[v, .int .i64 gap, .string ad] W fun e W' => e = .returned (.bool true) ∧ Below W.heap.size W W' := by
  rw [MakeChecks.laidMetH_plain _ _ _ (by kernel_rfl)] at hL
  obtain ⟨g4, o4, g6, o6, hI⟩ := ip_of_laid hL
  exact addr_law g4 o4 g6 o6 v l gap ad.data.toList W hv hI
theorem walk_FnHost (v : Value) (l : HostL) (gap : Int) (nm : ByteArray) (W : World) (hv : RdH W v l) (_ : (Lit.int .i64 gap).wf = true) (_ : nm.size ≤ maxLen) (hL : laidMetH Tryd.prog Rows.fnHostRow.laid W) :
    Calls Tryd.prog 4 #[v, .int .i64 gap, .string nm] W fun e W' => e = .returned (.bool true) ∧ Below W.heap.size W W' := by
  rw [MakeChecks.laidMetH_plain _ _ _ (by kernel_rfl)] at hL
  obtain ⟨g4, o4, g6, o6, hI⟩ := ip_of_laid hL
  exact host_law g4 o4 g6 o6 v l gap nm.data.toList W hv hI

end Go.Proofs.YtfkohahlpfejbaaDoor
