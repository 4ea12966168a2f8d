/-
  WORDS FOR MEMORY: the map of maps of a services file.
-/
import Derived.Test.YtabeklpllphiaaaPlSv2
import Derived.Maps.OwnSet
namespace Go.Proofs.Ytabeklpllphiaaa
open Go.RowKit

abbrev TabF := Key → Key → Option Int
theorem Strs.grown {w w' : World} {B : Nat} {row : Option Nat} {v : Value} {l : List (List UInt8)} (h : Strs w B v l) (hg : w.grownBy w' row) (hne : v.ownBlock = none ∨ v.ownBlock ≠ row) : Strs w' B v l := World.ownsRow.kept h hg hne
theorem MapF.ne_row {P : Program} {k : TypeId} {w : World} {b n g : Nat} {f : List UInt8 → Option Value} {cur : Array Value} {ty : TypeId} {fz : Nat × Nat} (h : MapF P k w b n f) (hc : w.heap[g]? = some (.cells cur ty fz)) : g ≠ b := by
  intro e
  subst e
  obtain ⟨D, ⟨es, clock, hb, _⟩, _⟩ := h
  rw [hb] at hc
  cases hc
/-- what a store into a map keeps -/
theorem Strs.map_put {w w' : World} {B b n : Nat} {f : List UInt8 → Option Value} {v : Value} {l : List (List UInt8)} (h : Strs w B v l) (hm : MapF Try.prog 9 w b n f) (hg : w.grownBy w' (some b)) : Strs w' B v l := by
  refine h.grown hg ?_
  rcases h.2 with ⟨rfl, _⟩ | ⟨g, cap, cur, rfl, _, hh, _⟩
  · exact .inl rfl
  · right
    simp only [Value.ownBlock, ne_eq, Option.some.injEq]
    exact hm.ne_row hh
theorem Blk.map_put {w w' : World} {g b n : Nat} {f : List UInt8 → Option Value} {arr : Array Value} {ty : TypeId} (h : Blk w g arr ty) (hm : MapF Try.prog 9 w b n f) (hg : w.grownBy w' (some b)) : Blk w' g arr ty := by
  refine h.keep (hg.block g h.lt ?_)
  intro e
  injection e with e
  unfold Blk at h
  exact hm.ne_row h e

/-- Block bo is a map of maps; at p it has block g p. -/
structure Tbl (w : World) (bo n : Nat) (T : TabF) (g : Key → Option Nat) : Prop where
  out : MapF Try.prog 9 w bo n (fun p => (g p).map (fun b => Value.map (some b)))
  inn : ∀ p b, g p = some b → MapF Try.prog 9 w b n (fun k => (T p k).map (fun v => Value.int .i64 v))
  non : ∀ p, g p = none → ∀ k, T p k = none
  far : ∀ p b, g p = some b → bo < b
  inj : ∀ p p' b, g p = some b → g p' = some b → p = p'
def TblE (w : World) (bo n : Nat) (T : TabF) : Prop := ∃ g, Tbl w bo n T g

theorem Tbl.keep {w w' : World} {bo n : Nat} {T : TabF} {g : Key → Option Nat} (h : Tbl w bo n T g) (hk : ∀ b n f, MapF Try.prog 9 w b n f → w'.heap[b]? = w.heap[b]?) : Tbl w' bo n T g :=
  ⟨h.out.keep (hk _ _ _ h.out), fun p b hb => (h.inn p b hb).keep (hk _ _ _ (h.inn p b hb)), h.non, h.far, h.inj⟩
theorem Tbl.below {w w' : World} {bo n : Nat} {T : TabF} {g : Key → Option Nat} (h : Tbl w bo n T g) (hb : Below w.heap.size w w') : Tbl w' bo n T g := h.keep fun b _ _ hm => hb.block b hm.lt
theorem Tbl.only {w w' : World} {bo n gf : Nat} {T : TabF} {g : Key → Option Nat} {arr : Array Value} {ty : TypeId} (h : Tbl w bo n T g) (hf : Blk w gf arr ty) (hk : KeepG gf w w') : Tbl w' bo n T g := h.keep fun b _ _ hm => hk b (fun e => hm.ne_row hf e.symm)
theorem Tbl.mono {w : World} {bo n n' : Nat} {T : TabF} {g : Key → Option Nat} (h : Tbl w bo n T g) (hn : n ≤ n') : Tbl w bo n' T g :=
  ⟨h.out.mono hn, fun p b hb => (h.inn p b hb).mono hn, h.non, h.far, h.inj⟩
theorem TblE.below {w w' : World} {bo n : Nat} {T : TabF} (h : TblE w bo n T) (hb : Below w.heap.size w w') : TblE w' bo n T := let ⟨g, h⟩ := h; ⟨g, h.below hb⟩
theorem TblE.only {w w' : World} {bo n gf : Nat} {T : TabF} {arr : Array Value} {ty : TypeId} (h : TblE w bo n T) (hf : Blk w gf arr ty) (hk : KeepG gf w w') : TblE w' bo n T := let ⟨g, h⟩ := h; ⟨g, h.only hf hk⟩
theorem TblE.mono {w : World} {bo n n' : Nat} {T : TabF} (h : TblE w bo n T) (hn : n ≤ n') : TblE w bo n' T := let ⟨g, h⟩ := h; ⟨g, h.mono hn⟩
theorem Tbl.made (w : World) (g0 : Key → Key → Option Int) (h0 : ∀ p k, g0 p k = none) : Tbl (w.alloc (.map #[] 0)) w.heap.size 0 g0 (fun _ => none) :=
  ⟨MapF.made _ _ w, fun _ _ h => (by cases h), fun p _ k => h0 p k, fun _ _ h => (by cases h), fun _ _ _ h => (by cases h)⟩

/-- a store into the map at p -/
theorem Tbl.put {w w' : World} {bo n : Nat} {T : TabF} {g : Key → Option Nat} (h : Tbl w bo n T g) (p : Key) (b : Nat) (hg : g p = some b) (k : Key) (v : Int)
    (hm : MapF Try.prog 9 w' b (n + 1) (fun x => if x = k then some (.int .i64 v) else (T p x).map (fun v => Value.int .i64 v))) (hw : w.grownBy w' (some b)) :
    Tbl w' bo (n + 1) (fun p' k' => if p' = p ∧ k' = k then some v else T p' k') g := by
  refine ⟨(h.out.grown hw (by intro e; injection e with e; have := h.far p b hg; omega)).mono (by omega), fun p' b' hb' => ?_, fun p' hp' k' => ?_, h.far, h.inj⟩
  · by_cases e : p' = p
    · subst e
      rw [hg] at hb'
      injection hb' with hb'
      subst hb'
      refine hm.congr fun x => ?_
      by_cases hx : x = k
      · simp [hx]
      · simp [hx]
    · refine ((h.inn p' b' hb').grown hw ?_).mono (by omega) |>.congr fun x => ?_
      · intro e2; injection e2 with e2; subst e2; exact e (h.inj p' p b' hb' hg)
      · simp [e]
  · have e : p' ≠ p := fun e => by rw [e, hg] at hp'; cases hp'
    simp only [e, false_and, if_false]
    exact h.non p' hp' k'
/-- a new map at p -/
theorem Tbl.new {w w' : World} {bo n : Nat} {T : TabF} {g : Key → Option Nat} (h : Tbl w bo n T g) (p : Key) (hg : g p = none)
    (hm : MapF Try.prog 9 w' bo (n + 1) (fun x => if x = p then some (.map (some w.heap.size)) else (g x).map (fun b => Value.map (some b)))) (hw : (w.alloc (.map #[] 0)).grownBy w' (some bo)) :
    Tbl w' bo (n + 1) T (fun x => if x = p then some w.heap.size else g x) := by
  have hb : Below w.heap.size w (w.alloc (.map #[] 0)) := (Below.refl _ _).alloc (Nat.le_refl _) _
  have hl := h.out.lt
  refine ⟨hm.congr fun x => ?_, fun p' b' hb' => ?_, fun p' hp' k' => ?_, fun p' b' hb' => ?_, fun p1 p2 b' h1 h2 => ?_⟩
  · by_cases e : x = p <;> simp [e]
  · by_cases e : p' = p
    · subst e
      rw [if_pos rfl] at hb'
      injection hb' with hb'
      subst hb'
      refine (((MapF.made Try.prog 9 w).grown hw (by intro e; injection e with e; omega)).mono (by omega)).congr fun x => ?_
      rw [h.non p' hg x]; rfl
    · rw [if_neg e] at hb'
      have h1 := h.inn p' b' hb'
      refine ((h1.below hb h1.lt).grown hw ?_).mono (by omega)
      intro e2; injection e2 with e2
      have := h.far p' b' hb'
      omega
  · by_cases e : p' = p
    · rw [if_pos e] at hp'; cases hp'
    · rw [if_neg e] at hp'; exact h.non p' hp' k'
  · by_cases e : p' = p
    · rw [if_pos e] at hb'; injection hb' with hb'; omega
    · rw [if_neg e] at hb'; exact h.far p' b' hb'
  · have hlt : ∀ x, g x = some b' → b' < w.heap.size := fun x hx => (h.inn x b' hx).lt
    by_cases e1 : p1 = p
    · by_cases e2 : p2 = p
      · rw [e1, e2]
      · rw [if_pos e1] at h1; rw [if_neg e2] at h2
        injection h1 with h1
        have := hlt p2 h2
        omega
    · by_cases e2 : p2 = p
      · rw [if_neg e1] at h1; rw [if_pos e2] at h2
        injection h2 with h2
        have := hlt p1 h1
        omega
      · rw [if_neg e1] at h1; rw [if_neg e2] at h2
        exact h.inj p1 p2 b' h1 h2

/-- .. in a nil map -/
theorem wpList_look_nil {P : Program} (w : World) {ops : Array Oper} {rest : List Oper} {o : Oper} {a : Act} {Q : Exit → Act → World → Prop}
    (hg : o.guard = none) (m x : Operand) (t : TypeId) (c : Bool) (hop : o.op = Op.lookup t m x c) (k e : TypeId) (hk : P.underlying k = some .string) (ht : P.underlying t = some (.map k e)) (z : Value) (hz : (zeroValue e).run P w = .ok z w)
    (hm : a.eval m = .map none) (s : ByteArray) (hs : s.size ≤ maxLen) (hx : a.eval x = .string s)
    (hK : wpList P ops Q rest (a.put o.dst (if c then .tuple #[z, .bool false] else z)) w) :
    wpList P ops Q (o :: rest) a w := by
  refine wpList_plain hg fun K' hK' => ?_
  have hrun := Maps.look_nil (P := P) (w := w) c (Maps.string_keyed hk) ht hz (WideMaps.keyOf_string_mk hk hs)
  unfold Oper.wp
  simp [execOp, hop, hm, hx, hrun, Result.andThen]
  exact hK' _ _ hK

end Go.Proofs.Ytabeklpllphiaaa
