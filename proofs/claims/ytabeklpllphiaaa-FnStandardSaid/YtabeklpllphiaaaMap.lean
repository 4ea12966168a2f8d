/-
  WORDS FOR MAPS that the call has made, with strings as keys and any values: what stands at each key.
-/
import Derived.Test.YtabeklpllphiaaaMem
import Derived.Maps.Own
import Derived.Maps.OwnOps
import Derived.Maps.Views
namespace Go.Proofs.Ytabeklpllphiaaa
open Go.RowKit Go.ChangeMaps
open Go.Maps (Keyed)

/-- an element is read as itself -/
def exa (v : Value) : Option (DataW Value × List MemPlace) := some (.held v, [])
/-- the map as a function -/
def AtF (D : DataW Value) (f : List UInt8 → Option Value) : Prop :=
  Maps.IsMap D ∧ ∀ k, (∀ v, f k = some v → ∀ z, D.atKey (.string k) z = .held v) ∧ (f k = none → ∀ z, D.atKey (.string k) z = z)
/-- Block b is a map of at most n entries that holds f. -/
def MapF (P : Program) (k : TypeId) (w : World) (b n : Nat) (f : List UInt8 → Option Value) : Prop := ∃ D, w.ownsMap P k exa b n D ∧ AtF D f

theorem AtF.put {D : DataW Value} {f : List UInt8 → Option Value} (h : AtF D f) (k : List UInt8) (v : Value) : AtF (D.put (.string k) (.held v)) (fun x => if x = k then some v else f x) := by
  refine ⟨h.1.put _ _, fun x => ?_⟩
  by_cases hx : x = k
  · subst hx
    simp only [if_pos]
    refine ⟨fun u hu z => ?_, fun hu => by cases hu⟩
    injection hu with hu
    subst hu
    exact Maps.atKey_put_same h.1 (by trivial) _ z
  · simp only [if_neg hx]
    have hne : Lit.string x ≠ Lit.string k := fun e => hx (by injection e)
    exact ⟨fun u hu z => by rw [Maps.atKey_put_other hne]; exact (h.2 x).1 u hu z, fun hu z => by rw [Maps.atKey_put_other hne]; exact (h.2 x).2 hu z⟩

theorem MapF.lt {P : Program} {k : TypeId} {w : World} {b n : Nat} {f : List UInt8 → Option Value} (h : MapF P k w b n f) : b < w.heap.size := let ⟨_, h1, _⟩ := h; h1.lt
theorem MapF.made (P : Program) (k : TypeId) (w : World) : MapF P k (w.alloc (.map #[] 0)) w.heap.size 0 (fun _ => none) :=
  ⟨.map [], World.ownsMap_made w P k exa, Maps.isMap_empty, fun _ => ⟨fun _ h => (by cases h), fun _ _ => rfl⟩⟩
theorem MapF.keep {P : Program} {k : TypeId} {w w' : World} {b n : Nat} {f : List UInt8 → Option Value} (h : MapF P k w b n f) (hk : w'.heap[b]? = w.heap[b]?) : MapF P k w' b n f := by
  obtain ⟨D, ⟨es, clock, hb, h1⟩, h2⟩ := h
  exact ⟨D, ⟨es, clock, hk.trans hb, h1⟩, h2⟩
theorem MapF.below {P : Program} {k : TypeId} {w w' : World} {b n B : Nat} {f : List UInt8 → Option Value} (h : MapF P k w b n f) (hb : Below B w w') (hB : b < B) : MapF P k w' b n f := h.keep (hb.block b hB)
theorem MapF.grown {P : Program} {k : TypeId} {w w' : World} {b n : Nat} {row : Option Nat} {f : List UInt8 → Option Value} (h : MapF P k w b n f) (hg : w.grownBy w' row) (hne : some b ≠ row) : MapF P k w' b n f := h.keep (hg.block b h.lt hne)
theorem MapF.mono {P : Program} {k : TypeId} {w : World} {b n n' : Nat} {f : List UInt8 → Option Value} (h : MapF P k w b n f) (hn : n ≤ n') : MapF P k w b n' f := let ⟨D, h1, h2⟩ := h; ⟨D, h1.mono hn, h2⟩
theorem MapF.congr {P : Program} {k : TypeId} {w : World} {b n : Nat} {f g : List UInt8 → Option Value} (h : MapF P k w b n f) (hfg : ∀ x, f x = g x) : MapF P k w b n g := by rw [← funext hfg]; exact h

/-- 'm[k]' and 'v, ok := m[k]' -/
theorem MapF.look {P : Program} {k t e : TypeId} {w : World} {b n : Nat} {f : List UInt8 → Option Value} (h : MapF P k w b n f) (hk : P.underlying k = some .string) (ht : P.underlying t = some (.map k e)) {z : Value} (hz : (zeroValue e).run P w = .ok z w)
    (s : ByteArray) (hs : s.size ≤ maxLen) (c : Bool) (r : Option Value) (hr : f s.data.toList = r) :
    (Instr.lookup t (.map (some b)) (.string s) c).run P w = .ok (if c then .tuple #[r.getD z, .bool r.isSome] else r.getD z) w := by
  obtain ⟨D, ⟨es, clock, hb, F, _, rfl⟩, _, h2⟩ := h
  have h3 := h2 s.data.toList
  rcases Maps.fit_look c (Maps.string_keyed hk) ht hz hb F (WideMaps.keyOf_string_mk hk hs) with ⟨hrun, _, hat⟩ | ⟨e0, y, _, _, hrun, hRv, hat, _⟩
  · cases hf : f s.data.toList with
    | some v =>
      have := h3.1 v hf .nil
      rw [hat] at this
      cases this
    | none => rw [hf] at hr; subst hr; exact hrun
  · injection hRv with hRv
    cases hf : f s.data.toList with
    | none =>
      have := h3.2 hf .nil
      rw [hat, ← hRv] at this
      cases this
    | some v =>
      have := h3.1 v hf .nil
      rw [hat, ← hRv] at this
      injection this with this
      rw [hf] at hr
      subst hr
      rw [← this]
      exact hrun

/-- 'm[k] = v' -/
theorem MapF.put {P : Program} {k t e : TypeId} {w : World} {b n : Nat} {f : List UInt8 → Option Value} (h : MapF P k w b n f) (hk : P.underlying k = some .string) (ht : P.underlying t = some (.map k e)) (hn : n < maxLen) (s : ByteArray) (hs : s.size ≤ maxLen) (v : Value) :
    ∃ w', (Instr.mapUpdate t (.map (some b)) (.string s) v).run P w = .ok () w' ∧ MapF P k w' b (n + 1) (fun x => if x = s.data.toList then some v else f x) ∧ w.grownBy w' (some b) := by
  obtain ⟨D, h1, h2⟩ := h
  obtain ⟨w', hrun, hown, hg⟩ := h1.update (Maps.string_keyed hk) ht hn (WideMaps.keyOf_string_mk hk hs) (val := v) (d := .held v) (ps := []) rfl
  exact ⟨w', hrun, ⟨_, hown, h2.put _ v⟩, hg⟩

/-- .. at the operation, for the walk -/
theorem wpList_put {P : Program} (w : World) {ops : Array Oper} {rest : List Oper} {o : Oper} {a : Act} {Q : Exit → Act → World → Prop}
    (hg : o.guard = none) (m x v : Operand) (t : TypeId) (hop : o.op = Op.mapUpdate t m x v) (k e : TypeId) (hk : P.underlying k = some .string) (ht : P.underlying t = some (.map k e)) (b n : Nat) (f : List UInt8 → Option Value)
    (hm : a.eval m = .map (some b)) (hown : MapF P k w b n f) (hn : n < maxLen) (s : ByteArray) (hs : s.size ≤ maxLen) (val : Value) (hx : a.eval x = .string s) (hv : a.eval v = val)
    (hK : ∀ w', MapF P k w' b (n + 1) (fun x => if x = s.data.toList then some val else f x) → w.grownBy w' (some b) → wpList P ops Q rest (a.put o.dst undef) w') :
    wpList P ops Q (o :: rest) a w := by
  refine wpList_plain hg fun K' hK' => ?_
  obtain ⟨w', hrun, r1, r2⟩ := hown.put hk ht hn s hs val
  unfold Oper.wp
  simp [execOp, hop, hm, hx, hv, hrun, Result.andThen]
  exact hK' _ _ (hK w' r1 r2)

/-- 'm[k]', 'v, ok := m[k]' at the operation, for the walk -/
theorem wpList_look {P : Program} (w : World) {ops : Array Oper} {rest : List Oper} {o : Oper} {a : Act} {Q : Exit → Act → World → Prop}
    (hg : o.guard = none) (m x : Operand) (t : TypeId) (c : Bool) (hop : o.op = Op.lookup t m x c) (k e : TypeId) (hk : P.underlying k = some .string) (ht : P.underlying t = some (.map k e)) (b n : Nat) (f : List UInt8 → Option Value) (z : Value) (hz : (zeroValue e).run P w = .ok z w)
    (hm : a.eval m = .map (some b)) (hown : MapF P k w b n f) (s : ByteArray) (hs : s.size ≤ maxLen) (hx : a.eval x = .string s) (r : Option Value) (hr : f s.data.toList = r)
    (hK : wpList P ops Q rest (a.put o.dst (if c then .tuple #[r.getD z, .bool r.isSome] else r.getD z)) w) :
    wpList P ops Q (o :: rest) a w := by
  refine wpList_plain hg fun K' hK' => ?_
  have hrun := hown.look hk ht hz s hs c r hr
  unfold Oper.wp
  simp [execOp, hop, hm, hx, hrun, Result.andThen]
  exact hK' _ _ hK

end Go.Proofs.Ytabeklpllphiaaa
