/-
  WORDS FOR MEMORY: rows of structs; what an append to a row of one type keeps of all others.
-/
import Derived.Test.YtabeklpllphiaaaTrim
import Derived.Maps.AppendAt
namespace Go.Proofs.Ytabeklpllphiaaa
open Go.RowKit

theorem wp_name {P : Program} {c : Code} {Q : Exit → Act → World → Prop} {a : Act} {w0 : World} (h : ∀ W, W = w0 → Code.wp P c Q a W) : Code.wp P c Q a w0 := h w0 rfl

/-- every block of cells of another type than T is as it was -/
def KeepT (T : TypeId) (w w' : World) : Prop := ∀ (g : Nat) cur ty fz, w.heap[g]? = some (.cells cur ty fz) → ty ≠ T → w'.heap[g]? = some (.cells cur ty fz)
theorem KeepT.refl (T : TypeId) (w : World) : KeepT T w w := fun _ _ _ _ h _ => h
theorem KeepT.trans {T : TypeId} {a b c : World} (h : KeepT T a b) (k : KeepT T b c) : KeepT T a c := fun g cur ty fz e hne => k g cur ty fz (h g cur ty fz e hne) hne
theorem KeepT.of {T : TypeId} {w w' : World} (h : Below w.heap.size w w') : KeepT T w w' := fun g _ _ _ e _ => (h.block g (Array.getElem?_eq_some_iff.1 e).1).trans e
theorem KeepT.alloc {T : TypeId} (w : World) (o : Obj) : KeepT T w (w.alloc o) := KeepT.of ((Below.refl _ _).alloc (Nat.le_refl _) o)
theorem row_type {w : World} {B : Nat} {e : TypeId} {s : Nat} {v : Value} {n : Nat} {xs : List Value} (h : w.ownsRow B e s v n xs) : v.ownBlock = none ∨ ∃ g cur, v.ownBlock = some g ∧ B ≤ g ∧ w.heap[g]? = some (.cells cur e (0, 0)) := by
  rcases h.2 with ⟨rfl, _⟩ | ⟨g, cap, cur, rfl, hb, hg, _⟩
  · exact .inl rfl
  · exact .inr ⟨g, cur, rfl, hb, hg⟩
theorem KeepT.grown {T : TypeId} {w w' : World} {B s n : Nat} {v : Value} {xs : List Value} (h : w.ownsRow B T s v n xs) (hg : w.grownBy w' v.ownBlock) : KeepT T w w' := fun g cur ty fz e hne => by
  refine (hg.block g (Array.getElem?_eq_some_iff.1 e).1 ?_).trans e
  rcases row_type h with hn | ⟨g', cur', hn, _, hh⟩
  · rw [hn]; simp
  · rw [hn]
    intro e2
    injection e2 with e2
    subst e2
    rw [hh] at e
    injection e with e
    injection e with _ e _
    exact hne e.symm
theorem KeepT.set {T : TypeId} {w : World} {g : Nat} {arr : Array Value} (h : Blk w g arr T) (k : Nat) (v : Value) : KeepT T w (w.setCell ⟨g, k, none⟩ v) := fun g' cur ty fz e hne => by
  have : g ≠ g' := by
    intro e2
    subst e2
    unfold Blk at h
    rw [h] at e
    injection e with e
    injection e with _ e _
    exact hne e.symm
  exact (setCell_far w g k g' v this).trans e
theorem KeepT.map {T : TypeId} {w w' : World} {b n : Nat} {f : List UInt8 → Option Value} (hm : MapF Try.prog 9 w b n f) (hg : w.grownBy w' (some b)) : KeepT T w w' := fun g cur ty fz e _ =>
  (hg.block g (Array.getElem?_eq_some_iff.1 e).1 (by intro e2; injection e2 with e2; exact hm.ne_row e e2)).trans e
theorem Row.keepT {T : TypeId} {w w' : World} {B : Nat} {e : TypeId} {s : Nat} {v : Value} {n : Nat} {xs : List Value} (h : w.ownsRow B e s v n xs) (hk : KeepT T w w') (hne : e ≠ T) : w'.ownsRow B e s v n xs :=
  ⟨h.1, h.2.imp id (fun ⟨g, cap, cur, h1, h2, h3, h4⟩ => ⟨g, cap, cur, h1, h2, hk g cur e (0, 0) h3 hne, h4⟩)⟩
theorem Blk.keepT {T : TypeId} {w w' : World} {g : Nat} {arr : Array Value} {ty : TypeId} (h : Blk w g arr ty) (hk : KeepT T w w') (hne : ty ≠ T) : Blk w' g arr ty := hk g arr ty (0, 0) h hne
theorem Row.mono {w : World} {B B' : Nat} {e : TypeId} {s : Nat} {v : Value} {n : Nat} {xs : List Value} (h : w.ownsRow B e s v n xs) (hb : B' ≤ B) : w.ownsRow B' e s v n xs :=
  ⟨h.1, h.2.imp id (fun ⟨g, cap, cur, h1, h2, h3⟩ => ⟨g, cap, cur, h1, Nat.le_trans hb h2, h3⟩)⟩
theorem Row.below {w w' : World} {B : Nat} {e : TypeId} {s : Nat} {v : Value} {n : Nat} {xs : List Value} (h : w.ownsRow B e s v n xs) (hb : Below w.heap.size w w') : w'.ownsRow B e s v n xs :=
  ⟨h.1, h.2.imp id (fun ⟨g, cap, cur, h1, h2, h3, h4⟩ => ⟨g, cap, cur, h1, h2, (hb.block g (Array.getElem?_eq_some_iff.1 h3).1).trans h3, h4⟩)⟩

/-- 'append(s, x)' of one struct -/
theorem app_row {ops : Array Oper} {rest : List Oper} {o : Oper} {a : Act} {Q : Exit → Act → World → Prop} {wr : World} {v : Value} {n : Nat} {xs : List Value} (ts t : TypeId) (z : Value) (size bytes : Nat)
    (hu : Try.prog.underlying ts = some (.slice t)) (hinfo : (Try.prog.info? t).map (fun i => (i.zero, i.size, i.bytes)) = some (some z, size, bytes)) (hz : z.cells.size = size) (hsz : 0 < size) (hby : bytes ≤ 100)
    (cs : Array Value) (hcs : cs.size = size) (h1 : ∀ u ∈ cs.toList, u.oneCell' = true)
    (hgd : o.guard = none) (s y : Operand) (ho : o.op = .call { callee := .builtin .append, args := #[s, y], argTypes := #[ts, ts] })
    (hs : a.eval s = v) (B : Nat) (hown : wr.ownsRow B t size v n xs) (hy : a.eval y = .slice (some ⟨wr.heap.size, 0, none⟩) 1 1) (hlen : n < 1000000) (hB : B ≤ wr.heap.size)
    (h : ∀ v' w', w'.ownsRow B t size v' (n + 1) (xs ++ cs.toList) → (wr.alloc (.cells cs t)).grownBy w' v.ownBlock → (v'.ownBlock = v.ownBlock ∨ v'.ownBlock = some (wr.heap.size + 1)) → wpList Try.prog ops Q rest (a.put o.dst v') w') : wpList Try.prog ops Q (o :: rest) a (wr.alloc (.cells cs t)) := by
  obtain ⟨i0, hi, hz0, hz1, hz2⟩ := info_parts hinfo
  refine wpList_append_own_at (w := (wr.alloc (.cells cs t))) hgd s y ts ho B t i0 z size bytes hu hi hz0 hz1 hz2 hz hsz v n xs hs (World.ownsRow.alloc hown _) ⟨wr.heap.size, 0, none⟩ 1 1 cs.toList hy (by simp [hcs]) ?_ h1 ?_ ?_ ?_ ?_
  · intro j u hj
    rw [Addr.add_lit]
    have hb : (wr.alloc (.cells cs t)).heap[wr.heap.size]? = some (.cells cs t (0, 0)) := by show (wr.heap.push _)[wr.heap.size]? = _; simp
    simp only [World.cell?, Nat.zero_add]
    rw [hb]
    simpa using hj
  · unfold maxLen; omega
  · have : (n + 1) * bytes ≤ 1000000 * 100 := Nat.mul_le_mul (by omega) hby
    omega
  · simp; omega
  · intro v' w' h1 h2 _ h4
    exact h v' w' h1 h2 (by simpa using h4)

theorem step_row {ops : Array Oper} {o : Oper} {a : Act} {w : World} {K : Act → World → Prop} {Q : Exit → Act → World → Prop} {E : Prop} {v : Value} {n : Nat} {xs : List Value} (ts t : TypeId) (z : Value) (size bytes : Nat)
    (hu : Try.prog.underlying ts = some (.slice t)) (hinfo : (Try.prog.info? t).map (fun i => (i.zero, i.size, i.bytes)) = some (some z, size, bytes)) (hz : z.cells.size = size) (hsz : 0 < size) (hby : bytes ≤ 100)
    (cs : Array Value) (hcs : cs.size = size) (h1 : ∀ u ∈ cs.toList, u.oneCell' = true)
    (hgd : o.guard = none) (s y : Operand) (ho : o.op = .call { callee := .builtin .append, args := #[s, y], argTypes := #[ts, ts] })
    (hs : a.eval s = v) (B : Nat) (hown : w.ownsRow B t size v n xs) (gn : Nat) (hy : a.eval y = .slice (some ⟨gn, 0, none⟩) 1 1) (hc : Blk w gn cs t) (hlen : n < 1000000) (hB : B ≤ w.heap.size)
    (hK : ∀ v' w', w'.ownsRow B t size v' (n + 1) (xs ++ cs.toList) → w.grownBy w' v.ownBlock → (v'.ownBlock = v.ownBlock ∨ v'.ownBlock = some w.heap.size) → K (a.put o.dst v') w') :
    if Region.wanted o (yielded ops a.tmps) = true then Oper.wp Try.prog o a w K Q else E := by
  have hw : Region.wanted o (yielded ops a.tmps) = true := by simp [Region.wanted, hgd]
  rw [if_pos hw]
  obtain ⟨i0, hi, hz0, hz1, hz2⟩ := info_parts hinfo
  have hbb : (n + 1) * bytes ≤ 1000000 * 100 := Nat.mul_le_mul (by omega) hby
  obtain ⟨v', w', hr, h2, h3, _, h5⟩ := run_append_own_at (P := Try.prog) w B ts o.type t i0 z size bytes hu hi hz0 hz1 hz2 hz hsz v n xs hown ⟨gn, 0, none⟩ 1 1 cs.toList (by simp [hcs]) (fun j u hj => by
    rw [Addr.add_lit, Nat.zero_add, hc.cell j]
    simpa using hj) h1 (by unfold maxLen; omega) (by omega) hB
  unfold Oper.wp execOp
  simp only [ho, resolve, invoke, builtin, Sem.run_bind, Sem.run_pure, Result.andThen_ok, List.map_toArray, List.map_cons, List.map_nil, hs, hy, hr]
  exact hK _ _ h2 h3 h5

/-- a criterion: negated, status, action -/
abbrev Crit := Bool × List UInt8 × List UInt8
/-- a source: name, criteria -/
abbrev Src := List UInt8 × List Crit
def critCells (c : Crit) : List Value := [.bool c.1, pl.strV c.2.1, pl.strV c.2.2]
def Crs (w : World) (B : Nat) (t : TypeId) (v : Value) (l : List Crit) : Prop := w.ownsRow B t 3 v l.length (l.flatMap critCells)
theorem Crs.nil (w : World) (B : Nat) (t : TypeId) : Crs w B t (.slice none 0 0) [] := World.ownsRow_nil _ _ _ _
theorem Crs.keepT {T : TypeId} {w w' : World} {B : Nat} {t : TypeId} {v : Value} {l : List Crit} (h : Crs w B t v l) (hk : KeepT T w w') (hne : t ≠ T) : Crs w' B t v l := Row.keepT h hk hne
theorem Crs.below {w w' : World} {B : Nat} {t : TypeId} {v : Value} {l : List Crit} (h : Crs w B t v l) (hb : Below w.heap.size w w') : Crs w' B t v l := Row.below h hb
theorem Crs.mono {w : World} {B B' : Nat} {t : TypeId} {v : Value} {l : List Crit} (h : Crs w B t v l) (hb : B' ≤ B) : Crs w B' t v l := Row.mono h hb
theorem pl.flat_at {α : Type} (f : α → List Value) (m : Nat) (hf : ∀ x, (f x).length = m) (l : List α) (k i : Nat) (x : α) (hk : l[k]? = some x) (hi : i < m) : (l.flatMap f)[k * m + i]? = (f x)[i]? := by
  induction l generalizing k with
  | nil => simp at hk
  | cons y l ih =>
    rw [List.flatMap_cons]
    match k, hk with
    | 0, hk =>
      simp at hk
      subst hk
      rw [Nat.zero_mul, Nat.zero_add, List.getElem?_append_left (by rw [hf]; exact hi)]
    | k + 1, hk =>
      have e : (k + 1) * m + i = m + (k * m + i) := by rw [Nat.add_mul, Nat.one_mul]; omega
      rw [e, List.getElem?_append_right (by rw [hf]; omega), hf, Nat.add_sub_cancel_left]
      exact ih k (by simpa using hk)
theorem Row.form {w : World} {B : Nat} {e : TypeId} {s : Nat} {v : Value} {n : Nat} {xs : List Value} (h : w.ownsRow B e s v n xs) : ∃ a cap, v = .slice a n cap ∧ (∀ g o z, a = some ⟨g, o, z⟩ → o = 0 ∧ z = none ∧ B ≤ g ∧ g < w.heap.size) ∧ (a = none → n = 0 ∧ cap = 0) := by
  rcases h.2 with ⟨rfl, hn⟩ | ⟨g, cap, cur, rfl, hb, hg, _⟩
  · exact ⟨none, 0, by rw [hn], fun _ _ _ e => (by cases e), fun _ => ⟨hn, rfl⟩⟩
  · refine ⟨_, cap, rfl, fun g' o z e => ?_, fun e => (by cases e)⟩
    injection e with e
    injection e with e1 e2 e3
    subst e1
    exact ⟨e2.symm, e3.symm, hb, (Array.getElem?_eq_some_iff.1 hg).1⟩
theorem Row.shape {w : World} {B : Nat} {e : TypeId} {s : Nat} {v : Value} {n : Nat} {xs : List Value} (h : w.ownsRow B e s v n xs) : ∃ a cap, v = .slice a n cap := let ⟨a, cap, e, _⟩ := Row.form h; ⟨a, cap, e⟩
theorem Row.cell {w : World} {B : Nat} {e : TypeId} {s : Nat} {v : Value} {n : Nat} {xs : List Value} (h : w.ownsRow B e s v n xs) (hn : 0 < n) : ∃ g cap, v = .slice (some ⟨g, 0, none⟩) n cap ∧ B ≤ g ∧ g < w.heap.size ∧ ∀ j u, xs[j]? = some u → w.cell? ⟨g, j, none⟩ = some u := by
  rcases h.2 with ⟨_, h0⟩ | ⟨g, cap, cur, rfl, hb, hg, _⟩
  · omega
  · refine ⟨g, cap, rfl, hb, (Array.getElem?_eq_some_iff.1 hg).1, fun j u hj => ?_⟩
    have := h.cells (g := g) rfl j u hj
    rwa [Addr.add_lit, Nat.zero_add] at this
theorem Crs.at {w : World} {B : Nat} {t : TypeId} {v : Value} {l : List Crit} (h : Crs w B t v l) (k : Nat) (c : Crit) (hk : l[k]? = some c) : ∃ g cap, v = .slice (some ⟨g, 0, none⟩) l.length cap ∧ B ≤ g ∧ g < w.heap.size ∧ w.cell? ⟨g, k * 3, none⟩ = some (.bool c.1) ∧ w.cell? ⟨g, k * 3 + 1, none⟩ = some (pl.strV c.2.1) ∧ w.cell? ⟨g, k * 3 + 2, none⟩ = some (pl.strV c.2.2) := by
  have hlt := (List.getElem?_eq_some_iff.1 hk).1
  obtain ⟨g, cap, hv, hb, hg, hc⟩ := Row.cell h (by omega)
  have hx := fun i (hi : i < 3) => pl.flat_at critCells 3 (fun _ => rfl) l k i c hk hi
  exact ⟨g, cap, hv, hb, hg, hc _ _ (hx 0 (by omega)), hc _ _ (hx 1 (by omega)), hc _ _ (hx 2 (by omega))⟩

end Go.Proofs.Ytabeklpllphiaaa
