/-
  WORDS for FnSearchLast: what an append keeps of blocks of other types; appends of whole slices of strings and of options, as steps of a region.
-/
import Derived.Test.YtfkohahlpfejbaaDoorRv9
import Derived.Laws.AppendOwnNone
namespace Go.Proofs.YtfkohahlpfejbaaDoor
open Go.RowKit

/-- every block of cells of another type than T is as it was -/
def KeepT (T : TypeId) (w w' : World) : Prop := ∀ (g : Nat) cur ty fz, w.heap[g]? = some (.cells cur ty fz) → ty ≠ T → w'.heap[g]? = some (.cells cur ty fz)
theorem KeepT.refl (T : TypeId) (w : World) : KeepT T w w := fun _ _ _ _ h _ => h
theorem KeepT.trans {T : TypeId} {a b c : World} (h : KeepT T a b) (k : KeepT T b c) : KeepT T a c := fun g cur ty fz e hne => k g cur ty fz (h g cur ty fz e hne) hne
theorem KeepT.of {T : TypeId} {w w' : World} (h : Below w.heap.size w w') : KeepT T w w' := fun g _ _ _ e _ => (h.block g (Array.getElem?_eq_some_iff.1 e).1).trans e
theorem KeepT.alloc {T : TypeId} (w : World) (o : Obj) : KeepT T w (w.alloc o) := KeepT.of ((Below.refl _ _).alloc (Nat.le_refl _) o)
theorem row_type {w : World} {B : Nat} {e : TypeId} {s : Nat} {v : Value} {n : Nat} {xs : List Value} (h : w.ownsRow B e s v n xs) : v.ownBlock = none ∨ ∃ g cur, v.ownBlock = some g ∧ B ≤ g ∧ w.heap[g]? = some (.cells cur e (0, 0)) := by
  rcases h.2 with ⟨rfl, _⟩ | ⟨g, cap, cur, rfl, hb, hg, _⟩
  · exact .inl rfl
  · exact .inr ⟨g, cur, rfl, hb, hg⟩
theorem KeepT.grown {T : TypeId} {w w' : World} {B s n : Nat} {v : Value} {xs : List Value} (h : w.ownsRow B T s v n xs) (hg : w.grownBy w' v.ownBlock) : KeepT T w w' := fun g cur ty fz e hne => by
  refine (hg.block g (Array.getElem?_eq_some_iff.1 e).1 ?_).trans e
  rcases row_type h with hn | ⟨g', cur', hn, _, hh⟩
  · rw [hn]; simp
  · rw [hn]
    intro e2
    injection e2 with e2
    subst e2
    rw [hh] at e
    injection e with e
    injection e with _ e _
    exact hne e.symm
theorem KeepT.set {T : TypeId} {w : World} {g : Nat} {arr : Array Value} (h : Blk w g arr T) (k : Nat) (v : Value) : KeepT T w (w.setCell ⟨g, k, none⟩ v) := fun g' cur ty fz e hne => by
  have : g ≠ g' := by
    intro e2
    subst e2
    unfold Blk at h
    rw [h] at e
    injection e with e
    injection e with _ e _
    exact hne e.symm
  exact (setCell_far w g k g' v this).trans e
theorem Row.keepT {T : TypeId} {w w' : World} {B : Nat} {e : TypeId} {s : Nat} {v : Value} {n : Nat} {xs : List Value} (h : w.ownsRow B e s v n xs) (hk : KeepT T w w') (hne : e ≠ T) : w'.ownsRow B e s v n xs :=
  ⟨h.1, h.2.imp id (fun ⟨g, cap, cur, h1, h2, h3, h4⟩ => ⟨g, cap, cur, h1, h2, hk g cur e (0, 0) h3 hne, h4⟩)⟩
theorem Blk.keepT {T : TypeId} {w w' : World} {g : Nat} {arr : Array Value} {ty : TypeId} (h : Blk w g arr ty) (hk : KeepT T w w') (hne : ty ≠ T) : Blk w' g arr ty := hk g arr ty (0, 0) h hne
theorem Row.mono {w : World} {B B' : Nat} {e : TypeId} {s : Nat} {v : Value} {n : Nat} {xs : List Value} (h : w.ownsRow B e s v n xs) (hb : B' ≤ B) : w.ownsRow B' e s v n xs :=
  ⟨h.1, h.2.imp id (fun ⟨g, cap, cur, h1, h2, h3⟩ => ⟨g, cap, cur, h1, Nat.le_trans hb h2, h3⟩)⟩
theorem Row.below {w w' : World} {B : Nat} {e : TypeId} {s : Nat} {v : Value} {n : Nat} {xs : List Value} (h : w.ownsRow B e s v n xs) (hb : Below w.heap.size w w') : w'.ownsRow B e s v n xs :=
  ⟨h.1, h.2.imp id (fun ⟨g, cap, cur, h1, h2, h3, h4⟩ => ⟨g, cap, cur, h1, h2, (hb.block g (Array.getElem?_eq_some_iff.1 h3).1).trans h3, h4⟩)⟩

theorem Row.form {w : World} {B : Nat} {e : TypeId} {s : Nat} {v : Value} {n : Nat} {xs : List Value} (h : w.ownsRow B e s v n xs) : ∃ a cap, v = .slice a n cap ∧ (∀ g o z, a = some ⟨g, o, z⟩ → o = 0 ∧ z = none ∧ B ≤ g ∧ g < w.heap.size) ∧ (a = none → n = 0 ∧ cap = 0) := by
  rcases h.2 with ⟨rfl, hn⟩ | ⟨g, cap, cur, rfl, hb, hg, _⟩
  · exact ⟨none, 0, by rw [hn], fun _ _ _ e => (by cases e), fun _ => ⟨hn, rfl⟩⟩
  · refine ⟨_, cap, rfl, fun g' o z e => ?_, fun e => (by cases e)⟩
    injection e with e
    injection e with e1 e2 e3
    subst e1
    exact ⟨e2.symm, e3.symm, hb, (Array.getElem?_eq_some_iff.1 hg).1⟩
theorem Row.shape {w : World} {B : Nat} {e : TypeId} {s : Nat} {v : Value} {n : Nat} {xs : List Value} (h : w.ownsRow B e s v n xs) : ∃ a cap, v = .slice a n cap := let ⟨a, cap, e, _⟩ := Row.form h; ⟨a, cap, e⟩
theorem Row.cell {w : World} {B : Nat} {e : TypeId} {s : Nat} {v : Value} {n : Nat} {xs : List Value} (h : w.ownsRow B e s v n xs) (hn : 0 < n) : ∃ g cap, v = .slice (some ⟨g, 0, none⟩) n cap ∧ B ≤ g ∧ g < w.heap.size ∧ ∀ j u, xs[j]? = some u → w.cell? ⟨g, j, none⟩ = some u := by
  rcases h.2 with ⟨_, h0⟩ | ⟨g, cap, cur, rfl, hb, hg, _⟩
  · omega
  · refine ⟨g, cap, rfl, hb, (Array.getElem?_eq_some_iff.1 hg).1, fun j u hj => ?_⟩
    have := h.cells (g := g) rfl j u hj
    rwa [Addr.add_lit, Nat.zero_add] at this

theorem pl.flat_at {α : Type} (f : α → List Value) (m : Nat) (hf : ∀ x, (f x).length = m) (l : List α) (k i : Nat) (x : α) (hk : l[k]? = some x) (hi : i < m) : (l.flatMap f)[k * m + i]? = (f x)[i]? := by
  induction l generalizing k with
  | nil => simp at hk
  | cons y l ih =>
    rw [List.flatMap_cons]
    match k, hk with
    | 0, hk =>
      simp at hk
      subst hk
      rw [Nat.zero_mul, Nat.zero_add, List.getElem?_append_left (by rw [hf]; exact hi)]
    | k + 1, hk =>
      have e : (k + 1) * m + i = m + (k * m + i) := by rw [Nat.add_mul, Nat.one_mul]; omega
      rw [e, List.getElem?_append_right (by rw [hf]; omega), hf, Nat.add_sub_cancel_left]
      exact ih k (by simpa using hk)
theorem run_strs {w : World} {v yv : Value} {l m : List (List UInt8)} (ty : TypeId) (B : Nat) (hown : Strs w B v l) (hr : RdS w yv m) (hlen : l.length + m.length ≤ 1000000) (hB : B ≤ w.heap.size) :
    ∃ v' w', (Builtin.append_ #[31, 31] ty #[v, yv]).run Tryd.prog w = .ok v' w' ∧ Strs w' B v' (l ++ m) ∧ w.grownBy w' v.ownBlock := by
  obtain ⟨i0, hi, hz0, hz1, hz2⟩ := info_parts infoStr
  obtain ⟨ao, cap, rfl, h1, h0, h3⟩ := hr
  rcases ao with _ | x
  · have hc0 : cap = 0 := h0 rfl
    have hm : m = [] := List.eq_nil_of_length_eq_zero (by omega)
    subst hm
    subst hc0
    exact ⟨v, w, run_append_owned_none (P := Tryd.prog) (w := w) B 31 ty 9 i0 1 Tryd.underlying31 hi v l.length (l.map pl.strV) hown, by rw [List.append_nil]; exact hown, ⟨rfl, rfl, rfl, Nat.le_refl _, fun _ _ _ => rfl⟩⟩
  · obtain ⟨v', w', hr, h4, h5, _⟩ := run_append_own (P := Tryd.prog) w B 31 ty 9 i0 (.string ⟨#[]⟩) 1 16 Tryd.underlying31 hi hz0 hz1 hz2 rfl (by decide) v l.length (l.map pl.strV) hown x m.length cap (m.map pl.strV) (by simp) (by
      intro j u hj
      rw [List.getElem?_map, Option.map_eq_some_iff] at hj
      obtain ⟨b, hb', rfl⟩ := hj
      obtain ⟨g, off, ha, _, hc⟩ := h3 j b hb'
      rw [Option.some.inj ha, Addr.add_lit]
      exact hc) (by
      intro u hu
      obtain ⟨b, _, rfl⟩ := List.mem_map.1 hu
      rfl) (by unfold maxLen; omega) (by omega) hB
    refine ⟨v', w', hr, ?_, h5⟩
    unfold Strs
    rw [List.length_append, List.map_append]
    exact h4

theorem step_strs {ops : Array Oper} {o : Oper} {a : Act} {w : World} {K : Act → World → Prop} {Q : Exit → Act → World → Prop} {E : Prop} {v yv : Value} {l m : List (List UInt8)}
    (hgd : o.guard = none) (s y : Operand) (ho : o.op = .call { callee := .builtin .append, args := #[s, y], argTypes := #[31, 31] })
    (hs : a.eval s = v) (B : Nat) (hown : Strs w B v l) (hy : a.eval y = yv) (hr : RdS w yv m) (hlen : l.length + m.length ≤ 1000000) (hB : B ≤ w.heap.size)
    (hK : ∀ v' w', Strs w' B v' (l ++ m) → w.grownBy w' v.ownBlock → K (a.put o.dst v') w') :
    if Region.wanted o (yielded ops a.tmps) = true then Oper.wp Tryd.prog o a w K Q else E := by
  have hw : Region.wanted o (yielded ops a.tmps) = true := by simp [Region.wanted, hgd]
  rw [if_pos hw]
  obtain ⟨v', w', hr, h2, h3⟩ := run_strs o.type B hown hr hlen hB
  unfold Oper.wp execOp
  simp only [ho, resolve, invoke, builtin, Sem.run_bind, Sem.run_pure, Result.andThen_ok, List.map_toArray, List.map_cons, List.map_nil, hs, hy, hr]
  exact hK _ _ h2 h3

theorem infoOpt : (Tryd.prog.info? 93).map (fun i => (i.zero, i.size, i.bytes)) = some (some (.agg #[.int .i64 0, .int .i64 0]), 2, 16) := by kernel_rfl
def optCells (o : Opt) : List Value := [.int .i64 o.1, .int .i64 o.2]
def Opts (w : World) (B : Nat) (v : Value) (l : List Opt) : Prop := w.ownsRow B 93 2 v l.length (l.flatMap optCells)
theorem Opts.nil (w : World) (B : Nat) : Opts w B (.slice none 0 0) [] := World.ownsRow_nil _ _ _ _
theorem pl.opt_cell : ∀ (l : List Opt) (j : Nat) (u : Value), (l.flatMap optCells)[j]? = some u → ∃ k o, l[k]? = some o ∧ ((j = k * 2 ∧ u = .int .i64 o.1) ∨ (j = k * 2 + 1 ∧ u = .int .i64 o.2))
  | [], j, u, h => by simp at h
  | x :: l, j, u, h => by
    rw [List.flatMap_cons] at h
    match j, h with
    | 0, h => exact ⟨0, x, rfl, .inl ⟨rfl, by simpa [optCells] using h.symm⟩⟩
    | 1, h => exact ⟨0, x, rfl, .inr ⟨rfl, by simpa [optCells] using h.symm⟩⟩
    | j + 2, h =>
      obtain ⟨k, o, h1, h2⟩ := pl.opt_cell l j u (by simpa [optCells] using h)
      exact ⟨k + 1, o, by simpa using h1, h2.imp (fun h => ⟨by omega, h.2⟩) (fun h => ⟨by omega, h.2⟩)⟩
theorem RdO.of_opts {w : World} {B : Nat} {v : Value} {l : List Opt} (h : Opts w B v l) (hl : ∀ o ∈ l, o.2 < 9223372036854775808) : RdO w v l := by
  have h0 := h
  rcases h.2 with ⟨rfl, hn⟩ | ⟨g, cap, cur, rfl, hb, hg, hnc, _⟩
  · exact ⟨none, 0, by rw [hn], by omega, fun _ => rfl, fun k o hk => by have := (List.getElem?_eq_some_iff.1 hk).1; omega⟩
  · refine ⟨_, cap, rfl, hnc, fun e => (by cases e), fun k o hk => ?_⟩
    obtain ⟨g', cap', e, _, hg', hc⟩ := Row.cell h0 (by have := (List.getElem?_eq_some_iff.1 hk).1; omega)
    injection e with e _ _
    injection e with e
    injection e with e
    subst e
    have hf := fun i (hi : i < 2) => pl.flat_at optCells 2 (fun _ => rfl) l k i o hk hi
    refine ⟨g, 0, rfl, hg', ?_, ?_, hl o (List.mem_of_getElem? hk)⟩
    · rw [Nat.zero_add]; exact hc _ _ (hf 0 (by omega))
    · rw [Nat.zero_add]; exact hc _ _ (hf 1 (by omega))

theorem run_opts {w : World} {v yv : Value} {l m : List Opt} (ty : TypeId) (B : Nat) (hown : Opts w B v l) (hr : RdO w yv m) (hlen : l.length + m.length ≤ 1000000) (hB : B ≤ w.heap.size) :
    ∃ v' w', (Builtin.append_ #[43, 43] ty #[v, yv]).run Tryd.prog w = .ok v' w' ∧ Opts w' B v' (l ++ m) ∧ w.grownBy w' v.ownBlock := by
  obtain ⟨i0, hi, hz0, hz1, hz2⟩ := info_parts infoOpt
  obtain ⟨ao, cap, rfl, h1, h0, h3⟩ := hr
  rcases ao with _ | x
  · have hc0 : cap = 0 := h0 rfl
    have hm : m = [] := List.eq_nil_of_length_eq_zero (by omega)
    subst hm
    subst hc0
    exact ⟨v, w, run_append_owned_none (P := Tryd.prog) (w := w) B 43 ty 93 i0 2 Tryd.underlying43 hi v l.length (l.flatMap optCells) hown, by rw [List.append_nil]; exact hown, ⟨rfl, rfl, rfl, Nat.le_refl _, fun _ _ _ => rfl⟩⟩
  · have hlf : (m.flatMap optCells).length = m.length * 2 := by
      clear h1 h0 h3 hlen
      induction m with
      | nil => rfl
      | cons a m ih => rw [List.flatMap_cons, List.length_append, ih, List.length_cons]; show 2 + _ = _; omega
    obtain ⟨v', w', hr, h4, h5, _⟩ := run_append_own (P := Tryd.prog) w B 43 ty 93 i0 (.agg #[.int .i64 0, .int .i64 0]) 2 16 Tryd.underlying43 hi hz0 hz1 hz2 rfl (by decide) v l.length (l.flatMap optCells) hown x m.length cap (m.flatMap optCells) hlf (by
      intro j u hj
      obtain ⟨k, o, hk, hh⟩ := pl.opt_cell m j u hj
      obtain ⟨g, off, ha, _, hc, hd, _⟩ := h3 k o hk
      rw [Option.some.inj ha, Addr.add_lit]
      rcases hh with ⟨rfl, rfl⟩ | ⟨rfl, rfl⟩
      · exact hc
      · rw [← Nat.add_assoc]; exact hd) (by
      intro u hu
      obtain ⟨b, _, hb⟩ := List.mem_flatMap.1 hu
      simp [optCells] at hb
      rcases hb with rfl | rfl <;> rfl) (by unfold maxLen; omega) (by omega) hB
    refine ⟨v', w', hr, ?_, h5⟩
    unfold Opts
    rw [List.length_append, List.flatMap_append]
    exact h4
theorem step_opts {ops : Array Oper} {o : Oper} {a : Act} {w : World} {K : Act → World → Prop} {Q : Exit → Act → World → Prop} {E : Prop} {v yv : Value} {l m : List Opt}
    (hgd : o.guard = none) (s y : Operand) (ho : o.op = .call { callee := .builtin .append, args := #[s, y], argTypes := #[43, 43] })
    (hs : a.eval s = v) (B : Nat) (hown : Opts w B v l) (hy : a.eval y = yv) (hr : RdO w yv m) (hlen : l.length + m.length ≤ 1000000) (hB : B ≤ w.heap.size)
    (hK : ∀ v' w', Opts w' B v' (l ++ m) → w.grownBy w' v.ownBlock → K (a.put o.dst v') w') :
    if Region.wanted o (yielded ops a.tmps) = true then Oper.wp Tryd.prog o a w K Q else E := by
  have hw : Region.wanted o (yielded ops a.tmps) = true := by simp [Region.wanted, hgd]
  rw [if_pos hw]
  obtain ⟨v', w', hr, h2, h3⟩ := run_opts o.type B hown hr hlen hB
  unfold Oper.wp execOp
  simp only [ho, resolve, invoke, builtin, Sem.run_bind, Sem.run_pure, Result.andThen_ok, List.map_toArray, List.map_cons, List.map_nil, hs, hy, hr]
  exact hK _ _ h2 h3

/-- two configurations, one behind the other -/
theorem pl.numOf_app (a b : List Opt) (k d : Int) : pl.numOf (a ++ b) k d = pl.numOf b k (pl.numOf a k d) := by unfold pl.numOf; rw [List.foldl_append]

end Go.Proofs.YtfkohahlpfejbaaDoor
