/-
  WORDS for the walk of dnsReadConfig: appends to the rows of the configuration.
-/
import Derived.Test.YtfkohahlpfejbaaDoorRv5
import Derived.Deep.LoopGhost
import Derived.Deep.RegionLaw
import Derived.Maps.AppendAt
namespace Go.Proofs.YtfkohahlpfejbaaDoor
open Go.RowKit

theorem Strs.grown {w w' : World} {B : Nat} {row : Option Nat} {v : Value} {l : List (List UInt8)} (h : Strs w B v l) (hg : w.grownBy w' row) (hne : v.ownBlock = none ∨ v.ownBlock ≠ row) : Strs w' B v l := World.ownsRow.kept h hg hne
theorem Strs.row {w : World} {B : Nat} {v : Value} {l : List (List UInt8)} (h : Strs w B v l) : v.ownBlock = none ∨ ∃ g, v.ownBlock = some g ∧ B ≤ g ∧ g < w.heap.size := by
  rcases h.2 with ⟨rfl, _⟩ | ⟨g, cap, cur, rfl, hb, hh, _⟩
  · exact .inl rfl
  · exact .inr ⟨g, rfl, hb, (Array.getElem?_eq_some_iff.1 hh).1⟩

/-- 'append(s, x)' of one string, and where the new slice lies -/
theorem app_str_at {ops : Array Oper} {rest : List Oper} {o : Oper} {a : Act} {Q : Exit → Act → World → Prop} {wr : World} {v : Value} {l : List (List UInt8)} {x : Value} (p : List UInt8)
    (hgd : o.guard = none) (s y : Operand) (ho : o.op = .call { callee := .builtin .append, args := #[s, y], argTypes := #[31, 31] })
    (hs : a.eval s = v) (B : Nat) (hown : Strs wr B v l) (hy : a.eval y = .slice (some ⟨wr.heap.size, 0, none⟩) 1 1) (hp : x = pl.strV p) (hlen : l.length < 8796093022207) (hB : B ≤ wr.heap.size)
    (h : ∀ v' w', Strs w' B v' (l ++ [p]) → (wr.alloc (.cells #[x] 9)).grownBy w' v.ownBlock → (v'.ownBlock = v.ownBlock ∨ v'.ownBlock = some (wr.heap.size + 1)) → wpList Tryd.prog ops Q rest (a.put o.dst v') w') : wpList Tryd.prog ops Q (o :: rest) a (wr.alloc (.cells #[x] 9)) := by
  obtain ⟨i0, hi, hz0, hz1, hz2⟩ := info_parts infoStr
  refine wpList_append_own_at (w := (wr.alloc (.cells #[x] 9))) hgd s y 31 ho B 9 i0 (.string ⟨#[]⟩) 1 16 Tryd.underlying31 hi hz0 hz1 hz2 rfl (by decide) v l.length (l.map pl.strV) hs (World.ownsRow.alloc hown _) ⟨wr.heap.size, 0, none⟩ 1 1 [x] hy rfl (cell_one_new _ _ _) ?_ ?_ ?_ ?_ ?_
  · intro u hu
    rw [List.mem_singleton] at hu
    subst hu
    rw [hp]
    rfl
  · unfold maxLen; omega
  · omega
  · simp; omega
  · intro v' w' h1 h2 _ h4
    refine h v' w' ?_ h2 (by simpa using h4)
    subst hp
    unfold Strs
    rw [List.length_append, List.map_append]
    exact h1

set_option maxRecDepth 100000 in
theorem step_app1 {ops : Array Oper} {o : Oper} {a : Act} {w : World} {K : Act → World → Prop} {Q : Exit → Act → World → Prop} {E : Prop} {v : Value} {l : List (List UInt8)} (p : List UInt8)
    (hg : o.guard = none) (s y : Operand) (ho : o.op = .call { callee := .builtin .append, args := #[s, y], argTypes := #[31, 31] })
    (hs : a.eval s = v) (B : Nat) (hown : Strs w B v l) (gn : Nat) (hy : a.eval y = .slice (some ⟨gn, 0, none⟩) 1 1) (hc : w.cell? ⟨gn, 0, none⟩ = some (pl.strV p)) (hlen : l.length < 8796093022207) (hB : B ≤ w.heap.size)
    (hK : ∀ v' w', Strs w' B v' (l ++ [p]) → w.grownBy w' v.ownBlock → (v'.ownBlock = v.ownBlock ∨ v'.ownBlock = some w.heap.size) → K (a.put o.dst v') w') :
    if Region.wanted o (yielded ops a.tmps) = true then Oper.wp Tryd.prog o a w K Q else E := by
  have hw : Region.wanted o (yielded ops a.tmps) = true := by simp [Region.wanted, hg]
  rw [if_pos hw]
  obtain ⟨i0, hi, hz0, hz1, hz2⟩ := info_parts infoStr
  obtain ⟨v', w', hr, h2, h3, _, h5⟩ := run_append_own_at (P := Tryd.prog) w B 31 o.type 9 i0 (.string ⟨#[]⟩) 1 16 Tryd.underlying31 hi hz0 hz1 hz2 rfl (by decide) v l.length (l.map pl.strV) hown ⟨gn, 0, none⟩ 1 1 [pl.strV p] rfl (fun j u hj => by
    match j, hj with
    | 0, hj => injection hj with hj; subst hj; rw [Addr.add_lit]; exact hc) (fun u hu => by
    rw [List.mem_singleton] at hu; subst hu; rfl) (by unfold maxLen; omega) (by omega) hB
  unfold Oper.wp execOp
  simp only [ho, resolve, invoke, builtin, Sem.run_bind, Sem.run_pure, Result.andThen_ok, List.map_toArray, List.map_cons, List.map_nil, hs, hy, hr]
  refine hK _ _ ?_ h3 h5
  unfold Strs
  rw [List.length_append, List.map_append]
  exact h2

theorem RvC.push {V U w9 : World} {B g : Nat} {s : RSt} {vs vq v9 : Value} {x : List UInt8} (h : RvC V B g s vs vq) (hb : Below V.heap.size V U) (hv : Strs w9 B v9 (s.sv ++ [x])) (hg : U.grownBy w9 vs.ownBlock) (hp : v9.ownBlock = vs.ownBlock ∨ v9.ownBlock = some U.heap.size) (hgB : g < B) :
    Blk w9 g (confA s vs vq) 110 ∧ RvC (w9.setCell ⟨g, 0, none⟩ v9) B g { s with sv := s.sv ++ [x] } v9 vq := by
  have hU := h.below hb
  have hne : some g ≠ vs.ownBlock := by
    rcases hU.2.1.row with e | ⟨r, e, hr, _⟩
    · rw [e]; simp
    · rw [e]; intro h; injection h with h; omega
  have hB9 : Blk w9 g (confA s vs vq) 110 := hU.1.keep (hg.block g hU.1.lt hne)
  have hq9 : Strs w9 B vq s.se := by
    refine hU.2.2.1.grown hg ?_
    rcases hU.2.2.2 with e | e | e
    · rcases hU.2.2.1.row with e2 | ⟨r, e2, _⟩
      · exact .inl e2
      · right; rw [e, e2]; simp
    · exact .inl e
    · exact .inr (fun x => e x.symm)
  refine ⟨hB9, hB9.set 0 v9, hv.far g 0 v9 hgB, hq9.far g 0 v9 hgB, ?_⟩
  rcases hp with hp | hp
  · rw [hp]; exact hU.2.2.2
  · rcases hU.2.2.1.row with e2 | ⟨r, e2, _, hr⟩
    · exact .inr (.inl e2)
    · right; right; rw [hp, e2]; intro e; injection e with e; omega
theorem RvC.pushq {V U w9 : World} {B g : Nat} {s : RSt} {vs vq v9 : Value} {x : List UInt8} (h : RvC V B g s vs vq) (hb : Below V.heap.size V U) (hv : Strs w9 B v9 (s.se ++ [x])) (hg : U.grownBy w9 vq.ownBlock) (hp : v9.ownBlock = vq.ownBlock ∨ v9.ownBlock = some U.heap.size) (hgB : g < B) :
    Blk w9 g (confA s vs vq) 110 ∧ RvC (w9.setCell ⟨g, 1, none⟩ v9) B g { s with se := s.se ++ [x] } vs v9 := by
  have hU := h.below hb
  have hne : some g ≠ vq.ownBlock := by
    rcases hU.2.2.1.row with e | ⟨r, e, hr, _⟩
    · rw [e]; simp
    · rw [e]; intro h; injection h with h; omega
  have hB9 : Blk w9 g (confA s vs vq) 110 := hU.1.keep (hg.block g hU.1.lt hne)
  have hs9 : Strs w9 B vs s.sv := by
    refine hU.2.1.grown hg ?_
    rcases hU.2.2.2 with e | e | e
    · exact .inl e
    · rcases hU.2.1.row with e2 | ⟨r, e2, _⟩
      · exact .inl e2
      · right; rw [e, e2]; simp
    · exact .inr e
  refine ⟨hB9, hB9.set 1 v9, hs9.far g 1 v9 hgB, hv.far g 1 v9 hgB, ?_⟩
  rcases hp with hp | hp
  · rw [hp]; exact hU.2.2.2
  · rcases hU.2.1.row with e2 | ⟨r, e2, _, hr⟩
    · exact .inl e2
    · right; right; rw [hp, e2]; intro e; injection e with e; omega
/-- a new search list -/
theorem RvC.fresh {V w9 : World} {B g : Nat} {s : RSt} {vs vq v9 : Value} (h : RvC V B g s vs vq) (hv : Strs w9 B v9 []) (hg : V.grownBy w9 none) (hp : v9.ownBlock = some V.heap.size) (hgB : g < B) :
    Blk w9 g (confA s vs vq) 110 ∧ RvC (w9.setCell ⟨g, 1, none⟩ v9) B g { s with se := [] } vs v9 := by
  have hB9 : Blk w9 g (confA s vs vq) 110 := h.1.keep (hg.block g h.1.lt (by simp))
  have hs9 : Strs w9 B vs s.sv := h.2.1.grown hg (by
    rcases h.2.1.row with e2 | ⟨r, e2, _⟩
    · exact .inl e2
    · right; rw [e2]; simp)
  refine ⟨hB9, hB9.set 1 v9, hs9.far g 1 v9 hgB, hv.far g 1 v9 hgB, ?_⟩
  rcases h.2.1.row with e2 | ⟨r, e2, _, hr⟩
  · exact .inl e2
  · right; right; rw [hp, e2]; intro e; injection e with e; omega

theorem pa_yes2 (g4 o4 g6 o6 : Nat) (q : List UInt8) (w : World) (hl : q.length ≤ 2147483647) (hI : IpVars w g4 o4 g6 o6) (h37 : (37 : UInt8) ∉ q) (h : (pl.addr q).isSome = true) :
    Calls Tryd.prog 70 #[.string ⟨q.toArray⟩] w fun e w' => (∃ (hi lo : Int) (gz oz : Nat), e = .returned (.tuple #[.agg #[.int .u64 hi, .int .u64 lo, .pointer (some ⟨gz, oz, none⟩)], .nilIface])) ∧ Hid (Below w.heap.size w w') := by
  refine (par_sp g4 o4 g6 o6 ⟨q.toArray⟩ w (by show q.length ≤ _; omega) hI h37).mono fun e w' ⟨hb, hr⟩ => ?_
  obtain ⟨b, hb0⟩ := Option.isSome_iff_exists.1 h
  rcases hr with ⟨hn, _⟩ | ⟨b', h1, hl', he⟩
  · have hn' : pl.addr q = none := hn
    rw [hn'] at hb0; cases hb0
  · obtain ⟨hi, lo, gz, oz, hadr⟩ := adr_cells g4 o4 g6 o6 b'
    rw [hadr] at he
    exact ⟨⟨_, _, _, _, he⟩, Lib.hid hb⟩

theorem pl.rooted_ne (n : List UInt8) (h : pl.plain n = true) : pl.rooted n ≠ [46] := by
  obtain ⟨hne, _⟩ := pl.plain_ok n h
  intro e
  unfold pl.rooted at e
  have hn : n = [46] := by
    split at e
    · exact e
    · have := congrArg List.length e
      rw [List.length_append] at this
      simp at this
      exact absurd this hne
  rw [hn] at h
  revert h
  decide
theorem pl.rooted_len (n : List UInt8) : (pl.rooted n).length ≤ n.length + 1 := by
  unfold pl.rooted
  split
  · omega
  · rw [List.length_append]; simp

end Go.Proofs.YtfkohahlpfejbaaDoor
