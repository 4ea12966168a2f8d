/-
  WORDS for the walk of readHosts: bytes of a string, what a step keeps, the lines.
-/
import Derived.Test.YtfkohahlpfejbaaDoorRl
import Derived.Deep.LoopGhost
import Derived.Deep.RegionLaw
namespace Go.Proofs.YtfkohahlpfejbaaDoor
open Go.RowKit

theorem conv_to (s : ByteArray) (W : World) : ∃ W1 cap, (convert 9 26 (.string s)).run Tryd.prog W = .ok (.slice (some ⟨W.heap.size, 0, none⟩) s.size cap) W1 ∧ ByteRow W1 W.heap.size s.data.toList ∧ Below W.heap.size W W1 ∧ W1.heap.size = W.heap.size + 1 := by
  refine ⟨_, _, run_bytes_of_string (P := Tryd.prog) W 9 26 5 s Tryd.underlying9 Tryd.underlying26 Tryd.underlying5, ByteRow.of_string W s _, (Below.refl _ _).drew.alloc (Nat.le_refl _) _, ?_⟩
  show (W.heap.push _).size = _
  simp
theorem conv_from (W : World) (g cap n : Nat) (l : List UInt8) (hn : l.length = n) (h : ByteRow W g l) : (convert 26 9 (.slice (some ⟨g, 0, none⟩) n cap)).run Tryd.prog W = .ok (.string ⟨l.toArray⟩) W := by
  subst hn
  exact run_convert_bytes_back (P := Tryd.prog) W 26 9 5 ⟨g, 0, none⟩ cap l Tryd.underlying26 Tryd.underlying5 Tryd.underlying9 (fun j hj => by
    rw [Addr.add_lit, Nat.zero_add]
    exact h.cell j _ (List.getElem?_eq_getElem hj))

/-- the row of a slice that a map holds: none, or one that X does not have -/
def RowOk (w : World) (B : Nat) (X : Nat → Prop) (row : Option Nat) : Prop := row = none ∨ ∃ r cur, row = some r ∧ w.heap[r]? = some (.cells cur 9 (0, 0)) ∧ ¬ X r ∧ B ≤ r

theorem Grp.rowOk {w : World} {B : Nat} {f : Key → Option Value} {L : Key → List (List UInt8)} {g : Key → Nat} {Wr : Key → Value → Value} {X : Nat → Prop} (h : Grp w B f L g Wr) (hX : ∀ k, L k ≠ [] → ¬ X (g k)) (k : Key) (c : Nat) : RowOk w B X (Grp.val L g k c).ownBlock := by
  unfold Grp.val
  by_cases hk : L k = []
  · rw [if_pos hk]; exact .inl rfl
  · rw [if_neg hk]
    obtain ⟨c', _, h2⟩ := h.yes k hk
    obtain ⟨hb, cur, hh⟩ := h2.at_row
    exact .inr ⟨g k, cur, rfl, hh, hX k hk, hb⟩

/-- what an append to such a row, and a store into a map, keep -/
theorem carry {w0 w w' w'' : World} {B gf : Nat} {arr : Array Value} {ty : TypeId} {vF : Value} {lF : List (List UInt8)} {X : Nat → Prop} {bm m : Nat} {f : Key → Option Value} {row : Option Nat}
    (hfl : Blk w gf arr ty) (hty : ty ≠ 9) (hfs : Strs w B vF lF) (hbl : Below B w0 w) (hF : ∀ g, vF.ownBlock = some g → X g)
    (hrow : RowOk w B X row) (hg : w.grownBy w' row) (hM : MapF Tryd.prog 9 w bm m f) (hbm : B ≤ bm) (hBw : B ≤ w.heap.size) (hg2 : w'.grownBy w'' (some bm)) :
    Blk w'' gf arr ty ∧ Strs w'' B vF lF ∧ Below B w0 w'' := by
  have hne : some gf ≠ row := by
    rcases hrow with rfl | ⟨r, cur, rfl, hh, _, _⟩
    · simp
    · intro e
      injection e with e
      subst e
      unfold Blk at hfl
      rw [hfl] at hh
      simp only [Option.some.injEq, Obj.cells.injEq] at hh
      exact hty hh.2.1
  have hfne : vF.ownBlock = none ∨ vF.ownBlock ≠ row := by
    rcases hrow with rfl | ⟨r, cur, rfl, hh, hx, _⟩
    · rcases h : vF.ownBlock with _ | g
      · exact .inl rfl
      · exact .inr (by simp)
    · right
      intro e
      exact hx (hF r e)
  have hk1 : Blk w' gf arr ty := hfl.keep (hg.block gf hfl.lt hne)
  have hs1 := hfs.grown hg hfne
  have hM1 : MapF Tryd.prog 9 w' bm m f := by
    refine hM.grown hg ?_
    rcases hrow with rfl | ⟨r, cur, rfl, hh, _, _⟩
    · simp
    · intro e; injection e with e; exact hM.ne_row hh e.symm
  have hs2 : Strs w'' B vF lF := by
    refine hs1.grown hg2 ?_
    rcases hs1.2 with ⟨rfl, _⟩ | ⟨g, cap, cur, rfl, _, hh, _⟩
    · exact .inl rfl
    · right
      intro e
      simp only [Value.ownBlock, Option.some.injEq] at e
      exact hM1.ne_row hh e
  refine ⟨hk1.keep (hg2.block gf hk1.lt (by intro e; injection e with e; unfold Blk at hk1; exact hM1.ne_row hk1 e)), hs2, ?_⟩
  have hb1 : Below B w0 w' := hbl.grown hg hBw (fun k hk => by
    rcases hrow with rfl | ⟨r, cur, rfl, _, _, hB⟩
    · cases hk
    · injection hk with hk; omega)
  exact hb1.grown hg2 (Nat.le_trans hBw hg.size) (fun k hk => by injection hk with hk; omega)

theorem Tb.mi_grown {w0 w w' : World} {B bh bi n : Nat} {H : HSt} {I : ISt} {X : Nat → Prop} {fh fi : Key → Option Value} {gh gi : Key → Nat} (h : Tb w0 B bh bi n H I X fh fi gh gi) (hb : Below w0.heap.size w0 w) (T : Key) (c : Nat) (hg : w.grownBy w' (Grp.val I gi T c).ownBlock) : MapF Tryd.prog 9 w' bi n fi := by
  have hmi := h.mi.below hb h.mi.lt
  refine hmi.grown hg ?_
  unfold Grp.val
  by_cases hT : I T = []
  · rw [if_pos hT]; simp [Value.ownBlock]
  · rw [if_neg hT]; simp only [Value.ownBlock, ne_eq, Option.some.injEq]
    obtain ⟨cur, hh⟩ := (h.pi.below hb).row T hT
    exact fun e => hmi.ne_row hh e.symm
theorem Tb.mh_grown {w0 w w' : World} {B bh bi n : Nat} {H : HSt} {I : ISt} {X : Nat → Prop} {fh fi : Key → Option Value} {gh gi : Key → Nat} (h : Tb w0 B bh bi n H I X fh fi gh gi) (hb : Below w0.heap.size w0 w) (K : Key) (c : Nat) (hg : w.grownBy w' (Grp.val (fun k => (H k).1) gh K c).ownBlock) : MapF Tryd.prog 9 w' bh n fh := by
  have hmh := h.mh.below hb h.mh.lt
  refine hmh.grown hg ?_
  unfold Grp.val
  by_cases hT : (H K).1 = []
  · simp only [hT, if_pos]; simp [Value.ownBlock]
  · rw [if_neg hT]; simp only [Value.ownBlock, ne_eq, Option.some.injEq]
    obtain ⟨cur, hh⟩ := (h.ph.below hb).row K hT
    exact fun e => hmh.ne_row hh e.symm
theorem Tb.rowI {w0 w : World} {B bh bi n : Nat} {H : HSt} {I : ISt} {X : Nat → Prop} {fh fi : Key → Option Value} {gh gi : Key → Nat} (h : Tb w0 B bh bi n H I X fh fi gh gi) (hb : Below w0.heap.size w0 w) (T : Key) (c : Nat) : RowOk w B X (Grp.val I gi T c).ownBlock :=
  (h.pi.below hb).rowOk h.xi T c
theorem Tb.rowH {w0 w : World} {B bh bi n : Nat} {H : HSt} {I : ISt} {X : Nat → Prop} {fh fi : Key → Option Value} {gh gi : Key → Nat} (h : Tb w0 B bh bi n H I X fh fi gh gi) (hb : Below w0.heap.size w0 w) (K : Key) (c : Nat) : RowOk w B X (Grp.val (fun k => (H k).1) gh K c).ownBlock :=
  (h.ph.below hb).rowOk h.xh K c
theorem Tb.getI {w : World} {B bh bi n : Nat} {H : HSt} {I : ISt} {X : Nat → Prop} {fh fi : Key → Option Value} {gh gi : Key → Nat} (h : Tb w B bh bi n H I X fh fi gh gi) (T : Key) : ∃ c, Strs w B ((fi T).getD (.slice none 0 0)) (I T) ∧ (fi T).getD (.slice none 0 0) = Grp.val I gi T c := by
  obtain ⟨c, h1, h2, h3⟩ := h.pi.at_key T
  have he : (fi T).getD (.slice none 0 0) = Grp.val I gi T c := by
    by_cases hT : I T = []
    · rw [h2 hT]; unfold Grp.val; rw [if_pos hT]; rfl
    · rw [h3 hT]; rfl
  exact ⟨c, by rw [he]; exact h1, he⟩

/-- a line as the walk needs it -/
structure HostLine (ln : List UInt8) (h : List UInt8 × List (List UInt8)) : Prop where
  sep : 0 ≤ pl.idx ln 35
  wd : pl.words pl.ws (pl.strip ln) = h.1 :: h.2
  ok : pl.hostOk h = true
  a37 : (37 : UInt8) ∉ h.1
  lit : pl.lit h.1 ≠ []
  la : h.1.length ≤ 2147483647
  ln : ∀ q ∈ h.2, q.length ≤ 2147483647
structure ItemOk (it : Item) : Prop where
  nl : (10 : UInt8) ∉ it.1
  len : it.1.length ≤ 4398046511104
  no : it.2 = none → (pl.words pl.ws (pl.strip it.1)).length < 2
  yes : ∀ h, it.2 = some h → HostLine it.1 h

/-- the state behind m names of the line h -/
def pl.hAt (l : HostL) (h : List UInt8 × List (List UInt8)) (m : Nat) : HSt := fun k => (h.2.take m).foldl (pl.stepA k h) (pl.addrsOf l k)
def pl.iAt (l : HostL) (h : List UInt8 × List (List UInt8)) (m : Nat) : ISt := fun t => pl.byAddr l t ++ (if pl.lit h.1 = t then (h.2.take m).map pl.absN else [])
theorem pl.hAt_zero (l : HostL) (h : List UInt8 × List (List UInt8)) : pl.hAt l h 0 = pl.addrsOf l := by funext k; simp [pl.hAt]
theorem pl.iAt_zero (l : HostL) (h : List UInt8 × List (List UInt8)) : pl.iAt l h 0 = pl.byAddr l := by funext t; simp [pl.iAt]
theorem pl.hAt_end (l : HostL) (h : List UInt8 × List (List UInt8)) (m : Nat) (hm : h.2.length ≤ m) : pl.hAt l h m = pl.addrsOf (l ++ [h]) := by
  funext k
  unfold pl.hAt pl.addrsOf
  rw [List.take_of_length_le hm, List.foldl_append]
  rfl
theorem pl.iAt_end (l : HostL) (h : List UInt8 × List (List UInt8)) (m : Nat) (hm : h.2.length ≤ m) : pl.iAt l h m = pl.byAddr (l ++ [h]) := by
  funext t
  unfold pl.iAt pl.byAddr
  rw [List.take_of_length_le hm, List.flatMap_append]
  simp
theorem pl.iAt_succ (l : HostL) (h : List UInt8 × List (List UInt8)) (m : Nat) (q : List UInt8) (hq : h.2[m]? = some q) : pl.iAt l h (m + 1) = fun t => if t = pl.lit h.1 then pl.iAt l h m (pl.lit h.1) ++ [pl.absN q] else pl.iAt l h m t := by
  funext t
  unfold pl.iAt
  rw [pl.take_at h.2 m q hq]
  by_cases e : t = pl.lit h.1
  · subst e; simp
  · rw [if_neg e, if_neg (fun x => e x.symm), if_neg (fun x => e x.symm)]
theorem pl.hAt_succ (l : HostL) (h : List UInt8 × List (List UInt8)) (m : Nat) (q : List UInt8) (hq : h.2[m]? = some q) : pl.hAt l h (m + 1) = fun k => if k = pl.absN (pl.low q) then ((pl.hAt l h m (pl.absN (pl.low q))).1 ++ [pl.lit h.1], if (pl.hAt l h m (pl.absN (pl.low q))).1 = [] then pl.absN (pl.low (h.2.headD [])) else (pl.hAt l h m (pl.absN (pl.low q))).2) else pl.hAt l h m k := by
  funext k
  unfold pl.hAt
  rw [pl.take_at h.2 m q hq, List.foldl_append]
  show pl.stepA k h _ q = _
  unfold pl.stepA
  by_cases e : k = pl.absN (pl.low q)
  · subst e; simp only [if_pos]
  · rw [if_neg (fun x => e x.symm), if_neg e]

set_option maxRecDepth 100000 in
theorem step_app1 {ops : Array Oper} {o : Oper} {a : Act} {w : World} {K : Act → World → Prop} {Q : Exit → Act → World → Prop} {E : Prop} {v : Value} {l : List (List UInt8)} (p : List UInt8)
    (hg : o.guard = none) (s y : Operand) (ho : o.op = .call { callee := .builtin .append, args := #[s, y], argTypes := #[31, 31] })
    (hs : a.eval s = v) (B : Nat) (hown : Strs w B v l) (gn : Nat) (hy : a.eval y = .slice (some ⟨gn, 0, none⟩) 1 1) (hc : w.cell? ⟨gn, 0, none⟩ = some (pl.strV p)) (hlen : l.length < 8796093022207) (hB : B ≤ w.heap.size)
    (hK : ∀ v' w', Strs w' B v' (l ++ [p]) → w.grownBy w' v.ownBlock → (v'.ownBlock = v.ownBlock ∨ v'.ownBlock = some w.heap.size) → K (a.put o.dst v') w') :
    if Region.wanted o (yielded ops a.tmps) = true then Oper.wp Tryd.prog o a w K Q else E := by
  have hw : Region.wanted o (yielded ops a.tmps) = true := by simp [Region.wanted, hg]
  rw [if_pos hw]
  obtain ⟨i0, hi, hz0, hz1, hz2⟩ := info_parts infoStr
  obtain ⟨v', w', hr, h2, h3, _, h5⟩ := run_append_own_at (P := Tryd.prog) w B 31 o.type 9 i0 (.string ⟨#[]⟩) 1 16 Tryd.underlying31 hi hz0 hz1 hz2 rfl (by decide) v l.length (l.map pl.strV) hown ⟨gn, 0, none⟩ 1 1 [pl.strV p] rfl (fun j u hj => by
    match j, hj with
    | 0, hj => injection hj with hj; subst hj; rw [Addr.add_lit]; exact hc) (fun u hu => by
    rw [List.mem_singleton] at hu; subst hu; rfl) (by unfold maxLen; omega) (by omega) hB
  unfold Oper.wp execOp
  simp only [ho, resolve, invoke, builtin, Sem.run_bind, Sem.run_pure, Result.andThen_ok, List.map_toArray, List.map_cons, List.map_nil, hs, hy, hr]
  refine hK _ _ ?_ h3 h5
  unfold Strs
  rw [List.length_append, List.map_append]
  exact h2

theorem pl.absN_len (l : List UInt8) : (pl.absN l).length ≤ l.length + 1 := by
  unfold pl.absN
  split
  · simp
  · omega

theorem zero_ss (w : World) : (zeroValue 31).run Tryd.prog w = .ok (.slice none 0 0) w := by kernel_rfl
theorem zero_bn (w : World) : (zeroValue 137).run Tryd.prog w = .ok (.agg #[.slice none 0 0, .string ⟨#[]⟩]) w := by kernel_rfl

theorem pl.stepA_fold (key : List UInt8) (h : List UInt8 × List (List UInt8)) (ns : List (List UInt8)) : ∀ st, (ns.foldl (pl.stepA key h) st).1.length ≤ st.1.length + ns.length := by
  induction ns with
  | nil => intro st; simp
  | cons a ns ih =>
    intro st
    rw [List.foldl_cons, List.length_cons]
    have h1 := ih (pl.stepA key h st a)
    have h2 := pl.stepA_len key h st a
    omega
theorem pl.addrsOf_len (key : List UInt8) (n : Nat) (l : HostL) (h : ∀ x ∈ l, x.2.length ≤ n) : (pl.addrsOf l key).1.length ≤ l.length * n := by
  have : ∀ (l : HostL) st, (∀ x ∈ l, x.2.length ≤ n) → (l.foldl (pl.lineA key) st).1.length ≤ st.1.length + l.length * n := by
    intro l
    induction l with
    | nil => intro st _; simp
    | cons a l ih =>
      intro st h
      rw [List.foldl_cons, List.length_cons, Nat.add_mul, Nat.one_mul]
      have h1 := ih (pl.lineA key st a) (fun x hx => h x (by simp [hx]))
      have h2 := pl.stepA_fold key a a.2 st
      have h3 := h a (by simp)
      have h4 : (pl.lineA key st a).1.length ≤ st.1.length + a.2.length := h2
      omega
  simpa [pl.addrsOf] using this l ([], []) h
theorem pl.ihosts_len (its : List Item) : (pl.ihosts its).length ≤ its.length := List.length_filterMap_le _ _
theorem pl.iAt_len (l : HostL) (h : List UInt8 × List (List UInt8)) (m : Nat) (t : Key) (hl : ∀ x ∈ l, x.2.length ≤ 20) (hn : l.length ≤ 1000) (hh : h.2.length ≤ 20) : (pl.iAt l h m t).length ≤ 20020 := by
  unfold pl.iAt pl.byAddr
  rw [List.length_append]
  have h1 : (l.flatMap (fun h => if pl.lit h.1 = t then h.2.map pl.absN else [])).length ≤ l.length * 20 := pl.flat_len _ _ 20 fun x hx => by
    split
    · rw [List.length_map]; exact hl x hx
    · simp
  have h2 : (if pl.lit h.1 = t then (h.2.take m).map pl.absN else []).length ≤ 20 := by
    split
    · rw [List.length_map]; have := List.length_take_le' m h.2; omega
    · simp
  omega
theorem pl.hAt_len (l : HostL) (h : List UInt8 × List (List UInt8)) (m : Nat) (k : Key) (hl : ∀ x ∈ l, x.2.length ≤ 20) (hn : l.length ≤ 1000) (hh : h.2.length ≤ 20) : (pl.hAt l h m k).1.length ≤ 20020 := by
  unfold pl.hAt
  have h1 := pl.stepA_fold k h (h.2.take m) (pl.addrsOf l k)
  have h2 := pl.addrsOf_len k 20 l hl
  have h3 := List.length_take_le' m h.2
  omega
theorem pl.ihosts_20 (its : List Item) (hok : ∀ it ∈ its, ItemOk it) : ∀ x ∈ pl.ihosts its, x.2.length ≤ 20 := fun x hx => by
  unfold pl.ihosts at hx
  obtain ⟨it, hit, he⟩ := List.mem_filterMap.1 hx
  have h1 := ((hok it hit).yes x he).ok
  exact (pl.hostOk_parts x.1 x.2 h1).2.2.1

end Go.Proofs.YtfkohahlpfejbaaDoor
