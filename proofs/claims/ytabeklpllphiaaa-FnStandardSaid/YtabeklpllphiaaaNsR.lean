/-
  WORDS FOR MEMORY: rows of sources with criteria; the map of sources.
-/
import Derived.Test.YtabeklpllphiaaaPlNs2
namespace Go.Proofs.Ytabeklpllphiaaa
open Go.RowKit

theorem infoNS : (Try.prog.info? 108).map (fun i => (i.zero, i.size, i.bytes)) = some (some (.agg #[.string ⟨#[]⟩, .slice none 0 0]), 2, 40) := by kernel_rfl
def pl.lowS (s : Src) : Src := (s.1, s.2.map pl.lowC)
def srcCells (p : List UInt8 × Value) : List Value := [pl.strV p.1, p.2]
def srcRow (l : List Src) (vs : List Value) : List Value := ((l.map (·.1)).zip vs).flatMap srcCells
/-- The slice value v owns these sources, from block B on. -/
def NsR (w : World) (B : Nat) (v : Value) (l : List Src) : Prop :=
  ∃ vs : List Value, vs.length = l.length ∧ w.ownsRow B 108 2 v l.length (srcRow l vs) ∧ ∀ (k : Nat) s x, l[k]? = some s → vs[k]? = some x → Crs w B 110 x s.2
theorem NsR.nil (w : World) (B : Nat) : NsR w B (.slice none 0 0) [] := ⟨[], rfl, World.ownsRow_nil _ _ _ _, fun k s x h => by simp at h⟩
theorem NsR.keepT {T : TypeId} {w w' : World} {B : Nat} {v : Value} {l : List Src} (h : NsR w B v l) (hk : KeepT T w w') (h1 : 108 ≠ T) (h2 : 110 ≠ T) : NsR w' B v l := by
  obtain ⟨vs, hv, hr, hc⟩ := h
  exact ⟨vs, hv, Row.keepT hr hk h1, fun k s x hs hx => (hc k s x hs hx).keepT hk h2⟩
theorem NsR.below {w w' : World} {B : Nat} {v : Value} {l : List Src} (h : NsR w B v l) (hb : Below w.heap.size w w') : NsR w' B v l := by
  obtain ⟨vs, hv, hr, hc⟩ := h
  exact ⟨vs, hv, Row.below hr hb, fun k s x hs hx => (hc k s x hs hx).below hb⟩
theorem NsR.mono {w : World} {B B' : Nat} {v : Value} {l : List Src} (h : NsR w B v l) (hb : B' ≤ B) : NsR w B' v l := by
  obtain ⟨vs, hv, hr, hc⟩ := h
  exact ⟨vs, hv, Row.mono hr hb, fun k s x hs hx => (hc k s x hs hx).mono hb⟩
theorem srcRow_snoc (l : List Src) (vs : List Value) (h : vs.length = l.length) (s : Src) (x : Value) : srcRow (l ++ [s]) (vs ++ [x]) = srcRow l vs ++ [pl.strV s.1, x] := by
  unfold srcRow
  rw [List.map_append, List.zip_append (by simp [h]), List.flatMap_append]
  rfl
theorem NsR.push {w w' : World} {B : Nat} {v' : Value} {l : List Src} {vs : List Value} (hv : vs.length = l.length) (hc : ∀ (k : Nat) s x, l[k]? = some s → vs[k]? = some x → Crs w B 110 x s.2) (hk : KeepT 108 w w') (s : Src) (x : Value) (hx : Crs w B 110 x s.2) (cs : List Value) (hcs : cs = [pl.strV s.1, x])
    (hr : w'.ownsRow B 108 2 v' (l.length + 1) (srcRow l vs ++ cs)) : NsR w' B v' (l ++ [s]) := by
  subst hcs
  refine ⟨vs ++ [x], by simp [hv], ?_, fun k t y ht hy => ?_⟩
  · rw [srcRow_snoc l vs hv, List.length_append]
    exact hr
  · by_cases hkl : k < l.length
    · rw [List.getElem?_append_left hkl] at ht
      rw [List.getElem?_append_left (by omega)] at hy
      exact (hc k t y ht hy).keepT hk (by decide)
    · rw [List.getElem?_append_right (by omega)] at ht
      rw [List.getElem?_append_right (by omega)] at hy
      have h0 : k - l.length = 0 := by
        have := (List.getElem?_eq_some_iff.1 ht).1
        simp at this
        omega
      rw [h0] at ht
      rw [hv, h0] at hy
      simp at ht hy
      subst ht
      subst hy
      exact hx.keepT hk (by decide)
theorem NsR.at {w : World} {B : Nat} {v : Value} {l : List Src} (h : NsR w B v l) (k : Nat) (s : Src) (hk : l[k]? = some s) : ∃ g cap x, v = .slice (some ⟨g, 0, none⟩) l.length cap ∧ B ≤ g ∧ g < w.heap.size ∧ w.cell? ⟨g, k * 2, none⟩ = some (pl.strV s.1) ∧ w.cell? ⟨g, k * 2 + 1, none⟩ = some x ∧ Crs w B 110 x s.2 := by
  obtain ⟨vs, hv, hr, hc⟩ := h
  have hlt := (List.getElem?_eq_some_iff.1 hk).1
  obtain ⟨x, hx⟩ : ∃ x, vs[k]? = some x := ⟨_, List.getElem?_eq_getElem (by omega)⟩
  obtain ⟨g, cap, e, hb, hg, hcell⟩ := Row.cell hr (by omega)
  have hz : ((l.map (·.1)).zip vs)[k]? = some (s.1, x) := by
    rw [List.getElem?_zip_eq_some]
    exact ⟨by rw [List.getElem?_map, hk]; rfl, hx⟩
  have hf := fun i (hi : i < 2) => pl.flat_at srcCells 2 (fun _ => rfl) _ k i _ hz hi
  exact ⟨g, cap, x, e, hb, hg, hcell _ _ (hf 0 (by omega)), hcell _ _ (hf 1 (by omega)), hc k s x hk hx⟩
theorem NsR.shape {w : World} {B : Nat} {v : Value} {l : List Src} (h : NsR w B v l) : ∃ a cap, v = .slice a l.length cap := by
  obtain ⟨_, _, hr, _⟩ := h
  exact Row.shape hr

/-- the map of sources, which may be nil -/
def MSt (w : World) (B N : Nat) (mo : Option Nat) (f : List UInt8 → Option Value) : Prop :=
  (mo = none ∧ ∀ x, f x = none) ∨ ∃ gm n, mo = some gm ∧ B ≤ gm ∧ n ≤ N ∧ MapF Try.prog 9 w gm n f
theorem MSt.keep {w w' : World} {B N : Nat} {mo : Option Nat} {f : List UInt8 → Option Value} (h : MSt w B N mo f) (hk : ∀ gm n, MapF Try.prog 9 w gm n f → w'.heap[gm]? = w.heap[gm]?) : MSt w' B N mo f :=
  h.imp id (fun ⟨gm, n, h1, h2, h3, h4⟩ => ⟨gm, n, h1, h2, h3, h4.keep (hk gm n h4)⟩)
theorem MSt.below {w w' : World} {B N : Nat} {mo : Option Nat} {f : List UInt8 → Option Value} (h : MSt w B N mo f) (hb : Below w.heap.size w w') : MSt w' B N mo f := h.keep fun gm _ hm => hb.block gm hm.lt
theorem MSt.only {w w' : World} {B N gf : Nat} {mo : Option Nat} {f : List UInt8 → Option Value} {arr : Array Value} {ty : TypeId} (h : MSt w B N mo f) (hf : Blk w gf arr ty) (hk : KeepG gf w w') : MSt w' B N mo f := h.keep fun gm _ hm => hk gm (fun e => hm.ne_row hf e.symm)
theorem MSt.mono {w : World} {B N N' : Nat} {mo : Option Nat} {f : List UInt8 → Option Value} (h : MSt w B N mo f) (hn : N ≤ N') : MSt w B N' mo f := h.imp id (fun ⟨gm, n, h1, h2, h3, h4⟩ => ⟨gm, n, h1, h2, Nat.le_trans h3 hn, h4⟩)
theorem KeepG.row {w w' : World} {g B s n : Nat} {e : TypeId} {v : Value} {xs : List Value} (h : KeepG g w w') (hr : w.ownsRow B e s v n xs) (hB : g < B) : w'.ownsRow B e s v n xs :=
  ⟨hr.1, hr.2.imp id (fun ⟨g', cap, cur, h1, h2, h3, h4⟩ => ⟨g', cap, cur, h1, h2, (h g' (by omega)).trans h3, h4⟩)⟩
theorem NsR.only {w w' : World} {B gf : Nat} {v : Value} {l : List Src} (h : NsR w B v l) (hk : KeepG gf w w') (hB : gf < B) : NsR w' B v l := by
  obtain ⟨vs, hv, hr, hc⟩ := h
  exact ⟨vs, hv, hk.row hr hB, fun k s x hs hx => hk.row (hc k s x hs hx) hB⟩

theorem zero_ns (w : World) : (zeroValue 102).run Try.prog w = .ok (.slice none 0 0) w := by kernel_rfl
theorem look_v {w : World} {gm n : Nat} {f : List UInt8 → Option Value} {v : Value} (hM : MapF Try.prog 9 w gm n f) (K : List UInt8) (KB : ByteArray) (hK : KB.data.toList = K) (hs : KB.size ≤ maxLen) (hv : (f K).getD (.slice none 0 0) = v) :
    (Instr.lookup 103 (.map (some gm)) (.string KB) false).run Try.prog w = .ok v w := by
  have h := hM.look (t := 103) (e := 102) Try.underlying9 Try.underlying103 (zero_ns w) KB hs false (f K) (by rw [hK])
  rw [hv] at h
  simpa using h

end Go.Proofs.Ytabeklpllphiaaa
