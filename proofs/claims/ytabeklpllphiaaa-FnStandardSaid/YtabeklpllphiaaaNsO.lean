/-
  WORDS FOR MEMORY: rows of sources as they are handed back; a lookup by its value.
-/
import Derived.Test.YtabeklpllphiaaaNsQ
namespace Go.Proofs.Ytabeklpllphiaaa
open Go.RowKit

/-- a source with its mark -/
abbrev SrcB := Src × Bool
def pl.sB (s : Src) : SrcB := (pl.lowS s, pl.stdC (pl.lowS s).2)
def soCells (p : (List UInt8 × Bool) × Value) : List Value := [pl.strV p.1.1, p.2, .bool p.1.2]
def soRow (l : List SrcB) (vs : List Value) : List Value := ((l.map (fun s => (s.1.1, s.2))).zip vs).flatMap soCells
def SoR (w : World) (B : Nat) (ts tc : TypeId) (v : Value) (l : List SrcB) : Prop :=
  ∃ vs : List Value, vs.length = l.length ∧ w.ownsRow B ts 3 v l.length (soRow l vs) ∧ ∀ (k : Nat) s x, l[k]? = some s → vs[k]? = some x → Crs w B tc x s.1.2
theorem SoR.nil (w : World) (B : Nat) (ts tc : TypeId) : SoR w B ts tc (.slice none 0 0) [] := ⟨[], rfl, World.ownsRow_nil _ _ _ _, fun k s x h => by simp at h⟩
theorem SoR.below {w w' : World} {B : Nat} {ts tc : TypeId} {v : Value} {l : List SrcB} (h : SoR w B ts tc v l) (hb : Below w.heap.size w w') : SoR w' B ts tc v l := by
  obtain ⟨vs, hv, hr, hc⟩ := h
  exact ⟨vs, hv, Row.below hr hb, fun k s x hs hx => (hc k s x hs hx).below hb⟩
theorem SoR.mono {w : World} {B B' : Nat} {ts tc : TypeId} {v : Value} {l : List SrcB} (h : SoR w B ts tc v l) (hb : B' ≤ B) : SoR w B' ts tc v l := by
  obtain ⟨vs, hv, hr, hc⟩ := h
  exact ⟨vs, hv, Row.mono hr hb, fun k s x hs hx => (hc k s x hs hx).mono hb⟩
theorem SoR.keepT {T : TypeId} {w w' : World} {B : Nat} {ts tc : TypeId} {v : Value} {l : List SrcB} (h : SoR w B ts tc v l) (hk : KeepT T w w') (h1 : ts ≠ T) (h2 : tc ≠ T) : SoR w' B ts tc v l := by
  obtain ⟨vs, hv, hr, hc⟩ := h
  exact ⟨vs, hv, Row.keepT hr hk h1, fun k s x hs hx => (hc k s x hs hx).keepT hk h2⟩
theorem SoR.push {w w' : World} {B : Nat} {ts tc : TypeId} {v' : Value} {l : List SrcB} {vs : List Value} (hne : tc ≠ ts) (hv : vs.length = l.length) (hc : ∀ (k : Nat) s x, l[k]? = some s → vs[k]? = some x → Crs w B tc x s.1.2) (hk : KeepT ts w w') (s : SrcB) (x : Value) (hx : Crs w B tc x s.1.2) (cs : List Value) (hcs : cs = [pl.strV s.1.1, x, .bool s.2])
    (hr : w'.ownsRow B ts 3 v' (l.length + 1) (soRow l vs ++ cs)) : SoR w' B ts tc v' (l ++ [s]) := by
  subst hcs
  refine ⟨vs ++ [x], by simp [hv], ?_, fun k t y ht hy => ?_⟩
  · have e : soRow (l ++ [s]) (vs ++ [x]) = soRow l vs ++ [pl.strV s.1.1, x, .bool s.2] := by
      unfold soRow
      rw [List.map_append, List.zip_append (by simp [hv]), List.flatMap_append]
      rfl
    rw [e, List.length_append]
    exact hr
  · by_cases hkl : k < l.length
    · rw [List.getElem?_append_left hkl] at ht
      rw [List.getElem?_append_left (by omega)] at hy
      exact (hc k t y ht hy).keepT hk hne
    · rw [List.getElem?_append_right (by omega)] at ht
      rw [List.getElem?_append_right (by omega)] at hy
      have h0 : k - l.length = 0 := by
        have := (List.getElem?_eq_some_iff.1 ht).1
        simp at this
        omega
      rw [h0] at ht
      rw [hv, h0] at hy
      simp at ht hy
      subst ht
      subst hy
      exact hx.keepT hk hne
theorem SoR.at {w : World} {B : Nat} {ts tc : TypeId} {v : Value} {l : List SrcB} (h : SoR w B ts tc v l) (k : Nat) (s : SrcB) (hk : l[k]? = some s) : ∃ g cap x, v = .slice (some ⟨g, 0, none⟩) l.length cap ∧ B ≤ g ∧ g < w.heap.size ∧ w.cell? ⟨g, k * 3, none⟩ = some (pl.strV s.1.1) ∧ w.cell? ⟨g, k * 3 + 1, none⟩ = some x ∧ w.cell? ⟨g, k * 3 + 2, none⟩ = some (.bool s.2) ∧ Crs w B tc x s.1.2 := by
  obtain ⟨vs, hv, hr, hc⟩ := h
  have hlt := (List.getElem?_eq_some_iff.1 hk).1
  obtain ⟨x, hx⟩ : ∃ x, vs[k]? = some x := ⟨_, List.getElem?_eq_getElem (by omega)⟩
  obtain ⟨g, cap, e, hb, hg, hcell⟩ := Row.cell hr (by omega)
  have hz : ((l.map (fun s => (s.1.1, s.2))).zip vs)[k]? = some ((s.1.1, s.2), x) := by
    rw [List.getElem?_zip_eq_some]
    exact ⟨by rw [List.getElem?_map, hk]; rfl, hx⟩
  have hf := fun i (hi : i < 3) => pl.flat_at soCells 3 (fun _ => rfl) _ k i _ hz hi
  exact ⟨g, cap, x, e, hb, hg, hcell _ _ (hf 0 (by omega)), hcell _ _ (hf 1 (by omega)), hcell _ _ (hf 2 (by omega)), hc k s x hk hx⟩
theorem SoR.form {w : World} {B : Nat} {ts tc : TypeId} {v : Value} {l : List SrcB} (h : SoR w B ts tc v l) : ∃ a cap, v = .slice a l.length cap := by
  obtain ⟨_, _, hr, _⟩ := h
  exact Row.shape hr

/-- 'm[k]' at the operation, by its value -/
theorem wpList_look_v {P : Program} (w : World) {ops : Array Oper} {rest : List Oper} {o : Oper} {a : Act} {Q : Exit → Act → World → Prop}
    (hg : o.guard = none) (m x : Operand) (t : TypeId) (hop : o.op = Op.lookup t m x false) (k e : TypeId) (hk : P.underlying k = some .string) (ht : P.underlying t = some (.map k e)) (b n : Nat) (f : List UInt8 → Option Value) (z : Value) (hz : (zeroValue e).run P w = .ok z w)
    (hm : a.eval m = .map (some b)) (hown : MapF P k w b n f) (s : ByteArray) (hs : s.size ≤ maxLen) (hx : a.eval x = .string s) (K : List UInt8) (hK : s.data.toList = K) (v : Value) (hv : (f K).getD z = v)
    (h : wpList P ops Q rest (a.put o.dst v) w) :
    wpList P ops Q (o :: rest) a w := by
  refine wpList_look w hg m x t false hop k e hk ht b n f z hz hm hown s hs hx (f K) (by rw [hK]) ?_
  rw [if_neg (by simp), hv]
  exact h

theorem infoPS : (Try.prog.info? 83).map (fun i => (i.zero, i.size, i.bytes)) = some (some (.agg #[.string ⟨#[]⟩, .slice none 0 0, .bool false]), 3, 48) := by kernel_rfl
theorem infoPC : (Try.prog.info? 84).map (fun i => (i.zero, i.size, i.bytes)) = some (some (.agg #[.bool false, .string ⟨#[]⟩, .string ⟨#[]⟩]), 3, 40) := by kernel_rfl
theorem infoIS : (Try.prog.info? 48).map (fun i => (i.zero, i.size, i.bytes)) = some (some (.agg #[.string ⟨#[]⟩, .slice none 0 0, .bool false]), 3, 48) := by kernel_rfl
theorem infoIC : (Try.prog.info? 53).map (fun i => (i.zero, i.size, i.bytes)) = some (some (.agg #[.bool false, .string ⟨#[]⟩, .string ⟨#[]⟩]), 3, 40) := by kernel_rfl

end Go.Proofs.Ytabeklpllphiaaa
