/-
  WORDS FOR MEMORY: slices that read as bytes; rows of bytes that the call owns.
-/
import Derived.Test.YtabeklpllphiaaaRows
import Derived.WalkKit
import Derived.WalkSpells
import Derived.WalkLawsBesides
import Derived.OwnWalk
import Derived.Lib.Hide
import Derived.Lib.BufferRead
import Derived.Outline
import Derived.BigQuiet
import Derived.Laws.IdiomStrings
import Derived.Test.YtabeklpllphiaaaPl
namespace Go.Proofs.Ytabeklpllphiaaa
open Go.RowKit

theorem infoByte : (Try.prog.info? 5).map (fun i => (i.zero, i.size, i.bytes)) = some (some (.int .u8 0), 1, 1) := by kernel_rfl

def pl.byteV (b : UInt8) : Value := .int .u8 (b.toNat : Int)

/-- What a row's step says of a slice of integers that came in. -/
def IsRow (k : IntKind) (w : World) (a : Option Addr) (len cap : Nat) (zs : List Int) : Prop :=
  (a = none ∧ len = 0 ∧ cap = 0 ∧ zs = []) ∨
  ∃ x, a = some x ∧ len ≤ cap ∧ cap ≤ maxLen ∧ zs.length = cap ∧ (∀ i, i < zs.length → w.cell? (x.add i) = some (.int k (zs.getD i 0))) ∧ ∀ n ∈ zs, (Lit.int k n).wf = true

/-- The slice value v reads as the bytes l. -/
def Reads (w : World) (v : Value) (l : List UInt8) : Prop :=
  ∃ a cap, v = .slice a l.length cap ∧ l.length ≤ cap ∧ cap ≤ maxLen ∧ (a = none → cap = 0) ∧ ∀ k b, l[k]? = some b → ∃ g o, a = some ⟨g, o, none⟩ ∧ g < w.heap.size ∧ w.cell? ⟨g, o + k, none⟩ = some (pl.byteV b)

theorem below_cell {w w' : World} (hb : Below w.heap.size w w') (g o : Nat) (hg : g < w.heap.size) : w'.cell? ⟨g, o, none⟩ = w.cell? ⟨g, o, none⟩ := by
  simp only [World.cell?, hb.block g hg]

theorem Reads.below {w w' : World} {v : Value} {l : List UInt8} (h : Reads w v l) (hb : Below w.heap.size w w') : Reads w' v l := by
  obtain ⟨a, cap, hv, h1, h2, h0, h3⟩ := h
  refine ⟨a, cap, hv, h1, h2, h0, fun k b hk => ?_⟩
  obtain ⟨g, o, ha, hg, hc⟩ := h3 k b hk
  have := hb.size
  exact ⟨g, o, ha, by omega, by rw [below_cell hb g _ hg]; exact hc⟩

theorem Reads.of_row {w : World} {a : Option Addr} {len cap : Nat} {zs : List Int} (h : IsRow .u8 w a len cap zs) : ∃ l : List UInt8, l.length = len ∧ Reads w (.slice a len cap) l := by
  rcases h with ⟨rfl, rfl, rfl, rfl⟩ | ⟨x, rfl, hl, hm, hz, hc, hw⟩
  · exact ⟨[], rfl, none, 0, rfl, Nat.le_refl _, Nat.zero_le _, fun _ => rfl, fun k b hk => by simp at hk⟩
  · have hlen : ((zs.take len).map (fun z => UInt8.ofNat z.toNat)).length = len := by simp; omega
    refine ⟨(zs.take len).map (fun z => UInt8.ofNat z.toNat), hlen, some x, cap, by rw [hlen], by rw [hlen]; exact hl, hm, (fun h => by simp at h), ?_⟩
    intro k b hk
    have hk' : k < len := by
      have := (List.getElem?_eq_some_iff.1 hk).1
      rwa [hlen] at this
    have hkz : k < zs.length := by omega
    obtain ⟨g, o, spot⟩ := x
    have hcell := hc k hkz
    have hspot : spot = none := by simpa [Addr.add] using World.cell?_spot (hc 0 (by omega))
    subst hspot
    rw [Addr.add_lit] at hcell
    refine ⟨g, o, rfl, ?_, ?_⟩
    · rcases Nat.lt_or_ge g w.heap.size with h | h
      · exact h
      · simp [World.cell?, Array.getElem?_eq_none h] at hcell
    · rw [hcell]
      have hwf := hw (zs.getD k 0) (by rw [List.getD_eq_getElem?_getD, List.getElem?_eq_getElem hkz]; exact List.getElem_mem hkz)
      have he : zs.getD k 0 = zs[k] := by rw [List.getD_eq_getElem?_getD, List.getElem?_eq_getElem hkz]; rfl
      rw [he] at hwf ⊢
      have hb : UInt8.ofNat zs[k].toNat = b := by
        rw [List.getElem?_map, List.getElem?_take, if_pos hk', List.getElem?_eq_getElem hkz] at hk
        simpa using hk
      have hr : 0 ≤ zs[k] ∧ zs[k] < 256 := by
        have := hwf
        simp [Lit.wf, IntKind.min, IntKind.max, IntKind.bits, IntKind.signed] at this
        omega
      rw [← hb]
      show some (Value.int .u8 zs[k]) = some (Value.int .u8 ((UInt8.ofNat zs[k].toNat).toNat : Int))
      have : ((UInt8.ofNat zs[k].toNat).toNat : Int) = zs[k] := by simp; omega
      rw [this]

/-- The slice value v owns the bytes l, from block B on. -/
def Byts (w : World) (B : Nat) (v : Value) (l : List UInt8) : Prop := w.ownsRow B 5 1 v l.length (l.map pl.byteV)

theorem Byts.nil (w : World) (B : Nat) : Byts w B (.slice none 0 0) [] := World.ownsRow_nil _ _ _ _

theorem Byts.below {w w' : World} {B : Nat} {v : Value} {l : List UInt8} (h : Byts w B v l) (hb : Below w.heap.size w w') : Byts w' B v l :=
  World.ownsRow.kept (row := none) h ⟨hb.os, hb.tape, hb.output, hb.size, fun k hk _ => hb.block k hk⟩ (by cases v.ownBlock <;> simp)

theorem Byts.reads {w : World} {B : Nat} {v : Value} {l : List UInt8} (h : Byts w B v l) : Reads w v l := by
  have h0 := h
  rcases h.2 with ⟨rfl, hn⟩ | ⟨g, cap, cur, rfl, hg, hh, hnc, hcm, _⟩
  · exact ⟨none, 0, by rw [hn], by omega, Nat.zero_le _, fun _ => rfl, fun k b hk => by
      have : l = [] := List.eq_nil_of_length_eq_zero hn
      rw [this] at hk
      simp at hk⟩
  · refine ⟨_, cap, rfl, hnc, hcm, (fun h => by simp at h), ?_⟩
    intro k b hk
    have hc := World.ownsRow.cells h0 (g := g) rfl k (pl.byteV b) (by simp [hk])
    rw [Addr.add_lit] at hc
    exact ⟨g, 0, rfl, (Array.getElem?_eq_some_iff.1 hh).1, hc⟩

theorem Byts.mono {w : World} {B B' : Nat} {v : Value} {l : List UInt8} (h : Byts w B v l) (hb : B' ≤ B) : Byts w B' v l :=
  ⟨h.1, h.2.imp id (fun ⟨g, cap, cur, h1, h2, h3⟩ => ⟨g, cap, cur, h1, Nat.le_trans hb h2, h3⟩)⟩

/-- An owned row at its head: a store, and what the walk asks ahead of it. -/
theorem Byts.set {w : World} {B g n cap : Nat} {l : List UInt8} (h : Byts w B (.slice (some ⟨g, 0, none⟩) n cap) l) (hl : l.length = n) (j : Nat) (u : UInt8) :
    Byts (w.setCell ⟨g, j, none⟩ (.int .u8 (u.toNat : Int))) B (.slice (some ⟨g, 0, none⟩) n cap) (l.set j u) := by
  subst hl
  have := (World.ownsRow.stored h j (pl.byteV u)).1
  unfold Byts
  rw [List.map_set, List.length_set]
  exact this

theorem Byts.cell {w : World} {B g n cap : Nat} {l : List UInt8} (h : Byts w B (.slice (some ⟨g, 0, none⟩) n cap) l) (hl : l.length = n) (j : Nat) (hj : j < n) : ∃ x, w.cell? ⟨g, j, none⟩ = some x := by
  subst hl
  have := World.ownsRow.cellAt h j (by simpa using hj)
  rw [this]
  exact ⟨pl.byteV l[j], by rw [List.getElem?_map, List.getElem?_eq_getElem hj]; rfl⟩

theorem Byts.frozen {w : World} {B g n cap : Nat} {l : List UInt8} (h : Byts w B (.slice (some ⟨g, 0, none⟩) n cap) l) (hl : l.length = n) (j : Nat) : w.frozen? ⟨g, j, none⟩ = false := by
  subst hl
  exact World.ownsRow.frozenAt h j

theorem Byts.drew {w : World} {B : Nat} {v : Value} {l : List UInt8} (h : Byts w B v l) : Byts w.drew B v l := h

theorem Byts.made {w : World} {B g n : Nat} (h : w.ownsRow B 5 1 (.slice (some ⟨g, 0, none⟩) n n) n (madeCells (Value.int .u8 0).cells (n * 1)).toList) : Byts w B (.slice (some ⟨g, 0, none⟩) n n) (List.replicate n 0) := by
  unfold Byts
  rw [List.length_replicate, List.map_replicate]
  have e : (madeCells (Value.int .u8 0).cells (n * 1)).toList = List.replicate n (Value.int .u8 0) := by
    rw [Nat.mul_one]; exact toList_madeCells_one _ _
  rw [e] at h; exact h

/-- 'string(b)'. -/
theorem conv_back {P : Program} {w : World} {v : Value} {l : List UInt8} (src dst e : TypeId) (hs : P.underlying src = some (.slice e)) (he : P.underlying e = some (.int .u8)) (hd : P.underlying dst = some .string) (h : Reads w v l) :
    (convert src dst v).run P w = .ok (.string ⟨l.toArray⟩) w := by
  obtain ⟨a, cap, rfl, h1, h2, h0, h3⟩ := h
  rcases a with _ | x
  · have hl : l = [] := List.eq_nil_of_length_eq_zero (by have := h0 rfl; omega)
    subst hl
    exact Lib.run_convert_nil_bytes w src dst e cap hs he hd
  · refine run_convert_bytes_back w src dst e x cap l hs he hd (fun j hj => ?_)
    obtain ⟨g, o, ha, _, hc⟩ := h3 j _ (List.getElem?_eq_getElem hj)
    injection ha with ha
    subst ha
    rw [Addr.add_lit]
    exact hc

/-- 'out = append(out, b)' of one byte. -/
theorem app_byte {ops : Array Oper} {rest : List Oper} {o : Oper} {a : Act} {Q : Exit → Act → World → Prop} {w wr : World} {v : Value} {l : List UInt8} {x : Value} (b : UInt8) (t : TypeId) (hu : Try.prog.underlying t = some (.slice 5))
    (hgd : o.guard = none) (s y : Operand) (ho : o.op = .call { callee := .builtin .append, args := #[s, y], argTypes := #[t, t] })
    (hs : a.eval s = v) (B : Nat) (hown : Byts wr B v l) (hy : a.eval y = .slice (some ⟨wr.heap.size, 0, none⟩) 1 1) (hp : x = pl.byteV b) (hlen : l.length < 70368744177664) (hb : Below B w wr) (hB : B ≤ w.heap.size)
    (h : ∀ v' w', Byts w' B v' (l ++ [b]) → Below B w w' → wpList Try.prog ops Q rest (a.put o.dst v') w') : wpList Try.prog ops Q (o :: rest) a (wr.alloc (.cells #[x] 5)) := by
  obtain ⟨i0, hi, hz0, hz1, hz2⟩ := info_parts infoByte
  have hsz := hb.size
  refine wpList_append_own _ hgd s y t ho B 5 i0 (.int .u8 0) 1 1 hu hi hz0 hz1 hz2 rfl (by decide) v l.length (l.map pl.byteV) hs (World.ownsRow.alloc hown _) ⟨wr.heap.size, 0, none⟩ 1 1 [x] hy rfl (cell_one_new _ _ _) ?_ ?_ ?_ ?_ ?_
  · intro u hu
    rw [List.mem_singleton] at hu
    subst hu
    rw [hp]
    rfl
  · unfold maxLen; omega
  · omega
  · simp; omega
  · intro v' w' h1 h2 _
    refine h v' w' ?_ ?_
    · subst hp
      unfold Byts
      rw [List.length_append, List.map_append]
      exact h1
    · have hb2 : Below B w (wr.alloc (.cells #[x] 5)) := hb.alloc (by omega) _
      exact hb2.grown h2 (by simp; omega) (fun k hk => ((World.ownsRow.lt hown) k hk).1)

end Go.Proofs.Ytabeklpllphiaaa
