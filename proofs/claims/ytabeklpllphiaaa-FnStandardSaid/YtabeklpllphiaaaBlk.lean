/-
  WORDS FOR MEMORY: a whole block of cells (a struct that lies behind a pointer).
-/
import Derived.Test.YtabeklpllphiaaaByt
import Derived.Test.YtabeklpllphiaaaMem
namespace Go.Proofs.Ytabeklpllphiaaa
open Go.RowKit

/-- Block g holds these cells, none of them frozen. -/
def Blk (w : World) (g : Nat) (arr : Array Value) (ty : TypeId) : Prop := w.heap[g]? = some (.cells arr ty (0, 0))

theorem Blk.new (w : World) (arr : Array Value) (ty : TypeId) : Blk (w.alloc (.cells arr ty)) w.heap.size arr ty := by
  show (w.heap.push _)[w.heap.size]? = _
  simp
theorem Blk.lt {w : World} {g : Nat} {arr : Array Value} {ty : TypeId} (h : Blk w g arr ty) : g < w.heap.size := (Array.getElem?_eq_some_iff.1 h).1
theorem Blk.cell {w : World} {g : Nat} {arr : Array Value} {ty : TypeId} (h : Blk w g arr ty) (k : Nat) : w.cell? ⟨g, k, none⟩ = arr[k]? := by
  unfold Blk at h
  simp [World.cell?, h]
theorem Blk.frozen {w : World} {g : Nat} {arr : Array Value} {ty : TypeId} (h : Blk w g arr ty) (k : Nat) : w.frozen? ⟨g, k, none⟩ = false := by
  unfold Blk at h
  simp [World.frozen?, h]
theorem Blk.set {w : World} {g : Nat} {arr : Array Value} {ty : TypeId} (h : Blk w g arr ty) (k : Nat) (v : Value) : Blk (w.setCell ⟨g, k, none⟩ v) g (arr.setIfInBounds k v) ty := by
  unfold Blk at h ⊢
  simp [World.setCell, Array.getElem?_modify, h]
theorem Blk.keep {w w' : World} {g : Nat} {arr : Array Value} {ty : TypeId} (h : Blk w g arr ty) (hk : w'.heap[g]? = w.heap[g]?) : Blk w' g arr ty := by
  unfold Blk at h ⊢
  rw [hk]; exact h
theorem Blk.below {w w' : World} {B g : Nat} {arr : Array Value} {ty : TypeId} (h : Blk w g arr ty) (hb : Below B w w') (hg : g < B) : Blk w' g arr ty := h.keep (hb.block g hg)
theorem Blk.drewN {w : World} {g : Nat} {arr : Array Value} {ty : TypeId} (h : Blk w g arr ty) (n : Nat) : Blk (w.drewN n) g arr ty := h.keep rfl
theorem Blk.alloc {w : World} {g : Nat} {arr : Array Value} {ty : TypeId} (h : Blk w g arr ty) (o : Obj) : Blk (w.alloc o) g arr ty :=
  h.below ((Below.refl _ _).alloc (Nat.le_refl _) o) h.lt
theorem Blk.other {w : World} {g : Nat} {arr : Array Value} {ty : TypeId} (h : Blk w g arr ty) (g' k : Nat) (v : Value) (hne : g' ≠ g) : Blk (w.setCell ⟨g', k, none⟩ v) g arr ty :=
  h.keep (by simp [World.setCell, Array.getElem?_modify, hne])

theorem setCell_far (w : World) (g k g' : Nat) (v : Value) (hne : g ≠ g') : (w.setCell ⟨g, k, none⟩ v).heap[g']? = w.heap[g']? := by
  simp [World.setCell, Array.getElem?_modify, hne]

/-- A store below the base of an owned row leaves it. -/
theorem ownsRow_far {w : World} {B : Nat} {e : TypeId} {size : Nat} {v : Value} {n : Nat} {xs : List Value} (h : w.ownsRow B e size v n xs) (g k : Nat) (x : Value) (hg : g < B) : (w.setCell ⟨g, k, none⟩ x).ownsRow B e size v n xs :=
  ⟨h.1, h.2.imp id (fun ⟨g', cap, cur, h1, h2, h3, h4⟩ => ⟨g', cap, cur, h1, h2, (setCell_far w g k g' x (by omega)).trans h3, h4⟩)⟩
theorem Strs.far {w : World} {B : Nat} {v : Value} {l : List (List UInt8)} (h : Strs w B v l) (g k : Nat) (x : Value) (hg : g < B) : Strs (w.setCell ⟨g, k, none⟩ x) B v l := ownsRow_far h g k x hg
theorem Strs.mono {w : World} {B B' : Nat} {v : Value} {l : List (List UInt8)} (h : Strs w B v l) (hb : B' ≤ B) : Strs w B' v l :=
  ⟨h.1, h.2.imp id (fun ⟨g, cap, cur, h1, h2, h3⟩ => ⟨g, cap, cur, h1, Nat.le_trans hb h2, h3⟩)⟩

end Go.Proofs.Ytabeklpllphiaaa
