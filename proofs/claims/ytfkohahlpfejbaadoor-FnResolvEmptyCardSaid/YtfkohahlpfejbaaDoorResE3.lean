/-
  WALKS: the thin package's ReadResolv of an empty text.
-/
import Derived.Test.YtfkohahlpfejbaaDoorResE2
namespace Go.Proofs.YtfkohahlpfejbaaDoor
open Go.RowKit

set_option maxRecDepth 100000 in
set_option maxHeartbeats 2000000 in
theorem rri_empty (s hn : ByteArray) (w : World) (h : s.size = 0) (hs : hn.size ≤ 17592186044416) :
    Calls Tryd.prog 23 #[.string s, .string hn] w fun e w' => ∃ vs vq, e = .returned (resE vs vq) ∧ Below w.heap.size w w' ∧ Strs w' w.heap.size vs [pl.ns1, pl.ns2] ∧ Strs w' w.heap.size vq (pl.defS hn.data.toList) := by
  go_enter Tryd.func23, Tryd.ntmps23
  go_wp2_with fail
  have hB0 := Blk.new w resZ 41
  have hb0 : Below w.heap.size w (w.alloc (.cells resZ 41)) := (Below.refl _ _).alloc (Nat.le_refl _) _
  have hs0 : (w.alloc (.cells resZ 41)).heap.size = w.heap.size + 1 := by show (w.heap.push _).size = _; simp
  change Calls _ _ _ (w.alloc (.cells resZ 41)) _
  generalize w.alloc (.cells resZ 41) = W at hB0 hb0 hs0 ⊢
  refine (rrp_empty s hn W h hs).mono ?_
  rintro e V2 ⟨vs, vq, rfl, hb2, hS, hQ⟩
  obtain ⟨a1, k1, rfl, _⟩ := hS.form
  obtain ⟨a2, k2, rfl, _⟩ := hQ.form
  have hB2 := hB0.below hb2 hB0.lt
  have hb3 := hb0.trans (hb2.mono hb0.size)
  clear hB0 hb0 hb2
  have z0 : V2.cell? ⟨w.heap.size, 0, none⟩ = some (.slice none 0 0) := hB2.cell 0
  have z1 : V2.cell? ⟨w.heap.size, 1, none⟩ = some (.slice none 0 0) := hB2.cell 1
  have z2 : V2.cell? ⟨w.heap.size, 2, none⟩ = some (.int .i64 0) := hB2.cell 2
  have z3 : V2.cell? ⟨w.heap.size, 3, none⟩ = some (.int .i64 0) := hB2.cell 3
  have z4 : V2.cell? ⟨w.heap.size, 4, none⟩ = some (.int .i64 0) := hB2.cell 4
  have z5 : V2.cell? ⟨w.heap.size, 5, none⟩ = some (.bool false) := hB2.cell 5
  have z6 : V2.cell? ⟨w.heap.size, 6, none⟩ = some (.bool false) := hB2.cell 6
  have z7 : V2.cell? ⟨w.heap.size, 7, none⟩ = some (.bool false) := hB2.cell 7
  have z8 : V2.cell? ⟨w.heap.size, 8, none⟩ = some (.bool false) := hB2.cell 8
  have z9 : V2.cell? ⟨w.heap.size, 9, none⟩ = some (.bool false) := hB2.cell 9
  have z10 : V2.cell? ⟨w.heap.size, 10, none⟩ = some (.bool false) := hB2.cell 10
  have z11 : V2.cell? ⟨w.heap.size, 11, none⟩ = some (.slice none 0 0) := hB2.cell 11
  have fz : ∀ k, V2.frozen? ⟨w.heap.size, k, none⟩ = false := fun k => hB2.frozen k
  have hlt := hB2.lt
  unfold resE resA
  go_wp2_with fail
  (try simp only [Exit.inBlock, Exit.then])
  obtain ⟨hB5, hb5, hS5⟩ := set12 (x0 := .slice a1 2 k1) (x1 := .slice a2 (pl.defS hn.data.toList).length k2) (x2 := .int .i64 1) (x3 := .int .i64 5) (x4 := .int .i64 2) (x5 := .bool false) (x6 := .bool false) (x7 := .bool false) (x8 := .bool false) (x9 := .bool false) (x10 := .bool false) (x11 := .slice none 0 0) hB2
  have hWg : w.heap.size < W.heap.size := by omega
  have hb6 := hb5 _ _ hb3 (Nat.le_refl _)
  have hS6 := hS5 _ _ _ hS hWg
  have hQ6 := hS5 _ _ _ hQ hWg
  clear hb5 hS5 hS hQ hb3 hB2 z0 z1 z2 z3 z4 z5 z6 z7 z8 z9 z10 z11 fz
  revert hB5 hb6 hS6 hQ6
  generalize (World.setCell _ _ _) = V9
  intro hB5 hb6 hS6 hQ6
  have hba := (Below.refl V9.heap.size V9).alloc (Nat.le_refl _) (.cells #[.slice a1 2 k1, .slice a2 (pl.defS hn.data.toList).length k2, .int .i64 1, .int .i64 5, .int .i64 2, .bool false, .bool false, .bool false, .bool false, .bool false, .bool false, .slice none 0 0] 73)
  have hB7 := hB5.alloc (.cells #[.slice a1 2 k1, .slice a2 (pl.defS hn.data.toList).length k2, .int .i64 1, .int .i64 5, .int .i64 2, .bool false, .bool false, .bool false, .bool false, .bool false, .bool false, .slice none 0 0] 73)
  refine bodyPost_ret (results_cell_row rfl _ _ w.heap.size _ _ _ _ rfl hB7 Tryd.underlying41 rfl (by kernel_rfl)) rfl ?_
  exact ⟨_, _, rfl, hb6.trans (hba.mono hb6.size), (hS6.below hba).mono (Nat.le_of_lt hWg), (hQ6.below hba).mono (Nat.le_of_lt hWg)⟩

end Go.Proofs.YtfkohahlpfejbaaDoor
