/-
  WALKS: ReadResolv of an empty text.
-/
import Derived.Test.YtfkohahlpfejbaaDoorResE
import Derived.Test.YtfkohahlpfejbaaDoorSet12
import Derived.BigRegion
import Derived.StillTailTactics
namespace Go.Proofs.YtfkohahlpfejbaaDoor
open Go.RowKit

/-- the defaults, as ReadResolv hands them back -/
def resA (vs vq : Value) : Array Value := #[vs, vq, .int .i64 1, .int .i64 5, .int .i64 2, .bool false, .bool false, .bool false, .bool false, .bool false, .bool false, .slice none 0 0]
def resE (vs vq : Value) : Value := .agg (resA vs vq)
def resZ : Array Value := #[.slice none 0 0, .slice none 0 0, .int .i64 0, .int .i64 0, .int .i64 0, .bool false, .bool false, .bool false, .bool false, .bool false, .bool false, .slice none 0 0]

set_option maxRecDepth 100000 in
set_option maxHeartbeats 2000000 in
theorem rrp_empty (s hn : ByteArray) (w : World) (h : s.size = 0) (hs : hn.size ≤ 17592186044416) :
    Calls Tryd.prog 50 #[.string s, .string hn] w fun e w' => ∃ vs vq, e = .returned (resE vs vq) ∧ Below w.heap.size w w' ∧ Strs w' w.heap.size vs [pl.ns1, pl.ns2] ∧ Strs w' w.heap.size vq (pl.defS hn.data.toList) := by
  go_enter Tryd.func50, Tryd.ntmps50
  go_wp2_with fail
  have hB0 := Blk.new w resZ 73
  have hb0 : Below w.heap.size w (w.alloc (.cells resZ 73)) := (Below.refl _ _).alloc (Nat.le_refl _) _
  have hs0 : (w.alloc (.cells resZ 73)).heap.size = w.heap.size + 1 := by show (w.heap.push _).size = _; simp
  change Calls _ _ _ ((w.alloc (.cells resZ 73)).alloc _) _
  generalize w.alloc (.cells resZ 73) = W at hB0 hb0 hs0 ⊢
  have hF := Blk.new W #[.string s] 105
  have hB1 := hB0.alloc (.cells #[.string s] 105)
  have hb1 : Below w.heap.size w (W.alloc (.cells #[.string s] 105)) := hb0.alloc (by omega) _
  rw [← hs0]
  generalize W.alloc (.cells #[.string s] 105) = V at hF hB1 hb1 ⊢
  refine (drc_empty W.heap.size s hn V h (hF.cell 0) hs).mono ?_
  rintro e V2 ⟨rfl, hb2, vs, vq, hC, hS, hQ⟩
  obtain ⟨a1, k1, rfl, _⟩ := hS.form
  obtain ⟨a2, k2, rfl, _⟩ := hQ.form
  have hB2 := hB1.below hb2 hB1.lt
  have hb3 := hb1.trans (hb2.mono hb1.size)
  have hVg : w.heap.size < V.heap.size := hB1.lt
  clear hB0 hb0 hF hB1 hb1 hb2
  have c0 : V2.drew.cell? ⟨V.heap.size, 0, none⟩ = some (.slice a1 2 k1) := hC.cell 0
  have c1 : V2.drew.cell? ⟨V.heap.size, 1, none⟩ = some (.slice a2 (pl.defS hn.data.toList).length k2) := hC.cell 1
  have c2 : V2.drew.cell? ⟨V.heap.size, 2, none⟩ = some (.int .i64 1) := hC.cell 2
  have c3 : V2.drew.cell? ⟨V.heap.size, 3, none⟩ = some (.int .i64 5) := hC.cell 3
  have c4 : V2.drew.cell? ⟨V.heap.size, 4, none⟩ = some (.int .i64 2) := hC.cell 4
  have c5 : V2.drew.cell? ⟨V.heap.size, 5, none⟩ = some (.bool false) := hC.cell 5
  have c6 : V2.drew.cell? ⟨V.heap.size, 6, none⟩ = some (.bool false) := hC.cell 6
  have c7 : V2.drew.cell? ⟨V.heap.size, 7, none⟩ = some (.slice none 0 0) := hC.cell 7
  have c8 : V2.drew.cell? ⟨V.heap.size, 8, none⟩ = some (.bool false) := hC.cell 8
  have c9 : V2.drew.cell? ⟨V.heap.size, 9, none⟩ = some (.bool false) := hC.cell 9
  have c10 : V2.drew.cell? ⟨V.heap.size, 10, none⟩ = some (.bool false) := hC.cell 10
  have c11 : V2.drew.cell? ⟨V.heap.size, 11, none⟩ = some (.bool false) := hC.cell 11
  go_wp2_with fail
  go_still_tail 49, (by kernel_rfl)
  clear c0 c1 c2 c3 c4 c5 c6 c7 c8 c9 c10 c11 hC
  have hB3 : Blk V2.drew w.heap.size resZ 73 := hB2
  have hS3 : Strs V2.drew V.heap.size (.slice a1 2 k1) [pl.ns1, pl.ns2] := hS
  have hQ3 : Strs V2.drew V.heap.size (.slice a2 (pl.defS hn.data.toList).length k2) (pl.defS hn.data.toList) := hQ
  have hb4 : Below w.heap.size w V2.drew := hb3.drew
  change wpList _ _ _ _ _ V2.drew
  generalize V2.drew = V3 at hB3 hS3 hQ3 hb4 ⊢
  have z0 : V3.cell? ⟨w.heap.size, 0, none⟩ = some (.slice none 0 0) := hB3.cell 0
  have z1 : V3.cell? ⟨w.heap.size, 1, none⟩ = some (.slice none 0 0) := hB3.cell 1
  have z2 : V3.cell? ⟨w.heap.size, 2, none⟩ = some (.int .i64 0) := hB3.cell 2
  have z3 : V3.cell? ⟨w.heap.size, 3, none⟩ = some (.int .i64 0) := hB3.cell 3
  have z4 : V3.cell? ⟨w.heap.size, 4, none⟩ = some (.int .i64 0) := hB3.cell 4
  have z5 : V3.cell? ⟨w.heap.size, 5, none⟩ = some (.bool false) := hB3.cell 5
  have z6 : V3.cell? ⟨w.heap.size, 6, none⟩ = some (.bool false) := hB3.cell 6
  have z7 : V3.cell? ⟨w.heap.size, 7, none⟩ = some (.bool false) := hB3.cell 7
  have z8 : V3.cell? ⟨w.heap.size, 8, none⟩ = some (.bool false) := hB3.cell 8
  have z9 : V3.cell? ⟨w.heap.size, 9, none⟩ = some (.bool false) := hB3.cell 9
  have z10 : V3.cell? ⟨w.heap.size, 10, none⟩ = some (.bool false) := hB3.cell 10
  have z11 : V3.cell? ⟨w.heap.size, 11, none⟩ = some (.slice none 0 0) := hB3.cell 11
  have fz : ∀ k, V3.frozen? ⟨w.heap.size, k, none⟩ = false := fun k => hB3.frozen k
  go_wp2_with fail
  clear z0 z1 z2 z3 z4 z5 z6 z7 z8 z9 z10 z11 fz
  obtain ⟨hB5, hb5, hS5⟩ := set12 (x0 := .slice a1 2 k1) (x1 := .slice a2 (pl.defS hn.data.toList).length k2) (x2 := .int .i64 1) (x3 := .int .i64 5) (x4 := .int .i64 2) (x5 := .bool false) (x6 := .bool false) (x7 := .bool false) (x8 := .bool false) (x9 := .bool false) (x10 := .bool false) (x11 := .slice none 0 0) hB3
  have hb6 := hb5 _ _ hb4 (Nat.le_refl _)
  have hS6 := hS5 _ _ _ hS3 hVg
  have hQ6 := hS5 _ _ _ hQ3 hVg
  clear hB3 hb5 hS5 hS3 hQ3 hb4
  revert hB5 hb6 hS6 hQ6
  generalize (World.setCell _ _ _) = V9
  intro hB5 hb6 hS6 hQ6
  (try simp only [Exit.inBlock, Exit.then]); refine bodyPost_ret (results_cell_row rfl _ _ w.heap.size _ _ _ _ rfl hB5 Tryd.underlying73 rfl (by kernel_rfl)) rfl ?_
  exact ⟨_, _, rfl, hb6, hS6.mono (Nat.le_of_lt hVg), hQ6.mono (Nat.le_of_lt hVg)⟩

end Go.Proofs.YtfkohahlpfejbaaDoor
