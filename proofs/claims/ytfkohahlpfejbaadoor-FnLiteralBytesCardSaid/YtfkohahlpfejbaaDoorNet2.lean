/-
  WALKS: net/netip: an address of 16 bytes.
-/
import Derived.Test.YtfkohahlpfejbaaDoorNet1
import Derived.Deep.RegionHeld3
namespace Go.Proofs.YtfkohahlpfejbaaDoor
open Go.RowKit

/-- 8 of 16 bytes of a block -/
theorem be64_lo (g : Nat) (l : List UInt8) (ty : TypeId) (W0 : World) (hl : l.length = 16) (h : BBlk W0 g l ty) (W : World) (hW : W.heap = W0.heap) :
    Calls Tryd.prog 119 #[.slice (some ⟨g, 0, none⟩) 8 16] W fun e w' => e = .returned (.int .u64 (pl.be (l.take 8) : Nat)) ∧ ∃ k, w' = W.drewN k := by
  have h' : BBlk W g l ty := by unfold BBlk Blk at h ⊢; rw [hW]; exact h
  match l, hl with
  | [b0, b1, b2, b3, b4, b5, b6, b7, b8, b9, b10, b11, b12, b13, b14, b15], _ =>
    exact be64_sp g 0 8 16 b0 b1 b2 b3 b4 b5 b6 b7 W (Nat.le_refl _) (h'.cell 0 (by simp)) (h'.cell 1 (by simp)) (h'.cell 2 (by simp)) (h'.cell 3 (by simp)) (h'.cell 4 (by simp)) (h'.cell 5 (by simp)) (h'.cell 6 (by simp)) (h'.cell 7 (by simp))
theorem be64_hi (g : Nat) (l : List UInt8) (ty : TypeId) (W0 : World) (hl : l.length = 16) (h : BBlk W0 g l ty) (W : World) (hW : W.heap = W0.heap) :
    Calls Tryd.prog 119 #[.slice (some ⟨g, 8, none⟩) 8 8] W fun e w' => e = .returned (.int .u64 (pl.be (l.drop 8) : Nat)) ∧ ∃ k, w' = W.drewN k := by
  have h' : BBlk W g l ty := by unfold BBlk Blk at h ⊢; rw [hW]; exact h
  match l, hl with
  | [b0, b1, b2, b3, b4, b5, b6, b7, b8, b9, b10, b11, b12, b13, b14, b15], _ =>
    exact be64_sp g 8 8 8 b8 b9 b10 b11 b12 b13 b14 b15 W (Nat.le_refl _) (h'.cell 8 (by simp)) (h'.cell 9 (by simp)) (h'.cell 10 (by simp)) (h'.cell 11 (by simp)) (h'.cell 12 (by simp)) (h'.cell 13 (by simp)) (h'.cell 14 (by simp)) (h'.cell 15 (by simp))

set_option maxHeartbeats 4000000 in
set_option maxRecDepth 100000 in
theorem af16_sp (g4 o4 g6 o6 : Nat) (l : List UInt8) (w : World) (hl : l.length = 16) (hI : IpVars w g4 o4 g6 o6) :
    Calls Tryd.prog 111 #[.agg (l.map pl.byteV).toArray] w fun e w' => e = .returned (ipV (pl.be (l.take 8)) (pl.be (l.drop 8)) g6 o6) ∧ Below w.heap.size w w' := by
  obtain ⟨x, hx⟩ : ∃ x, pl.be (l.take 8) = x := ⟨_, rfl⟩
  obtain ⟨y, hy⟩ : ∃ y, pl.be (l.drop 8) = y := ⟨_, rfl⟩
  rw [hx, hy]
  go_enter Tryd.func111, Tryd.ntmps111
  obtain ⟨arr, harr⟩ : ∃ arr, (l.map pl.byteV).toArray = arr := ⟨_, rfl⟩
  rw [harr]
  go_wp2_with fail
  have hB0 : Blk (w.alloc (Obj.cells arr 127)) w.heap.size arr 127 := Blk.new _ _ _
  have hB := hB0.alloc (Obj.cells #[Value.int IntKind.u64 0, Value.int IntKind.u64 0, Value.pointer none] 119)
  have hR := Blk.new (w.alloc (Obj.cells arr 127)) #[Value.int IntKind.u64 0, Value.int IntKind.u64 0, Value.pointer none] 119
  have hb1 : Below w.heap.size w ((w.alloc (Obj.cells arr 127)).alloc (Obj.cells #[Value.int IntKind.u64 0, Value.int IntKind.u64 0, Value.pointer none] 119)) := ((Below.refl _ _).alloc (Nat.le_refl _) _).alloc (by simp) _
  have hs1 : (w.alloc (Obj.cells arr 127)).heap.size = w.heap.size + 1 := by simp
  rw [hs1] at hR
  have hI1 := hI.below hb1 (Nat.le_refl _)
  generalize (w.alloc (Obj.cells arr 127)).alloc (Obj.cells #[Value.int IntKind.u64 0, Value.int IntKind.u64 0, Value.pointer none] 119) = W1 at *
  have hBB : BBlk W1 w.heap.size l 127 := by unfold BBlk; rw [harr]; exact hB
  obtain ⟨g, hg⟩ : ∃ g, w.heap.size = g := ⟨_, rfl⟩
  rw [hg] at hR hBB hb1 ⊢
  have hlo := be64_lo g l _ W1 hl hBB
  have hhi := be64_hi g l _ W1 hl hBB
  have hz := hI1.z6
  rw [hx] at hlo
  rw [hy] at hhi
  have hbo : ∀ (W : World) (o n c : Nat), W.heap = W1.heap → (o = 0 ∧ n = 8 ∧ c = 16) ∨ (o = 8 ∧ n = 8 ∧ c = 8) → Calls Tryd.prog 119 #[.slice (some ⟨g, o, none⟩) n c] W fun e w' => e = .returned (.int .u64 ((if o = 0 then x else y : Nat) : Int)) ∧ ∃ k, w' = W.drewN k := by
    rintro W o n c hW (⟨rfl, rfl, rfl⟩ | ⟨rfl, rfl, rfl⟩)
    · exact hlo W hW
    · exact hhi W hW
  have HBO := Lib.hid hbo
  have HB1 := Lib.hid hb1
  have hc0 := hR.cell 0
  have hc1 := hR.cell 1
  have hc2 := hR.cell 2
  have hf0 := hR.frozen 0
  have hf1 := hR.frozen 1
  have hf2 := hR.frozen 2
  have hst := fun k => set3 (.int .u64 (x : Int)) (.int .u64 (y : Int)) (.pointer (some ⟨g6, o6, none⟩)) (hR.drewN k)
  have HST := Lib.hid hst
  have hg2 := cell_lt hI.z6
  rw [hg] at hg2
  clear hlo hhi hbo hB0 hB hs1 hI1 hBB hR hb1 hx hy harr hI hst
  have hzz : ∀ W : World, W.heap = W1.heap → W.cell? ⟨2, 0, none⟩ = some (.pointer (some ⟨g6, o6, none⟩)) := fun W h => by rw [← hz]; simp only [World.cell?, h]
  have HZ := Lib.hid hzz
  clear hzz
  go_region_held3 (fun w' => w'.cell? ⟨2, 0, none⟩ = some (.pointer (some ⟨g6, o6, none⟩)))
    (first | exact hz | exact HZ.out _ (by rfl) | exact (HST.out _).2.2 _ _ _ (by omega) (HZ.out _ (by rfl)))
    (first | (go_at_call 119; refine (HBO.out _ _ _ _ (by rfl) (by simp)).mono ?_; rintro e w' ⟨rfl, k, rfl⟩))
  go_wp2_with fail
  refine bodyPost_ret (results_cell_row rfl _ _ (g + 1) _ _ _ _ rfl (HST.out _).1 Tryd.underlying119 rfl (by kernel_rfl)) rfl ?_
  refine ⟨rfl, ?_⟩
  rw [hg]
  exact (HST.out _).2.1 g w (below_drewN HB1.out _) (Nat.le_succ _)

end Go.Proofs.YtfkohahlpfejbaaDoor
