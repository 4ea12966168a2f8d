/-
  WALKS: net/netip's small functions.
-/
import Derived.Test.YtfkohahlpfejbaaDoorV4F
import Derived.Test.YtfkohahlpfejbaaDoorPlTrip
import Derived.Lib.EndianBits
import Derived.Laws.ResultCell
import Derived.LaidEql
namespace Go.Proofs.YtfkohahlpfejbaaDoor
open Go.RowKit

/-- the variables of net/netip: z0 (nil), z4, z6noz -/
structure IpVars (w : World) (g4 o4 g6 o6 : Nat) : Prop where
  z0 : w.cell? ⟨0, 0, none⟩ = some (.pointer none)
  z4 : w.cell? ⟨1, 0, none⟩ = some (.pointer (some ⟨g4, o4, none⟩))
  z6 : w.cell? ⟨2, 0, none⟩ = some (.pointer (some ⟨g6, o6, none⟩))
  ne : ¬ (g4 = g6 ∧ o4 = o6)
  a4 : w.cell? ⟨g4, o4 + 1, none⟩ = some (.string ⟨#[]⟩)
  a6 : w.cell? ⟨g6, o6 + 1, none⟩ = some (.string ⟨#[]⟩)
  b4 : w.cell? ⟨g4, o4, none⟩ = some (.bool false)
  b6 : w.cell? ⟨g6, o6, none⟩ = some (.bool true)
  h4 : ∃ c t, w.heap[g4]? = some (.cells c t (0, 0))
  h6 : ∃ c t, w.heap[g6]? = some (.cells c t (0, 0))

theorem cell_lt {w : World} {g o : Nat} {v : Value} (h : w.cell? ⟨g, o, none⟩ = some v) : g < w.heap.size := by
  rcases Nat.lt_or_ge g w.heap.size with h' | h'
  · exact h'
  · simp [World.cell?, Array.getElem?_eq_none h'] at h

theorem IpVars.below {w w' : World} {g4 o4 g6 o6 : Nat} (h : IpVars w g4 o4 g6 o6) {B : Nat} (hb : Below B w w') (hB : w.heap.size ≤ B) : IpVars w' g4 o4 g6 o6 := by
  have k : ∀ {g o : Nat} {v : Value}, w.cell? ⟨g, o, none⟩ = some v → w'.cell? ⟨g, o, none⟩ = some v := fun {g o v} hc => by
    rw [← hc]; simp only [World.cell?, hb.block g (Nat.lt_of_lt_of_le (cell_lt hc) hB)]
  have j : ∀ {g : Nat}, (∃ c t, w.heap[g]? = some (Obj.cells c t (0, 0))) → ∃ c t, w'.heap[g]? = some (Obj.cells c t (0, 0)) := fun {g} ⟨c, t, hc⟩ => ⟨c, t, by rw [hb.block g (Nat.lt_of_lt_of_le (Array.getElem?_eq_some_iff.1 hc).1 hB)]; exact hc⟩
  exact ⟨k h.z0, k h.z4, k h.z6, h.ne, k h.a4, k h.a6, k h.b4, k h.b6, j h.h4, j h.h6⟩

theorem cell_new_old {W : World} {a : Addr} {v : Value} (o : Obj) (h : W.cell? a = some v) : (W.alloc o).cell? a = some v := by
  have hb : a.block < W.heap.size := by
    rcases Nat.lt_or_ge a.block W.heap.size with h' | h'
    · exact h'
    · simp [World.cell?, Array.getElem?_eq_none h'] at h
  exact (World.cell?_alloc_old (w := W) (a := a) (o := o) (by omega)).trans h

/-- a struct of three cells is stored -/
theorem set3 {V : World} {g : Nat} {ty : TypeId} {y0 y1 y2 : Value} (x0 x1 x2 : Value) (h : Blk V g #[y0, y1, y2] ty) :
    Blk (((V.setCell ⟨g, 0, none⟩ x0).setCell ⟨g, 1, none⟩ x1).setCell ⟨g, 2, none⟩ x2) g #[x0, x1, x2] ty ∧ (∀ B w0, Below B w0 V → B ≤ g → Below B w0 (((V.setCell ⟨g, 0, none⟩ x0).setCell ⟨g, 1, none⟩ x1).setCell ⟨g, 2, none⟩ x2)) ∧ (∀ g' k v, g' ≠ g → V.cell? ⟨g', k, none⟩ = some v → (((V.setCell ⟨g, 0, none⟩ x0).setCell ⟨g, 1, none⟩ x1).setCell ⟨g, 2, none⟩ x2).cell? ⟨g', k, none⟩ = some v) := by
  have h1 : Blk (V.setCell ⟨g, 0, none⟩ x0) g #[x0, y1, y2] ty := h.set 0 x0
  have h2 : Blk ((V.setCell ⟨g, 0, none⟩ x0).setCell ⟨g, 1, none⟩ x1) g #[x0, x1, y2] ty := h1.set 1 x1
  have h3 : Blk (((V.setCell ⟨g, 0, none⟩ x0).setCell ⟨g, 1, none⟩ x1).setCell ⟨g, 2, none⟩ x2) g #[x0, x1, x2] ty := h2.set 2 x2
  refine ⟨h3, ?_, ?_⟩
  · intro B w0 hb hg
    exact ((hb.setCell (p := ⟨g, 0, none⟩) hg x0).setCell (p := ⟨g, 1, none⟩) hg x1).setCell (p := ⟨g, 2, none⟩) hg x2
  · intro g' k v hne hc
    rw [← hc]
    simp only [World.cell?, setCell_far _ _ _ _ _ (Ne.symm hne)]

theorem blk3 {V : World} {g : Nat} {ty : TypeId} {y0 y1 y2 : Value} (h : Blk V g #[y0, y1, y2] ty) :
    V.cell? ⟨g, 0, none⟩ = some y0 ∧ V.cell? ⟨g, 1, none⟩ = some y1 ∧ V.cell? ⟨g, 2, none⟩ = some y2 ∧ V.frozen? ⟨g, 0, none⟩ = false ∧ V.frozen? ⟨g, 1, none⟩ = false ∧ V.frozen? ⟨g, 2, none⟩ = false :=
  ⟨h.cell 0, h.cell 1, h.cell 2, h.frozen 0, h.frozen 1, h.frozen 2⟩

theorem results_cell_tmp_row {P : Program} {fn : Func} {p u : Tmp} {ty : TypeId} (h : fn.results = #[.cell p ty, .tmp u]) (tmps : Array Value) (w : World) (g : Nat) (t : TypeId) (cs : Array Value) (d : TypeDesc) (x : Value)
    (hp : tmps.getD p undef = .pointer (some ⟨g, 0, none⟩)) (hx : tmps.getD u undef = x) (hg : Blk w g cs t)
    (hu : P.underlying ty = some d) (hd : (match d with | .struct _ | .array _ _ => true | _ => false) = true) (hi : (P.info? ty).map (·.size) = some cs.size) :
    (results fn tmps).run P w = .ok (.tuple #[.agg cs, x]) w := by
  rw [results_cell_tmp h, hp, hx]
  simp [asAddr, run_loadVar_row w g t ty cs (0, 0) d hg hu hd hi, Result.andThen]

def pl.be (l : List UInt8) : Nat := l.foldl (fun n b => n * 256 + b.toNat) 0
theorem u64_hi (i : Nat) (x y : Int) (hx₀ : 0 ≤ x) (hx : x % 2 ^ i = 0) (hx₁ : x < 2 ^ 64) (hy₀ : 0 ≤ y) (hy : y < 2 ^ i) (hi : i ≤ 64) : bits .or .u64 x y = x + y :=
  bits_join .u64 64 (by decide) wraps_u64 i x y hx₀ hx hx₁ hy₀ hy (Int.lt_of_lt_of_le hy (by exact_mod_cast Nat.pow_le_pow_right (by decide) hi))
theorem u64_hi32 (x y : Int) (hx₀ : 0 ≤ x) (hx : x % 4294967296 = 0) (hx₁ : x < 18446744073709551616) (hy₀ : 0 ≤ y) (hy : y < 4294967296) : bits .or .u64 x y = x + y := u64_hi 32 x y hx₀ hx hx₁ hy₀ hy (by decide)
theorem u64_hi24 (x y : Int) (hx₀ : 0 ≤ x) (hx : x % 16777216 = 0) (hx₁ : x < 18446744073709551616) (hy₀ : 0 ≤ y) (hy : y < 16777216) : bits .or .u64 x y = x + y := u64_hi 24 x y hx₀ hx hx₁ hy₀ hy (by decide)
theorem u64_hi16 (x y : Int) (hx₀ : 0 ≤ x) (hx : x % 65536 = 0) (hx₁ : x < 18446744073709551616) (hy₀ : 0 ≤ y) (hy : y < 65536) : bits .or .u64 x y = x + y := u64_hi 16 x y hx₀ hx hx₁ hy₀ hy (by decide)
theorem u64_hi8 (x y : Int) (hx₀ : 0 ≤ x) (hx : x % 256 = 0) (hx₁ : x < 18446744073709551616) (hy₀ : 0 ≤ y) (hy : y < 256) : bits .or .u64 x y = x + y := u64_hi 8 x y hx₀ hx hx₁ hy₀ hy (by decide)
theorem IpVars.alloc {w : World} {g4 o4 g6 o6 : Nat} (h : IpVars w g4 o4 g6 o6) (o : Obj) : IpVars (w.alloc o) g4 o4 g6 o6 :=
  h.below ((Below.refl w.heap.size w).alloc (Nat.le_refl _) o) (Nat.le_refl _)
/-- whether two of the variables' addresses are one -/
theorem ptr_same_any {P : Program} (d : Nat) (w : World) (t e : TypeId) (j : TypeInfo) (a : Addr) (hu : P.underlying t = some (.pointer e)) (hj : P.info? e = some j) : (Op.equalIn (d + 1) t (.pointer (some a)) (.pointer (some a))).run P w = .ok true w := by
  simp [Op.equalIn, run_underlying hu, typeInfo, sizeOf, run_sameAddr_same, hj]
theorem ptr_nil_any {P : Program} (d : Nat) (w : World) (t e : TypeId) (a : Addr) (hu : P.underlying t = some (.pointer e)) : (Op.equalIn (d + 1) t (.pointer (some a)) (.pointer none)).run P w = .ok false w := by
  simp [Op.equalIn, run_underlying hu]
theorem ptr_other_any {P : Program} (d : Nat) (w : World) (t e : TypeId) (j : TypeInfo) (a b : Addr) (hu : P.underlying t = some (.pointer e)) (hj : P.info? e = some j) (hj0 : j.size ≠ 0) (hne : a ≠ b) (h4 : ∃ c t, w.heap[a.block]? = some (.cells c t (0, 0))) (h6 : ∃ c t, w.heap[b.block]? = some (.cells c t (0, 0))) :
    (Op.equalIn (d + 1) t (.pointer (some a)) (.pointer (some b))).run P w = .ok false w := by
  obtain ⟨c4, t4, h4⟩ := h4
  obtain ⟨c6, t6, h6⟩ := h6
  simp [Op.equalIn, run_underlying hu, typeInfo, sizeOf, hj, hj0, run_sameAddr_other w hne h4 h6]
theorem detail_under : Tryd.prog.underlying 115 = some (.pointer 146) := by kernel_rfl
theorem detail_info : ∃ j, Tryd.prog.info? 146 = some j ∧ j.size = 2 := by
  have h : (Tryd.prog.info? 146).map (·.size) = some 2 := by kernel_rfl
  generalize Tryd.prog.info? 146 = x at h
  cases x with
  | none => cases h
  | some j => injection h with h; exact ⟨j, rfl, h⟩
theorem ptr_same (w : World) (a : Addr) : (Op.equalIn 9999 115 (.pointer (some a)) (.pointer (some a))).run Tryd.prog w = .ok true w := by
  obtain ⟨j, hj, _⟩ := detail_info
  exact ptr_same_any 9998 w _ _ j a detail_under hj
theorem ptr_nil (w : World) (a : Addr) : (Op.equalIn 9999 115 (.pointer (some a)) (.pointer none)).run Tryd.prog w = .ok false w := ptr_nil_any 9998 w _ _ a detail_under
theorem ptr_other (w : World) (g4 o4 g6 o6 : Nat) (hn : ¬ (g4 = g6 ∧ o4 = o6)) (h4 : ∃ c t, w.heap[g4]? = some (.cells c t (0, 0))) (h6 : ∃ c t, w.heap[g6]? = some (.cells c t (0, 0))) :
    (Op.equalIn 9999 115 (.pointer (some ⟨g4, o4, none⟩)) (.pointer (some ⟨g6, o6, none⟩))).run Tryd.prog w = .ok false w := by
  obtain ⟨j, hj, h2⟩ := detail_info
  have hne : (⟨g4, o4, none⟩ : Addr) ≠ ⟨g6, o6, none⟩ := by
    intro e
    injection e with e1 e2
    exact hn ⟨e1, e2⟩
  exact ptr_other_any 9998 w _ _ j _ _ detail_under hj (by rw [h2]; decide) hne h4 h6
theorem IpVars.eqs {w : World} {g4 o4 g6 o6 : Nat} (h : IpVars w g4 o4 g6 o6) :
    (Op.equalIn 9999 115 (.pointer (some ⟨g4, o4, none⟩)) (.pointer (some ⟨g6, o6, none⟩))).run Tryd.prog w = .ok false w ∧ (Op.equalIn 9999 115 (.pointer (some ⟨g6, o6, none⟩)) (.pointer (some ⟨g4, o4, none⟩))).run Tryd.prog w = .ok false w :=
  ⟨ptr_other w _ _ _ _ h.ne h.h4 h.h6, ptr_other w _ _ _ _ (fun e => h.ne ⟨e.1.symm, e.2.symm⟩) h.h6 h.h4⟩

/-- an address as the package has it -/
def ipV (hi lo : Nat) (g o : Nat) : Value := .agg #[.int .u64 (hi : Int), .int .u64 (lo : Int), .pointer (some ⟨g, o, none⟩)]
def adr (g4 o4 g6 o6 : Nat) (b : List UInt8) : Value :=
  if b.length = 4 then ipV 0 (281470681743360 + pl.be b) g4 o4 else ipV (pl.be (b.take 8)) (pl.be (b.drop 8)) g6 o6

set_option maxHeartbeats 4000000 in
set_option maxRecDepth 100000 in
theorem be64_sp (g o n c : Nat) (b0 b1 b2 b3 b4 b5 b6 b7 : UInt8) (w : World) (hn : 8 ≤ n)
    (c0 : w.cell? ⟨g, o, none⟩ = some (pl.byteV b0)) (c1 : w.cell? ⟨g, o + 1, none⟩ = some (pl.byteV b1)) (c2 : w.cell? ⟨g, o + 2, none⟩ = some (pl.byteV b2)) (c3 : w.cell? ⟨g, o + 3, none⟩ = some (pl.byteV b3)) (c4 : w.cell? ⟨g, o + 4, none⟩ = some (pl.byteV b4)) (c5 : w.cell? ⟨g, o + 5, none⟩ = some (pl.byteV b5)) (c6 : w.cell? ⟨g, o + 6, none⟩ = some (pl.byteV b6)) (c7 : w.cell? ⟨g, o + 7, none⟩ = some (pl.byteV b7)) :
    Calls Tryd.prog 119 #[.slice (some ⟨g, o, none⟩) n c] w fun e w' => e = .returned (.int .u64 (pl.be [b0, b1, b2, b3, b4, b5, b6, b7] : Nat)) ∧ ∃ k, w' = w.drewN k := by
  unfold pl.byteV at c0 c1 c2 c3 c4 c5 c6 c7
  have h0 := b0.toNat_lt
  have h1 := b1.toNat_lt
  have h2 := b2.toNat_lt
  have h3 := b3.toNat_lt
  have h4 := b4.toNat_lt
  have h5 := b5.toNat_lt
  have h6 := b6.toNat_lt
  have h7 := b7.toNat_lt
  have hv : ((pl.be [b0, b1, b2, b3, b4, b5, b6, b7] : Nat) : Int) = (b7.toNat : Int) + (b6.toNat : Int) * 256 + (b5.toNat : Int) * 65536 + (b4.toNat : Int) * 16777216 + (b3.toNat : Int) * 4294967296 + (b2.toNat : Int) * 1099511627776 + (b1.toNat : Int) * 281474976710656 + (b0.toNat : Int) * 72057594037927936 := by
    simp only [pl.be, List.foldl_cons, List.foldl_nil]
    omega
  have q0 : 0 < n := by omega
  have q1 : (1 : Int) < (n : Int) := by omega
  have q2 : (2 : Int) < (n : Int) := by omega
  have q3 : (3 : Int) < (n : Int) := by omega
  have q4 : (4 : Int) < (n : Int) := by omega
  have q5 : (5 : Int) < (n : Int) := by omega
  have q6 : (6 : Int) < (n : Int) := by omega
  have q7 : (7 : Int) < (n : Int) := by omega
  go_enter Tryd.func119, Tryd.ntmps119
  go_wp2_with fail
  go_quiet (fail)
  go_wp2_with fail
  go_ret
  refine ⟨?_, _, rfl⟩
  simp (disch := omega) only [u64_or8, u64_or16, u64_or24, u64_or32, u64_or40, u64_or48, u64_or56]
  rw [hv]
  rfl

set_option maxHeartbeats 4000000 in
set_option maxRecDepth 100000 in
theorem af4_sp (g4 o4 g6 o6 : Nat) (b0 b1 b2 b3 : UInt8) (w : World) (hI : IpVars w g4 o4 g6 o6) :
    Calls Tryd.prog 107 #[.agg #[pl.byteV b0, pl.byteV b1, pl.byteV b2, pl.byteV b3]] w fun e w' => e = .returned (adr g4 o4 g6 o6 [b0, b1, b2, b3]) ∧ Below w.heap.size w w' := by
  have h0 := b0.toNat_lt
  have h1 := b1.toNat_lt
  have h2 := b2.toNat_lt
  have h3 := b3.toNat_lt
  have hz4 : ∀ x y, ((w.alloc x).alloc y).cell? ⟨1, 0, none⟩ = some (.pointer (some ⟨g4, o4, none⟩)) := fun x y => cell_new_old _ (cell_new_old _ hI.z4)
  have hv : ((281470681743360 + pl.be [b0, b1, b2, b3] : Nat) : Int) = 281470681743360 + (b0.toNat : Int) * 16777216 + (b1.toNat : Int) * 65536 + (b2.toNat : Int) * 256 + (b3.toNat : Int) := by
    simp only [pl.be, List.foldl_cons, List.foldl_nil]
    omega
  unfold pl.byteV
  go_enter Tryd.func107, Tryd.ntmps107
  go_wp2_with fail
  refine bodyPost_ret (results_cell_row rfl _ _ (w.heap.size + 1) _ _ _ _ rfl (by simpa [Blk] using Blk.new (w.alloc _) _ _) Tryd.underlying119 rfl (by kernel_rfl)) rfl ⟨?_, ?_⟩
  · have ha : adr g4 o4 g6 o6 [b0, b1, b2, b3] = ipV 0 (281470681743360 + pl.be [b0, b1, b2, b3]) g4 o4 := rfl
    rw [ha, ipV, hv]
    simp (disch := omega) only [u64_hi32, u64_hi24, u64_hi16, u64_hi8]
    rfl
  · exact ((Below.refl _ _).alloc (Nat.le_refl _) _).alloc (by simp) _

end Go.Proofs.YtfkohahlpfejbaaDoor
