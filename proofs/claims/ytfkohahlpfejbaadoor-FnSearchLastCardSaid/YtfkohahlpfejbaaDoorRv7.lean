/-
  WALKS: ReadResolv.
-/
import Derived.Test.YtfkohahlpfejbaaDoorRv6
import Derived.BigRegion
import Derived.StillTailTactics
namespace Go.Proofs.YtfkohahlpfejbaaDoor
open Go.RowKit

/-- the configuration, as ReadResolv hands it back -/
def resB (s : RSt) (vs vq : Value) : Array Value := #[vs, vq, .int .i64 s.nd, .int .i64 s.tm, .int .i64 s.att, .bool s.ro, .bool false, .bool s.si, .bool s.tc, .bool s.ta, .bool s.nr, .slice none 0 0]
def resZ : Array Value := #[.slice none 0 0, .slice none 0 0, .int .i64 0, .int .i64 0, .int .i64 0, .bool false, .bool false, .bool false, .bool false, .bool false, .bool false, .slice none 0 0]
def pl.rSv (s : RSt) : List (List UInt8) := if s.sv = [] then [pl.ns1, pl.ns2] else s.sv
def pl.rSe (s : RSt) (hn : List UInt8) : List (List UInt8) := if s.se = [] then pl.defS hn else s.se

def RrRes (s : RSt) (hn : List UInt8) (w : World) (e : Ending) (w' : World) : Prop :=
  ∃ vs vq, e = .returned (.agg (resB s vs vq)) ∧ Below w.heap.size w w' ∧ Strs w' w.heap.size vs (pl.rSv s) ∧ Strs w' w.heap.size vq (pl.rSe s hn)

set_option maxRecDepth 100000 in
set_option maxHeartbeats 4000000 in
theorem rrp_sp (g4 o4 g6 o6 : Nat) (its : List RItem) (hn : ByteArray) (w : World) (hok : ∀ it ∈ its, RIOk it) (hlen : its.length ≤ 200) (hI : IpVars w g4 o4 g6 o6) (hs : hn.size ≤ 17592186044416) :
    Calls Tryd.prog 50 #[.string ⟨(pl.itx its).toArray⟩, .string hn] w (RrRes (pl.rRun its pl.rZero) hn.data.toList w) := by
  have hd := fun W V => drc_sp g4 o4 g6 o6 its hn W V hok hlen
  obtain ⟨st, hst⟩ : ∃ st, pl.rRun its pl.rZero = st := ⟨_, rfl⟩
  simp only [hst] at hd
  rw [hst]
  clear hst
  go_enter Tryd.func50, Tryd.ntmps50
  go_wp2_with fail
  have hB0 := Blk.new w resZ 73
  have hb0 : Below w.heap.size w (w.alloc (.cells resZ 73)) := (Below.refl _ _).alloc (Nat.le_refl _) _
  have hs0 : (w.alloc (.cells resZ 73)).heap.size = w.heap.size + 1 := by show (w.heap.push _).size = _; simp
  change Calls _ _ _ ((w.alloc (.cells resZ 73)).alloc _) _
  generalize w.alloc (.cells resZ 73) = W at hB0 hb0 hs0 ⊢
  have hF := Blk.new W #[.string ⟨(pl.itx its).toArray⟩] 105
  have hB1 := hB0.alloc (.cells #[.string ⟨(pl.itx its).toArray⟩] 105)
  have hWV : Below W.heap.size W (W.alloc (.cells #[.string ⟨(pl.itx its).toArray⟩] 105)) := (Below.refl _ _).alloc (Nat.le_refl _) _
  rw [← hs0]
  generalize W.alloc (.cells #[.string ⟨(pl.itx its).toArray⟩] 105) = V at hF hB1 hWV ⊢
  refine (hd W V (hI.below hb0 (Nat.le_refl _)) hWV hF hs).mono ?_
  rintro e V2 ⟨gc, vs, vq, rfl, hgc, hC, hS, hQ, hb2⟩
  have hC := hC.out
  have hS : Strs V2 W.heap.size vs (pl.rSv st) := hS.out
  have hQ : Strs V2 W.heap.size vq (pl.rSe st hn.data.toList) := hQ.out
  obtain ⟨a1, k1, rfl, _⟩ := hS.form
  obtain ⟨a2, k2, rfl, _⟩ := hQ.form
  obtain ⟨n1, hn1⟩ : ∃ n1, (pl.rSv st).length = n1 := ⟨_, rfl⟩
  obtain ⟨n2, hn2⟩ : ∃ n2, (pl.rSe st hn.data.toList).length = n2 := ⟨_, rfl⟩
  rw [hn1] at hC hS
  rw [hn2] at hC hQ
  have hB2 := hB0.below hb2.out hB0.lt
  have hb3 := hb0.trans (hb2.out.mono hb0.size)
  have hVg : w.heap.size < W.heap.size := hB0.lt
  clear hB0 hb0 hF hB1 hb2 hWV hn1 hn2 hI hok hlen hd
  have c0 : V2.drew.cell? ⟨gc, 0, none⟩ = some (.slice a1 n1 k1) := hC.cell 0
  have c1 : V2.drew.cell? ⟨gc, 1, none⟩ = some (.slice a2 n2 k2) := hC.cell 1
  have c2 : V2.drew.cell? ⟨gc, 2, none⟩ = some (.int .i64 st.nd) := hC.cell 2
  have c3 : V2.drew.cell? ⟨gc, 3, none⟩ = some (.int .i64 st.tm) := hC.cell 3
  have c4 : V2.drew.cell? ⟨gc, 4, none⟩ = some (.int .i64 st.att) := hC.cell 4
  have c5 : V2.drew.cell? ⟨gc, 5, none⟩ = some (.bool st.ro) := hC.cell 5
  have c6 : V2.drew.cell? ⟨gc, 6, none⟩ = some (.bool false) := hC.cell 6
  have c7 : V2.drew.cell? ⟨gc, 7, none⟩ = some (.slice none 0 0) := hC.cell 7
  have c8 : V2.drew.cell? ⟨gc, 8, none⟩ = some (.bool st.si) := hC.cell 8
  have c9 : V2.drew.cell? ⟨gc, 9, none⟩ = some (.bool st.tc) := hC.cell 9
  have c10 : V2.drew.cell? ⟨gc, 10, none⟩ = some (.bool st.ta) := hC.cell 10
  have c11 : V2.drew.cell? ⟨gc, 11, none⟩ = some (.bool st.nr) := hC.cell 11
  go_wp2_with fail
  go_still_tail 49, (by kernel_rfl)
  clear c0 c1 c2 c3 c4 c5 c6 c7 c8 c9 c10 c11 hC
  have hB3 : Blk V2.drew w.heap.size resZ 73 := hB2
  have hS3 : Strs V2.drew W.heap.size (.slice a1 n1 k1) (pl.rSv st) := hS
  have hQ3 : Strs V2.drew W.heap.size (.slice a2 n2 k2) (pl.rSe st hn.data.toList) := hQ
  have hb4 : Below w.heap.size w V2.drew := hb3.drew
  change wpList _ _ _ _ _ V2.drew
  generalize V2.drew = V3 at hB3 hS3 hQ3 hb4 ⊢
  have z0 : V3.cell? ⟨w.heap.size, 0, none⟩ = some (.slice none 0 0) := hB3.cell 0
  have z1 : V3.cell? ⟨w.heap.size, 1, none⟩ = some (.slice none 0 0) := hB3.cell 1
  have z2 : V3.cell? ⟨w.heap.size, 2, none⟩ = some (.int .i64 0) := hB3.cell 2
  have z3 : V3.cell? ⟨w.heap.size, 3, none⟩ = some (.int .i64 0) := hB3.cell 3
  have z4 : V3.cell? ⟨w.heap.size, 4, none⟩ = some (.int .i64 0) := hB3.cell 4
  have z5 : V3.cell? ⟨w.heap.size, 5, none⟩ = some (.bool false) := hB3.cell 5
  have z6 : V3.cell? ⟨w.heap.size, 6, none⟩ = some (.bool false) := hB3.cell 6
  have z7 : V3.cell? ⟨w.heap.size, 7, none⟩ = some (.bool false) := hB3.cell 7
  have z8 : V3.cell? ⟨w.heap.size, 8, none⟩ = some (.bool false) := hB3.cell 8
  have z9 : V3.cell? ⟨w.heap.size, 9, none⟩ = some (.bool false) := hB3.cell 9
  have z10 : V3.cell? ⟨w.heap.size, 10, none⟩ = some (.bool false) := hB3.cell 10
  have z11 : V3.cell? ⟨w.heap.size, 11, none⟩ = some (.slice none 0 0) := hB3.cell 11
  have fz : ∀ k, V3.frozen? ⟨w.heap.size, k, none⟩ = false := fun k => hB3.frozen k
  go_wp2_with fail
  clear z0 z1 z2 z3 z4 z5 z6 z7 z8 z9 z10 z11 fz
  obtain ⟨hB5, hb5, hS5⟩ := set12 (x0 := .slice a1 n1 k1) (x1 := .slice a2 n2 k2) (x2 := .int .i64 st.nd) (x3 := .int .i64 st.tm) (x4 := .int .i64 st.att) (x5 := .bool st.ro) (x6 := .bool false) (x7 := .bool st.si) (x8 := .bool st.tc) (x9 := .bool st.ta) (x10 := .bool st.nr) (x11 := .slice none 0 0) hB3
  have hb6 := hb5 _ _ hb4 (Nat.le_refl _)
  have hS6 := hS5 _ _ _ hS3 hVg
  have hQ6 := hS5 _ _ _ hQ3 hVg
  clear hB3 hb5 hS5 hS3 hQ3 hb4
  revert hB5 hb6 hS6 hQ6
  generalize (World.setCell _ _ _) = V9
  intro hB5 hb6 hS6 hQ6
  (try simp only [Exit.inBlock, Exit.then]); refine bodyPost_ret (results_cell_row rfl _ _ w.heap.size _ _ _ _ rfl hB5 Tryd.underlying73 rfl (by kernel_rfl)) rfl ?_
  exact ⟨_, _, rfl, hb6, hS6.mono (Nat.le_of_lt hVg), hQ6.mono (Nat.le_of_lt hVg)⟩

set_option maxRecDepth 100000 in
set_option maxHeartbeats 2000000 in
theorem rri_sp (g4 o4 g6 o6 : Nat) (its : List RItem) (hn : ByteArray) (w : World) (hok : ∀ it ∈ its, RIOk it) (hlen : its.length ≤ 200) (hI : IpVars w g4 o4 g6 o6) (hs : hn.size ≤ 17592186044416) :
    Calls Tryd.prog 23 #[.string ⟨(pl.itx its).toArray⟩, .string hn] w (RrRes (pl.rRun its pl.rZero) hn.data.toList w) := by
  have hd := fun W => rrp_sp g4 o4 g6 o6 its hn W hok hlen
  obtain ⟨st, hst⟩ : ∃ st, pl.rRun its pl.rZero = st := ⟨_, rfl⟩
  simp only [hst] at hd
  rw [hst]
  clear hst
  go_enter Tryd.func23, Tryd.ntmps23
  go_wp2_with fail
  have hB0 := Blk.new w resZ 41
  have hb0 : Below w.heap.size w (w.alloc (.cells resZ 41)) := (Below.refl _ _).alloc (Nat.le_refl _) _
  have hs0 : (w.alloc (.cells resZ 41)).heap.size = w.heap.size + 1 := by show (w.heap.push _).size = _; simp
  change Calls _ _ _ (w.alloc (.cells resZ 41)) _
  generalize w.alloc (.cells resZ 41) = W at hB0 hb0 hs0 ⊢
  refine (hd W (hI.below hb0 (Nat.le_refl _)) hs).mono ?_
  rintro e V2 ⟨vs, vq, rfl, hb2, hS, hQ⟩
  obtain ⟨a1, k1, rfl, _⟩ := hS.form
  obtain ⟨a2, k2, rfl, _⟩ := hQ.form
  obtain ⟨n1, hn1⟩ : ∃ n1, (pl.rSv st).length = n1 := ⟨_, rfl⟩
  obtain ⟨n2, hn2⟩ : ∃ n2, (pl.rSe st hn.data.toList).length = n2 := ⟨_, rfl⟩
  rw [hn1] at hS ⊢
  rw [hn2] at hQ ⊢
  have hB2 := hB0.below hb2 hB0.lt
  have hb3 := hb0.trans (hb2.mono hb0.size)
  clear hB0 hb0 hb2 hn1 hn2 hI hok hlen hd
  have z0 : V2.cell? ⟨w.heap.size, 0, none⟩ = some (.slice none 0 0) := hB2.cell 0
  have z1 : V2.cell? ⟨w.heap.size, 1, none⟩ = some (.slice none 0 0) := hB2.cell 1
  have z2 : V2.cell? ⟨w.heap.size, 2, none⟩ = some (.int .i64 0) := hB2.cell 2
  have z3 : V2.cell? ⟨w.heap.size, 3, none⟩ = some (.int .i64 0) := hB2.cell 3
  have z4 : V2.cell? ⟨w.heap.size, 4, none⟩ = some (.int .i64 0) := hB2.cell 4
  have z5 : V2.cell? ⟨w.heap.size, 5, none⟩ = some (.bool false) := hB2.cell 5
  have z6 : V2.cell? ⟨w.heap.size, 6, none⟩ = some (.bool false) := hB2.cell 6
  have z7 : V2.cell? ⟨w.heap.size, 7, none⟩ = some (.bool false) := hB2.cell 7
  have z8 : V2.cell? ⟨w.heap.size, 8, none⟩ = some (.bool false) := hB2.cell 8
  have z9 : V2.cell? ⟨w.heap.size, 9, none⟩ = some (.bool false) := hB2.cell 9
  have z10 : V2.cell? ⟨w.heap.size, 10, none⟩ = some (.bool false) := hB2.cell 10
  have z11 : V2.cell? ⟨w.heap.size, 11, none⟩ = some (.slice none 0 0) := hB2.cell 11
  have fz : ∀ k, V2.frozen? ⟨w.heap.size, k, none⟩ = false := fun k => hB2.frozen k
  have hlt := hB2.lt
  unfold resB
  go_wp2_with fail
  (try simp only [Exit.inBlock, Exit.then])
  obtain ⟨hB5, hb5, hS5⟩ := set12 (x0 := .slice a1 n1 k1) (x1 := .slice a2 n2 k2) (x2 := .int .i64 st.nd) (x3 := .int .i64 st.tm) (x4 := .int .i64 st.att) (x5 := .bool st.ro) (x6 := .bool false) (x7 := .bool st.si) (x8 := .bool st.tc) (x9 := .bool st.ta) (x10 := .bool st.nr) (x11 := .slice none 0 0) hB2
  have hWg : w.heap.size < W.heap.size := by omega
  have hb6 := hb5 _ _ hb3 (Nat.le_refl _)
  have hS6 := hS5 _ _ _ hS hWg
  have hQ6 := hS5 _ _ _ hQ hWg
  clear hb5 hS5 hS hQ hb3 hB2 z0 z1 z2 z3 z4 z5 z6 z7 z8 z9 z10 z11 fz
  revert hB5 hb6 hS6 hQ6
  generalize (World.setCell _ _ _) = V9
  intro hB5 hb6 hS6 hQ6
  have hba := (Below.refl V9.heap.size V9).alloc (Nat.le_refl _) (.cells #[.slice a1 n1 k1, .slice a2 n2 k2, .int .i64 st.nd, .int .i64 st.tm, .int .i64 st.att, .bool st.ro, .bool false, .bool st.si, .bool st.tc, .bool st.ta, .bool st.nr, .slice none 0 0] 73)
  have hB7 := hB5.alloc (.cells #[.slice a1 n1 k1, .slice a2 n2 k2, .int .i64 st.nd, .int .i64 st.tm, .int .i64 st.att, .bool st.ro, .bool false, .bool st.si, .bool st.tc, .bool st.ta, .bool st.nr, .slice none 0 0] 73)
  refine bodyPost_ret (results_cell_row rfl _ _ w.heap.size _ _ _ _ rfl hB7 Tryd.underlying41 rfl (by kernel_rfl)) rfl ?_
  exact ⟨_, _, rfl, hb6.trans (hba.mono hb6.size), (hS6.below hba).mono (Nat.le_of_lt hWg), (hQ6.below hba).mono (Nat.le_of_lt hWg)⟩

end Go.Proofs.YtfkohahlpfejbaaDoor
