/-
  WALKS: the reading of an empty resolv.conf.
-/
import Derived.Test.YtfkohahlpfejbaaDoorLine
import Derived.Test.YtfkohahlpfejbaaDoorRoot
import Derived.Test.YtfkohahlpfejbaaDoorBlk
namespace Go.Proofs.YtfkohahlpfejbaaDoor
open Go.RowKit

theorem strs_two (wr : World) (B : Nat) (p q : List UInt8) (hB : B ≤ wr.heap.size) : Strs (wr.alloc (.cells #[pl.strV p, pl.strV q] 9)) B (.slice (some ⟨wr.heap.size, 0, none⟩) 2 2) [p, q] := by
  have h : StrBlk (wr.alloc (.cells #[pl.strV p, pl.strV q] 9)) wr.heap.size 2 [p, q] := ⟨#[pl.strV p, pl.strV q], by show (wr.heap.push _)[wr.heap.size]? = _; simp, rfl, rfl⟩
  exact h.strs B hB (by unfold maxLen; omega) (by simp)

def pl.ns1 : List UInt8 := [49, 50, 55, 46, 48, 46, 48, 46, 49, 58, 53, 51]
def pl.ns2 : List UInt8 := [91, 58, 58, 49, 93, 58, 53, 51]

theorem dns_any (w : World) : Calls Tryd.prog 91 #[] w fun e w' => ∃ v, e = .returned v ∧ Strs w' w.heap.size v [pl.ns1, pl.ns2] ∧ Below w.heap.size w w' := by
  go_enter Tryd.func91, Tryd.ntmps91
  go_wp2_with fail
  go_ret
  exact ⟨_, rfl, strs_two w _ pl.ns1 pl.ns2 (Nat.le_refl _), (Below.refl _ _).alloc (Nat.le_refl _) _⟩

/-- the defaults, as the configuration lies in memory -/
def confE (vs vq : Value) : Array Value := #[vs, vq, .int .i64 1, .int .i64 5, .int .i64 2, .bool false, .bool false, .slice none 0 0, .bool false, .bool false, .bool false, .bool false]

set_option maxRecDepth 100000 in
set_option maxHeartbeats 2000000 in
theorem drc_empty (g : Nat) (s hn : ByteArray) (w : World) (h : s.size = 0) (hc : w.cell? ⟨g, 0, none⟩ = some (.string s)) (hs : hn.size ≤ 17592186044416) :
    Calls Tryd.prog 67 #[.pointer (some ⟨g, 0, none⟩), .string hn] w fun e w' => e = .returned (.pointer (some ⟨w.heap.size, 0, none⟩)) ∧ Below w.heap.size w w' ∧ ∃ vs vq, Blk w' w.heap.size (confE vs vq) 110 ∧ Strs w' w.heap.size vs [pl.ns1, pl.ns2] ∧ Strs w' w.heap.size vq (pl.defS hn.data.toList) := by
  have hg : g < w.heap.size := by
    rcases Nat.lt_or_ge g w.heap.size with h | h
    · exact h
    · simp [World.cell?, Array.getElem?_eq_none h] at hc
  have hc1 : ∀ o, (w.alloc o).cell? ⟨g, 0, none⟩ = some (.string s) := fun o => by rw [below_cell ((Below.refl _ _).alloc (Nat.le_refl _) o) g 0 hg]; exact hc
  have HC := Lib.hid hc1
  clear hc1
  go_enter Tryd.func67, Tryd.ntmps67
  go_wp2_with (first | (go_at_call 83; refine (rl_empty g s _ h (HC.out _)).mono ?_; rintro e w' ⟨rfl, rfl⟩))
  have hB := Blk.new w (confE (.slice none 0 0) (.slice none 0 0)) 110
  have hbel : Below w.heap.size w (w.alloc (.cells (confE (.slice none 0 0) (.slice none 0 0)) 110)) := (Below.refl _ _).alloc (Nat.le_refl _) _
  change Code.wp _ _ _ _ (w.alloc (.cells (confE (.slice none 0 0) (.slice none 0 0)) 110))
  generalize w.alloc (.cells (confE (.slice none 0 0) (.slice none 0 0)) 110) = W at hB hbel ⊢
  have c0 : W.cell? ⟨w.heap.size, 0, none⟩ = some (.slice none 0 0) := hB.cell 0
  have f0 := hB.frozen 0
  go_loopw [7] (fun ok wr => ok = .bool false ∧ wr = W) (fun _ _ => 0)
  case atStart => exact ⟨rfl, rfl⟩
  case round =>
    obtain ⟨rfl, rfl⟩ := hrel
    go_wp2_with (first
      | (go_at_call 91; refine (dns_any _).mono ?_; rintro e w2 ⟨vs, rfl, hS, hb2⟩; obtain ⟨a2, k2, rfl, _⟩ := hS.form
         have hB2 := hB.below hb2 hB.lt
         have c20 : w2.cell? ⟨w.heap.size, 0, none⟩ = some (.slice none 0 0) := hB2.cell 0
         have f20 := hB2.frozen 0
         have hB3 := hB2.set 0 (.slice a2 2 k2)
         have c31 : (w2.setCell ⟨w.heap.size, 0, none⟩ (.slice a2 2 k2)).cell? ⟨w.heap.size, 1, none⟩ = some (.slice none 0 0) := hB3.cell 1
         have hS3 := hS.far w.heap.size 0 (.slice a2 2 k2) hB.lt)
      | (go_at_call 92; refine (dds_any _ _ hs).mono ?_; rintro e w4 ⟨vq, rfl, hQ, hb4⟩; obtain ⟨a4, k4, rfl, _⟩ := hQ.form
         have hB4 := hB3.below hb4 hB3.lt
         have c41 : w4.cell? ⟨w.heap.size, 1, none⟩ = some (.slice none 0 0) := hB4.cell 1
         have f41 := hB4.frozen 1))
    go_ret
    have b3 := (hbel.trans (hb2.mono hbel.size)).setCell (p := ⟨w.heap.size, 0, none⟩) (Nat.le_refl _) (.slice a2 2 k2)
    have hl4 := hB3.lt
    have b5 := (b3.trans (hb4.mono (Nat.le_of_lt hl4))).setCell (p := ⟨w.heap.size, 1, none⟩) (Nat.le_refl _) (.slice a4 (pl.defS hn.data.toList).length k4)
    exact ⟨rfl, b5, _, _, hB4.set 1 _, ((hS3.below hb4).far _ _ _ hB.lt).mono hbel.size, (hQ.far _ _ _ hl4).mono (Nat.le_of_lt hl4)⟩

end Go.Proofs.YtfkohahlpfejbaaDoor
