/-
  WALKS: hasPrefix; WORDS for the configuration in memory.
-/
import Derived.Test.YtfkohahlpfejbaaDoorRv3
namespace Go.Proofs.YtfkohahlpfejbaaDoor
open Go.RowKit

def pl.pre (s p : List UInt8) : Bool := decide (s.take p.length = p)
set_option maxHeartbeats 1000000 in
theorem hp_any (s p : ByteArray) (q : Bool) (w : World) (hs : s.size ≤ 17592186044416) (hp : p.size ≤ 17592186044416) (hq : pl.pre s.data.toList p.data.toList = q) :
    Calls Tryd.prog 90 #[.string s, .string p] w fun e w' => e = .returned (.bool q) ∧ w = w' := by
  have hsl : s.data.toList.length = s.size := by simp
  have hpl : p.data.toList.length = p.size := by simp
  by_cases h : p.size ≤ s.size
  · have he : ((s.extract 0 p.size).toList == p.toList) = q := by
      rw [← hq, Lib.toList_data, Lib.toList_data, Lib.extract_data]
      unfold pl.pre
      rw [hpl]
      simp only [List.drop_zero, Nat.sub_zero]
      exact Bool.beq_eq_decide_eq _ _
    obtain ⟨E, hE⟩ : ∃ E, s.extract 0 p.size = E := ⟨_, rfl⟩
    rw [hE] at he
    have hi : ((p.size : Int) ≤ (s.size : Int)) := by omega
    have hi0 : (0 : Int) ≤ (p.size : Int) := by omega
    clear hq hsl hpl h
    rcases q with _ | _
    all_goals
      go_enter Tryd.func90, Tryd.ntmps90
      go_wp2_with fail
      go_ret
      exact ⟨rfl, rfl⟩
  · have hf : q = false := by
      rw [← hq]
      unfold pl.pre
      refine decide_eq_false (fun e => ?_)
      have := congrArg List.length e
      rw [List.length_take] at this
      omega
    subst hf
    have hi : ¬ ((p.size : Int) ≤ (s.size : Int)) := by omega
    clear hq hsl hpl h
    go_enter Tryd.func90, Tryd.ntmps90
    go_wp2_with fail
    go_ret
    exact ⟨rfl, rfl⟩

/-- the configuration, as it lies in memory -/
def confA (s : RSt) (vs vq : Value) : Array Value := #[vs, vq, .int .i64 s.nd, .int .i64 s.tm, .int .i64 s.att, .bool s.ro, .bool false, .slice none 0 0, .bool s.si, .bool s.tc, .bool s.ta, .bool s.nr]
/-- Block g is the configuration s, its rows lie from B on. -/
def RvC (w : World) (B g : Nat) (s : RSt) (vs vq : Value) : Prop :=
  Blk w g (confA s vs vq) 110 ∧ Strs w B vs s.sv ∧ Strs w B vq s.se ∧ (vs.ownBlock = none ∨ vq.ownBlock = none ∨ vs.ownBlock ≠ vq.ownBlock)
theorem RvC.below {w w' : World} {B g : Nat} {s : RSt} {vs vq : Value} (h : RvC w B g s vs vq) (hb : Below w.heap.size w w') : RvC w' B g s vs vq :=
  ⟨h.1.below hb h.1.lt, h.2.1.below hb, h.2.2.1.below hb, h.2.2.2⟩
theorem RvC.only {w w' : World} {B g gf : Nat} {s : RSt} {vs vq : Value} (h : RvC w B g s vs vq) (hk : KeepG gf w w') (h1 : gf < B) (h2 : gf ≠ g) : RvC w' B g s vs vq :=
  ⟨h.1.keep (hk g (fun e => h2 e.symm)), hk.strs h.2.1 h1, hk.strs h.2.2.1 h1, h.2.2.2⟩
/-- a store of a number or a flag -/
theorem RvC.store {w : World} {B g : Nat} {s s' : RSt} {vs vq : Value} (h : RvC w B g s vs vq) (hg : g < B) (k : Nat) (v : Value) (hA : (confA s vs vq).setIfInBounds k v = confA s' vs vq) (h1 : s'.sv = s.sv) (h2 : s'.se = s.se) : RvC (w.setCell ⟨g, k, none⟩ v) B g s' vs vq :=
  ⟨by rw [← hA]; exact h.1.set k v, by rw [h1]; exact h.2.1.far g k v hg, by rw [h2]; exact h.2.2.1.far g k v hg, h.2.2.2⟩

theorem pa_yes (g4 o4 g6 o6 : Nat) (q : List UInt8) (w : World) (hl : q.length ≤ 2147483647) (hI : IpVars w g4 o4 g6 o6) (h37 : (37 : UInt8) ∉ q) (h : (pl.addr q).isSome = true) :
    Calls Tryd.prog 70 #[.string ⟨q.toArray⟩] w fun e w' => (∃ a, e = .returned (.tuple #[.agg a, .nilIface])) ∧ Hid (Below w.heap.size w w') := by
  refine (par_sp g4 o4 g6 o6 ⟨q.toArray⟩ w (by show q.length ≤ _; omega) hI h37).mono fun e w' ⟨hb, hr⟩ => ?_
  obtain ⟨b, hb0⟩ := Option.isSome_iff_exists.1 h
  rcases hr with ⟨hn, _⟩ | ⟨b', h1, hl', he⟩
  · have hn' : pl.addr q = none := hn
    rw [hn'] at hb0; cases hb0
  · obtain ⟨hi, lo, gz, oz, hadr⟩ := adr_cells g4 o4 g6 o6 b'
    rw [hadr] at he
    exact ⟨⟨_, he⟩, Lib.hid hb⟩

theorem j53_sp (q : List UInt8) (w : World) (hl : q.length ≤ 2147483647) :
    Calls Tryd.prog 88 #[.string ⟨q.toArray⟩, .string ⟨#[53, 51]⟩] w fun e w' => e = .returned (.string ⟨(pl.j53 q).toArray⟩) ∧ w = w' :=
  joinHP ⟨q.toArray⟩ ⟨#[53, 51]⟩ w (by show q.length ≤ _; omega) (by decide)

end Go.Proofs.YtfkohahlpfejbaaDoor
