/-
  WALKS: the package's cut, equalBytes, v4InV6Prefix; IP.Mask at an address of 16 bytes and a mask of 4.
-/
import Derived.Test.YtfkohahlpfejbaaDoorNB6
import Derived.Deep.RegionWith
namespace Go.Proofs.YtfkohahlpfejbaaDoor
open Go.RowKit

theorem pl.cut_cases (s : ByteArray) (c : Int) : (pl.idx s.data.toList c = -1 ∧ pl.cutS s.data.toList c = (s.data.toList, [], false)) ∨ (∃ k, k < s.size ∧ pl.idx s.data.toList c = (k : Int) ∧ pl.cutS s.data.toList c = (s.data.toList.take k, s.data.toList.drop (k + 1), true)) := by
  unfold pl.cutS
  cases h : s.data.toList.findIdx? (pl.isB c) with
  | none =>
    have e : pl.idx s.data.toList c = -1 := by simp [pl.idx, h]
    left
    rw [e]
    exact ⟨rfl, by simp⟩
  | some k =>
    have e : pl.idx s.data.toList c = (k : Int) := by simp [pl.idx, h]
    have hk := (List.findIdx?_eq_some_iff_getElem.1 h).1
    right
    refine ⟨k, by simpa using hk, e, ?_⟩
    rw [e, if_neg (by omega)]
    rfl

set_option maxHeartbeats 400000 in
theorem pcut_sp (s : ByteArray) (c : Int) (w : World) (hs : s.size ≤ 17592186044416) :
    Calls Tryd.prog 68 #[.string s, .int .u8 c] w fun e w' => e = .returned (.tuple #[.string ⟨(pl.cutS s.data.toList c).1.toArray⟩, .string ⟨(pl.cutS s.data.toList c).2.1.toArray⟩, .bool (pl.cutS s.data.toList c).2.2]) ∧ ∃ n, w' = w.drewN n := by
  have hi := fun w => idx_any s c w (by unfold maxLen; omega)
  rcases pl.cut_cases s c with ⟨h1, h2⟩ | ⟨k, hk, h1, h2⟩
  · rw [h2]
    rw [h1] at hi
    have HI := Lib.hid hi
    clear hi h1 h2
    go_enter Tryd.func68, Tryd.ntmps68
    go_wp2_with (go_at_call 82; refine (HI.out _).mono ?_; rintro e w' ⟨rfl, rfl⟩)
    go_ret3
    exact ⟨ret_hp (Lib.mk_data s).symm rfl rfl, 0, rfl⟩
  · rw [h2]
    rw [h1] at hi
    have HI := Lib.hid hi
    have hks : (k : Int) + 1 ≤ (s.size : Int) := by omega
    clear hi h1 h2
    go_enter Tryd.func68, Tryd.ntmps68
    go_wp2_with (go_at_call 82; refine (HI.out _).mono ?_; rintro e w' ⟨rfl, rfl⟩)
    go_quiet (fail)
    go_wp2
    go_ret3
    exact ⟨ret_hp (pl.ext_take s k) (pl.ext_drop s (k + 1)) rfl, _, rfl⟩

theorem Reads.take {w : World} {g o n cap : Nat} {l : List UInt8} (h : Reads w (.slice (some ⟨g, o, none⟩) n cap) l) (m : Nat) (hm : m ≤ n) : Reads w (.slice (some ⟨g, o, none⟩) m cap) (l.take m) := by
  obtain ⟨a, c, he, h1, h2, h0, h3⟩ := h
  injection he with e1 e2 e3
  subst e1 e2 e3
  have hl : (l.take m).length = m := by rw [List.length_take]; omega
  refine ⟨_, cap, by rw [hl], by rw [hl]; omega, h2, by simp, fun k b hk => ?_⟩
  rw [List.getElem?_take] at hk
  split at hk
  · exact h3 k b hk
  · cases hk
theorem Reads.drop {w : World} {g o n cap : Nat} {l : List UInt8} (h : Reads w (.slice (some ⟨g, o, none⟩) n cap) l) (m : Nat) (hm : m ≤ n) : Reads w (.slice (some ⟨g, o + m, none⟩) (n - m) (cap - m)) (l.drop m) := by
  obtain ⟨a, c, he, h1, h2, h0, h3⟩ := h
  injection he with e1 e2 e3
  subst e1 e2 e3
  have hl : (l.drop m).length = l.length - m := by rw [List.length_drop]
  refine ⟨_, cap - m, by rw [hl], by rw [hl]; omega, by omega, by simp, fun k b hk => ?_⟩
  rw [List.getElem?_drop] at hk
  obtain ⟨g', o', ha, hg, hc⟩ := h3 (m + k) b hk
  injection ha with ha
  injection ha with e1 e2
  subst e1 e2
  exact ⟨g, o + m, rfl, hg, by rw [Nat.add_assoc]; exact hc⟩
theorem BBlk.reads {w : World} {g : Nat} {l : List UInt8} {ty : TypeId} (h : BBlk w g l ty) (hl : l.length ≤ 1000) : Reads w (.slice (some ⟨g, 0, none⟩) l.length l.length) l := by
  refine ⟨_, l.length, rfl, Nat.le_refl _, by unfold maxLen; omega, by simp, fun k b hk => ?_⟩
  have hlt := (List.getElem?_eq_some_iff.1 hk).1
  refine ⟨g, 0, rfl, Blk.lt h, ?_⟩
  rw [Nat.zero_add, h.cell k hlt, (List.getElem?_eq_some_iff.1 hk).2]

set_option maxRecDepth 100000 in
theorem eqb_sp (va vb : Value) (a b : List UInt8) (w : World) (ha : Reads w va a) (hb : Reads w vb b) (r : Bool) (hr : (a == b) = r) :
    Calls Tryd.prog 77 #[va, vb] w fun e w' => e = .returned (.bool r) ∧ w = w' := by
  have c1 := conv_back 26 9 5 Tryd.underlying26 Tryd.underlying5 Tryd.underlying9 ha
  have c2 := conv_back 26 9 5 Tryd.underlying26 Tryd.underlying5 Tryd.underlying9 hb
  obtain ⟨a1, ca, rfl, _⟩ := ha
  obtain ⟨a2, cb, rfl, _⟩ := hb
  have HR := Lib.hid hr
  clear hr
  go_enter Tryd.func77, Tryd.ntmps77
  go_wp2_with fail
  go_ret
  refine ⟨?_, rfl⟩
  rw [← HR.out]
  rfl

set_option maxRecDepth 100000 in
set_option maxHeartbeats 1000000 in
theorem v4p_sp (w : World) :
    Calls Tryd.prog 78 #[] w fun e w' => ∃ v, e = .returned v ∧ Reads w' v pl.pre12 ∧ Below w.heap.size w w' := by
  go_enter Tryd.func78, Tryd.ntmps78
  go_wp2_with fail
  go_ret
  refine ⟨_, rfl, ?_, (Below.refl _ _).alloc (Nat.le_refl _) _⟩
  exact BBlk.reads (l := pl.pre12) (Blk.new w _ _) (by decide)

end Go.Proofs.YtfkohahlpfejbaaDoor
