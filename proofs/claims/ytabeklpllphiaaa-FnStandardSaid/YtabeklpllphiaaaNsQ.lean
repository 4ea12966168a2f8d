/-
  WALKS: standardStatusAction, standardCriteria.
-/
import Derived.Test.YtabeklpllphiaaaNsR
import Derived.Deep.RegionHeld3
import Derived.Deep.QuietTactic
import Derived.BigQuiet
namespace Go.Proofs.Ytabeklpllphiaaa
open Go.RowKit

def pl.tSucc : List UInt8 := [115, 117, 99, 99, 101, 115, 115]
def pl.tNotf : List UInt8 := [110, 111, 116, 102, 111, 117, 110, 100]
def pl.tUnav : List UInt8 := [117, 110, 97, 118, 97, 105, 108]
def pl.tTry : List UInt8 := [116, 114, 121, 97, 103, 97, 105, 110]
def pl.tRet : List UInt8 := [114, 101, 116, 117, 114, 110]
def pl.tCont : List UInt8 := [99, 111, 110, 116, 105, 110, 117, 101]
/-- the default action of a status -/
def pl.dflt (st : List UInt8) : Option (List UInt8) := if st = pl.tSucc then some pl.tRet else if st = pl.tNotf ∨ st = pl.tUnav ∨ st = pl.tTry then some pl.tCont else none
/-- is a criterion (in small letters) a default one? -/
def pl.ssa (c : Crit) (last : Bool) : Bool :=
  if c.1 = true then false else match pl.dflt c.2.1 with
    | none => false
    | some d => (last && decide (c.2.2 = pl.tRet)) || decide (c.2.2 = d)

theorem beq_tx (s : List UInt8) (t : List UInt8) : ((⟨s.toArray⟩ : ByteArray).toList == t) = decide (s = t) := by
  rw [Lib.toList_data]
  exact Bool.beq_eq_decide_eq _ _

set_option maxHeartbeats 2000000 in
theorem ssa_sp (c : Crit) (last : Bool) (w : World) :
    Calls Try.prog 54 #[.agg #[.bool c.1, pl.strV c.2.1, pl.strV c.2.2], .bool last] w fun e w' => e = .returned (.bool (pl.ssa c last)) ∧ Below w.heap.size w w' := by
  obtain ⟨ng, st, ac⟩ := c
  unfold pl.strV
  obtain ⟨r, hr⟩ : ∃ r, pl.ssa (ng, st, ac) last = r := ⟨_, rfl⟩
  dsimp only
  rw [hr]
  obtain ⟨SB, hSB⟩ : ∃ SB : ByteArray, (⟨st.toArray⟩ : ByteArray) = SB := ⟨_, rfl⟩
  obtain ⟨AB, hAB⟩ : ∃ AB : ByteArray, (⟨ac.toArray⟩ : ByteArray) = AB := ⟨_, rfl⟩
  have b1 := beq_tx st pl.tSucc
  have b2 := beq_tx st pl.tNotf
  have b3 := beq_tx st pl.tUnav
  have b4 := beq_tx st pl.tTry
  have a1 := beq_tx ac pl.tRet
  have a2 := beq_tx ac pl.tCont
  rw [hSB] at b1 b2 b3 b4 ⊢
  rw [hAB] at a1 a2 ⊢
  unfold pl.tSucc at b1
  unfold pl.tNotf at b2
  unfold pl.tUnav at b3
  unfold pl.tTry at b4
  unfold pl.tRet at a1
  unfold pl.tCont at a2
  obtain ⟨p1, hp1⟩ : ∃ q : Bool, decide (st = [115, 117, 99, 99, 101, 115, 115]) = q := ⟨_, rfl⟩
  obtain ⟨p2, hp2⟩ : ∃ q : Bool, decide (st = [110, 111, 116, 102, 111, 117, 110, 100]) = q := ⟨_, rfl⟩
  obtain ⟨p3, hp3⟩ : ∃ q : Bool, decide (st = [117, 110, 97, 118, 97, 105, 108]) = q := ⟨_, rfl⟩
  obtain ⟨p4, hp4⟩ : ∃ q : Bool, decide (st = [116, 114, 121, 97, 103, 97, 105, 110]) = q := ⟨_, rfl⟩
  obtain ⟨r1, hr1⟩ : ∃ q : Bool, decide (ac = [114, 101, 116, 117, 114, 110]) = q := ⟨_, rfl⟩
  obtain ⟨r2, hr2⟩ : ∃ q : Bool, decide (ac = [99, 111, 110, 116, 105, 110, 117, 101]) = q := ⟨_, rfl⟩
  have hd : r = if ng = true then false else if p1 = true then (last && r1) || r1 else if (p2 || p3 || p4) = true then (last && r1) || r2 else false := by
    rw [← hr, ← hp1, ← hp2, ← hp3, ← hp4, ← hr1, ← hr2]
    unfold pl.ssa pl.dflt pl.tSucc pl.tNotf pl.tUnav pl.tTry pl.tRet pl.tCont
    by_cases hn : ng = true
    · simp only [hn, if_true]
    · simp only [hn]
      by_cases h1 : st = [115, 117, 99, 99, 101, 115, 115]
      · simp [h1]
      · by_cases h2 : st = [110, 111, 116, 102, 111, 117, 110, 100] ∨ st = [117, 110, 97, 118, 97, 105, 108] ∨ st = [116, 114, 121, 97, 103, 97, 105, 110]
        · have h3 : (decide (st = [110, 111, 116, 102, 111, 117, 110, 100]) || decide (st = [117, 110, 97, 118, 97, 105, 108]) || decide (st = [116, 114, 121, 97, 103, 97, 105, 110])) = true := by
            rcases h2 with h | h | h <;> simp [h]
          simp only [h3, if_pos h2, if_neg h1, decide_eq_false h1]
          rfl
        · have h3 : (decide (st = [110, 111, 116, 102, 111, 117, 110, 100]) || decide (st = [117, 110, 97, 118, 97, 105, 108]) || decide (st = [116, 114, 121, 97, 103, 97, 105, 110])) = false := by
            simp only [not_or] at h2
            simp [h2]
          simp only [h3, if_neg h2, if_neg h1, decide_eq_false h1]
          rfl
  rw [hp1] at b1
  rw [hp2] at b2
  rw [hp3] at b3
  rw [hp4] at b4
  rw [hr1] at a1
  rw [hr2] at a2
  have HD := Lib.hid hd
  clear hr hp1 hp2 hp3 hp4 hr1 hr2 hSB hAB hd
  rcases ng with _ | _
  · rcases p1 with _ | _
    · rcases p2 with _ | _
      · rcases p3 with _ | _
        · rcases p4 with _ | _
          · go_enter Try.func54, Try.ntmps54
            go_wp2_with fail
            go_ret
            exact ⟨by rw [HD.out]; rfl, (Below.refl _ _).alloc (Nat.le_refl _) _⟩
          · rcases last with _ | _
            · rcases r2 with _ | _
              · go_enter Try.func54, Try.ntmps54
                go_wp2_with fail
                go_ret
                exact ⟨by rw [HD.out]; rfl, (Below.refl _ _).alloc (Nat.le_refl _) _⟩
              · go_enter Try.func54, Try.ntmps54
                go_wp2_with fail
                go_ret
                exact ⟨by rw [HD.out]; rfl, (Below.refl _ _).alloc (Nat.le_refl _) _⟩
            · rcases r1 with _ | _
              · rcases r2 with _ | _
                · go_enter Try.func54, Try.ntmps54
                  go_wp2_with fail
                  go_ret
                  exact ⟨by rw [HD.out]; rfl, (Below.refl _ _).alloc (Nat.le_refl _) _⟩
                · go_enter Try.func54, Try.ntmps54
                  go_wp2_with fail
                  go_ret
                  exact ⟨by rw [HD.out]; rfl, (Below.refl _ _).alloc (Nat.le_refl _) _⟩
              · go_enter Try.func54, Try.ntmps54
                go_wp2_with fail
                go_ret
                exact ⟨by rw [HD.out]; rfl, (Below.refl _ _).alloc (Nat.le_refl _) _⟩
        · rcases last with _ | _
          · rcases r2 with _ | _
            · go_enter Try.func54, Try.ntmps54
              go_wp2_with fail
              go_ret
              exact ⟨by rw [HD.out]; rfl, (Below.refl _ _).alloc (Nat.le_refl _) _⟩
            · go_enter Try.func54, Try.ntmps54
              go_wp2_with fail
              go_ret
              exact ⟨by rw [HD.out]; rfl, (Below.refl _ _).alloc (Nat.le_refl _) _⟩
          · rcases r1 with _ | _
            · rcases r2 with _ | _
              · go_enter Try.func54, Try.ntmps54
                go_wp2_with fail
                go_ret
                exact ⟨by rw [HD.out]; rfl, (Below.refl _ _).alloc (Nat.le_refl _) _⟩
              · go_enter Try.func54, Try.ntmps54
                go_wp2_with fail
                go_ret
                exact ⟨by rw [HD.out]; rfl, (Below.refl _ _).alloc (Nat.le_refl _) _⟩
            · go_enter Try.func54, Try.ntmps54
              go_wp2_with fail
              go_ret
              exact ⟨by rw [HD.out]; rfl, (Below.refl _ _).alloc (Nat.le_refl _) _⟩
      · rcases last with _ | _
        · rcases r2 with _ | _
          · go_enter Try.func54, Try.ntmps54
            go_wp2_with fail
            go_ret
            exact ⟨by rw [HD.out]; rfl, (Below.refl _ _).alloc (Nat.le_refl _) _⟩
          · go_enter Try.func54, Try.ntmps54
            go_wp2_with fail
            go_ret
            exact ⟨by rw [HD.out]; rfl, (Below.refl _ _).alloc (Nat.le_refl _) _⟩
        · rcases r1 with _ | _
          · rcases r2 with _ | _
            · go_enter Try.func54, Try.ntmps54
              go_wp2_with fail
              go_ret
              exact ⟨by rw [HD.out]; rfl, (Below.refl _ _).alloc (Nat.le_refl _) _⟩
            · go_enter Try.func54, Try.ntmps54
              go_wp2_with fail
              go_ret
              exact ⟨by rw [HD.out]; rfl, (Below.refl _ _).alloc (Nat.le_refl _) _⟩
          · go_enter Try.func54, Try.ntmps54
            go_wp2_with fail
            go_ret
            exact ⟨by rw [HD.out]; rfl, (Below.refl _ _).alloc (Nat.le_refl _) _⟩
    · rcases last with _ | _
      · rcases r1 with _ | _
        · go_enter Try.func54, Try.ntmps54
          go_wp2_with fail
          go_ret
          exact ⟨by rw [HD.out]; rfl, (Below.refl _ _).alloc (Nat.le_refl _) _⟩
        · go_enter Try.func54, Try.ntmps54
          go_wp2_with fail
          go_ret
          exact ⟨by rw [HD.out]; rfl, (Below.refl _ _).alloc (Nat.le_refl _) _⟩
      · rcases r1 with _ | _
        · go_enter Try.func54, Try.ntmps54
          go_wp2_with fail
          go_ret
          exact ⟨by rw [HD.out]; rfl, (Below.refl _ _).alloc (Nat.le_refl _) _⟩
        · go_enter Try.func54, Try.ntmps54
          go_wp2_with fail
          go_ret
          exact ⟨by rw [HD.out]; rfl, (Below.refl _ _).alloc (Nat.le_refl _) _⟩
  · go_enter Try.func54, Try.ntmps54
    go_wp2_with fail
    go_ret
    exact ⟨by rw [HD.out]; rfl, (Below.refl _ _).alloc (Nat.le_refl _) _⟩

/-- are the first k criteria default ones? -/
def pl.stdTo (cs : List Crit) (k : Nat) : Bool := (List.range k).all (fun i => match cs[i]? with
  | some c => pl.ssa c (decide ((i : Int) = (cs.length : Int) - 1))
  | none => true)
def pl.stdC (cs : List Crit) : Bool := pl.stdTo cs cs.length
theorem pl.stdTo_succ (cs : List Crit) (k : Nat) (c : Crit) (h : cs[k]? = some c) : pl.stdTo cs (k + 1) = (pl.stdTo cs k && pl.ssa c (decide ((k : Int) = (cs.length : Int) - 1))) := by
  unfold pl.stdTo
  rw [List.range_succ, List.all_append]
  simp [h]
theorem pl.stdTo_le (cs : List Crit) (k n : Nat) (h : k ≤ n) (hf : pl.stdTo cs k = false) : pl.stdTo cs n = false := by
  unfold pl.stdTo at hf ⊢
  rw [List.all_eq_false] at hf ⊢
  obtain ⟨x, hx, h2⟩ := hf
  exact ⟨x, List.mem_range.2 (by have := List.mem_range.1 hx; omega), h2⟩

set_option maxHeartbeats 1000000 in
theorem std_sp (nm : List UInt8) (x : Value) (cs : List Crit) (B : Nat) (w : World) (hx : Crs w B 110 x cs) (hl : cs.length ≤ 1000) :
    Calls Try.prog 42 #[.agg #[pl.strV nm, x]] w fun e w' => e = .returned (.bool (pl.stdC cs)) ∧ Below w.heap.size w w' := by
  have hat := hx.at
  obtain ⟨xa, xc, rfl⟩ := Row.shape hx
  obtain ⟨W1, hW1⟩ : ∃ W1, w.alloc (.cells #[pl.strV nm, .slice xa cs.length xc] 108) = W1 := ⟨_, rfl⟩
  have hB1 : Blk W1 w.heap.size #[pl.strV nm, .slice xa cs.length xc] 108 := by rw [← hW1]; exact Blk.new w _ _
  have hb1 : Below w.heap.size w W1 := by rw [← hW1]; exact (Below.refl _ _).alloc (Nat.le_refl _) _
  unfold pl.strV at hB1 hW1 ⊢
  have hat2 : ∀ W, Below w.heap.size w W → ∀ (k : Nat) (c : Crit), cs[k]? = some c → ∃ g, xa = some ⟨g, 0, none⟩ ∧ W.cell? ⟨g, k * 3, none⟩ = some (.bool c.1) ∧ W.cell? ⟨g, k * 3 + 1, none⟩ = some (pl.strV c.2.1) ∧ W.cell? ⟨g, k * 3 + 2, none⟩ = some (pl.strV c.2.2) := fun W hW k c hc => by
    obtain ⟨g, cap, hv, _, hg, h1, h2, h3⟩ := hat k c hc
    injection hv with hv _ _
    exact ⟨g, hv, by rw [below_cell hW _ _ hg]; exact h1, by rw [below_cell hW _ _ hg]; exact h2, by rw [below_cell hW _ _ hg]; exact h3⟩
  have HAT := Lib.hid hat2
  have HB1 := Lib.hid hB1
  have HBL := Lib.hid hb1
  have HW1 := Lib.hid hW1
  have y1 : W1.cell? ⟨w.heap.size, 1, none⟩ = some (.slice xa cs.length xc) := hB1.cell 1
  clear hat hat2 hB1 hb1 hx hW1
  go_enter Try.func42, Try.ntmps42
  go_wp2_with fail
  refine wp_name (fun W hW => ?_)
  have hWW : W = W1 := by rw [hW]; exact HW1.out
  clear hW
  subst hWW
  clear y1
  go_loopw [8] (fun i wr => ∃ k : Nat, k ≤ cs.length ∧ i = .int .i64 k ∧ Hid (pl.stdTo cs k = true) ∧ Below W.heap.size W wr) (fun i _ => cs.length - (intOf i).toNat)
  case atStart => exact ⟨0, Nat.zero_le _, rfl, Lib.hid rfl, Below.refl _ _⟩
  case round =>
    obtain ⟨k, hk, rfl, HA, hb⟩ := hrel
    have hbw : Below w.heap.size w wr := HBL.out.trans (hb.mono HBL.out.size)
    by_cases hlt : k < cs.length
    · obtain ⟨c, hc⟩ : ∃ c, cs[k]? = some c := ⟨_, List.getElem?_eq_getElem hlt⟩
      obtain ⟨g, rfl, c1, c2, c3⟩ := HAT.out wr hbw k c hc
      have hsu := pl.stdTo_succ cs k c hc
      rw [HA.out, Bool.true_and] at hsu
      obtain ⟨q, hq⟩ : ∃ q : Bool, ((k : Int) == (cs.length : Int) - 1) = q := ⟨_, rfl⟩
      have hq2 : decide ((k : Int) = (cs.length : Int) - 1) = q := by rw [← hq]; exact (Bool.beq_eq_decide_eq _ _).symm
      rw [hq2] at hsu
      have hss := fun W => ssa_sp c q W
      obtain ⟨rr, hrr⟩ : ∃ rr, pl.ssa c q = rr := ⟨_, rfl⟩
      rw [hrr] at hss hsu
      have hBr := HB1.out.below (hb) HB1.out.lt
      obtain ⟨cn, cst, cac⟩ := c
      unfold pl.strV at c2 c3 hss
      dsimp only at c1 c2 c3 hss
      have hal : Below wr.heap.size wr (wr.alloc (Obj.cells #[.bool cn, .string ⟨cst.toArray⟩, .string ⟨cac.toArray⟩] 110)) := (Below.refl _ _).alloc (Nat.le_refl _) _
      have z1 : (wr.alloc (Obj.cells #[.bool cn, .string ⟨cst.toArray⟩, .string ⟨cac.toArray⟩] 110)).cell? ⟨w.heap.size, 1, none⟩ = some (.slice (some ⟨g, 0, none⟩) cs.length xc) := (hBr.below hal hBr.lt).cell 1
      have HSS := Lib.hid hss
      have HSU := Lib.hid hsu
      have HBR := Lib.hid (hb.trans (hal.mono hb.size))
      clear hss hsu hq2 hrr hBr hal hc hbw
      rcases rr with _ | _
      all_goals
        go_wp2_with (go_at_call 54; refine (HSS.out _).mono ?_; rintro e w2 ⟨rfl, hb2⟩; have HB2 := Lib.hid (HBR.out.trans (hb2.mono HBR.out.size)); clear hb2)
      · have hf : pl.stdC cs = false := pl.stdTo_le cs (k + 1) cs.length hlt HSU.out
        go_ret
        exact ⟨by rw [hf]; rfl, HBL.out.trans (HB2.out.mono HBL.out.size)⟩
      · go_roundw
        case rel => exact ⟨k + 1, by omega, by go_num, HSU, HB2.out⟩
        case measure => simp [intOf]; omega
    · have hfin := HA.out
      have hke : k = cs.length := by omega
      rw [hke] at hfin
      have HFIN := Lib.hid hfin
      have HBW := Lib.hid hbw
      clear hfin hke hbw
      go_wp2_with fail
      go_ret
      exact ⟨by unfold pl.stdC; rw [HFIN.out]; rfl, HBW.out⟩

end Go.Proofs.Ytabeklpllphiaaa
