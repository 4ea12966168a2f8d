/-
  WALKS: Number, Set, Suffixes, ServersWithPort of spec.Conf.
-/
import Derived.Test.YtfkohahlpfejbaaDoorRv2
namespace Go.Proofs.YtfkohahlpfejbaaDoor
open Go.RowKit

theorem pl.numOf_snoc (l : List Opt) (x : Opt) (k d : Int) : pl.numOf (l ++ [x]) k d = if x.1 = k then x.2 else pl.numOf l k d := by unfold pl.numOf; rw [List.foldl_append]; rfl

set_option maxRecDepth 100000 in
set_option maxHeartbeats 4000000 in
theorem number_sp (vs vq vo : Value) (sv se : List (List UInt8)) (op : List Opt) (k d : Int) (w : World) (hs : RdS w vs sv) (hq : RdS w vq se) (ho : RdO w vo op) (hl : op.length ≤ 1000000) (hk : (k = 0 ∧ d = 1) ∨ (k = 1 ∧ d = 5) ∨ (k = 2 ∧ d = 2)) :
    Calls Tryd.prog 40 #[.agg #[vs, vq, vo], .int .i64 k] w fun e w' => e = .returned (.int .i64 (pl.numOf op k d)) ∧ Hid (Below w.heap.size w w') := by
  obtain ⟨a1, cs, rfl, _, _, hcs⟩ := hs
  obtain ⟨aq, cq, rfl, _, _, hcq⟩ := hq
  obtain ⟨ao, co, rfl, _, _, hco⟩ := ho
  have HC3 := Lib.hid hco
  clear hcs hcq hco
  rcases hk with ⟨rfl, rfl⟩ | ⟨rfl, rfl⟩ | ⟨rfl, rfl⟩
  · go_enter Tryd.func40, Tryd.ntmps40
    go_wp2_with fail
    refine wp_name (fun W hW => ?_)
    have hb : Below w.heap.size w W := by rw [hW]; repeat (first | exact Below.refl _ _ | refine Below.drew ?_ | refine Below.alloc ?_ (by simp) _)
    have HB := Lib.hid hb
    clear hW hb
    go_loopw [5, 15] (fun nv i wr => ∃ j : Nat, j ≤ op.length ∧ i = .int .i64 j ∧ nv = .int .i64 (pl.numOf (op.take j) 0 1) ∧ Below w.heap.size w wr) (fun _ i _ => op.length - (intOf i).toNat)
    case atStart => exact ⟨0, Nat.zero_le _, rfl, rfl, HB.out⟩
    case round =>
      obtain ⟨j, hj, rfl, rfl, hbr⟩ := hrel
      by_cases hlt : j < op.length
      · obtain ⟨x, hx⟩ : ∃ x, op[j]? = some x := ⟨_, List.getElem?_eq_getElem hlt⟩
        obtain ⟨g, o, rfl, hg, hqc, hqd, _⟩ := HC3.out j x hx
        have hq1 : wr.cell? ⟨g, o + j * 2, none⟩ = some (.int .i64 x.1) := by rw [below_cell hbr _ _ hg]; exact hqc
        have hq2 : wr.cell? ⟨g, o + j * 2 + 1, none⟩ = some (.int .i64 x.2) := by rw [below_cell hbr _ _ hg]; exact hqd
        have HX := Lib.hid hx
        have HBR := Lib.hid hbr
        clear hx hqc hqd
        rcases ht : (x.1 == 0) with _ | _
        · have hst : pl.numOf (op.take (j + 1)) 0 1 = pl.numOf (op.take j) 0 1 := by rw [pl.take_at op j x HX.out, pl.numOf_snoc, if_neg (by simpa using ht)]
          have HST := Lib.hid hst
          clear hst
          go_wp2_with fail
          go_roundw
          case rel => exact ⟨j + 1, by omega, by go_num, by rw [HST.out], HBR.out.alloc HBR.out.size _⟩
          case measure => simp [intOf]; omega
        · have hst : pl.numOf (op.take (j + 1)) 0 1 = x.2 := by rw [pl.take_at op j x HX.out, pl.numOf_snoc, if_pos (by simpa using ht)]
          have HST := Lib.hid hst
          clear hst
          go_wp2_with fail
          go_roundw
          case rel => exact ⟨j + 1, by omega, by go_num, by rw [HST.out], HBR.out.alloc HBR.out.size _⟩
          case measure => simp [intOf]; omega
      · have hje : op.take j = op := List.take_of_length_le (by omega)
        rw [hje]
        go_wp2_with fail
        go_ret
        exact ⟨rfl, Lib.hid hbr⟩
  · go_enter Tryd.func40, Tryd.ntmps40
    go_wp2_with fail
    refine wp_name (fun W hW => ?_)
    have hb : Below w.heap.size w W := by rw [hW]; repeat (first | exact Below.refl _ _ | refine Below.drew ?_ | refine Below.alloc ?_ (by simp) _)
    have HB := Lib.hid hb
    clear hW hb
    go_loopw [5, 15] (fun nv i wr => ∃ j : Nat, j ≤ op.length ∧ i = .int .i64 j ∧ nv = .int .i64 (pl.numOf (op.take j) 1 5) ∧ Below w.heap.size w wr) (fun _ i _ => op.length - (intOf i).toNat)
    case atStart => exact ⟨0, Nat.zero_le _, rfl, rfl, HB.out⟩
    case round =>
      obtain ⟨j, hj, rfl, rfl, hbr⟩ := hrel
      by_cases hlt : j < op.length
      · obtain ⟨x, hx⟩ : ∃ x, op[j]? = some x := ⟨_, List.getElem?_eq_getElem hlt⟩
        obtain ⟨g, o, rfl, hg, hqc, hqd, _⟩ := HC3.out j x hx
        have hq1 : wr.cell? ⟨g, o + j * 2, none⟩ = some (.int .i64 x.1) := by rw [below_cell hbr _ _ hg]; exact hqc
        have hq2 : wr.cell? ⟨g, o + j * 2 + 1, none⟩ = some (.int .i64 x.2) := by rw [below_cell hbr _ _ hg]; exact hqd
        have HX := Lib.hid hx
        have HBR := Lib.hid hbr
        clear hx hqc hqd
        rcases ht : (x.1 == 1) with _ | _
        · have hst : pl.numOf (op.take (j + 1)) 1 5 = pl.numOf (op.take j) 1 5 := by rw [pl.take_at op j x HX.out, pl.numOf_snoc, if_neg (by simpa using ht)]
          have HST := Lib.hid hst
          clear hst
          go_wp2_with fail
          go_roundw
          case rel => exact ⟨j + 1, by omega, by go_num, by rw [HST.out], HBR.out.alloc HBR.out.size _⟩
          case measure => simp [intOf]; omega
        · have hst : pl.numOf (op.take (j + 1)) 1 5 = x.2 := by rw [pl.take_at op j x HX.out, pl.numOf_snoc, if_pos (by simpa using ht)]
          have HST := Lib.hid hst
          clear hst
          go_wp2_with fail
          go_roundw
          case rel => exact ⟨j + 1, by omega, by go_num, by rw [HST.out], HBR.out.alloc HBR.out.size _⟩
          case measure => simp [intOf]; omega
      · have hje : op.take j = op := List.take_of_length_le (by omega)
        rw [hje]
        go_wp2_with fail
        go_ret
        exact ⟨rfl, Lib.hid hbr⟩
  · go_enter Tryd.func40, Tryd.ntmps40
    go_wp2_with fail
    refine wp_name (fun W hW => ?_)
    have hb : Below w.heap.size w W := by rw [hW]; repeat (first | exact Below.refl _ _ | refine Below.drew ?_ | refine Below.alloc ?_ (by simp) _)
    have HB := Lib.hid hb
    clear hW hb
    go_loopw [5, 15] (fun nv i wr => ∃ j : Nat, j ≤ op.length ∧ i = .int .i64 j ∧ nv = .int .i64 (pl.numOf (op.take j) 2 2) ∧ Below w.heap.size w wr) (fun _ i _ => op.length - (intOf i).toNat)
    case atStart => exact ⟨0, Nat.zero_le _, rfl, rfl, HB.out⟩
    case round =>
      obtain ⟨j, hj, rfl, rfl, hbr⟩ := hrel
      by_cases hlt : j < op.length
      · obtain ⟨x, hx⟩ : ∃ x, op[j]? = some x := ⟨_, List.getElem?_eq_getElem hlt⟩
        obtain ⟨g, o, rfl, hg, hqc, hqd, _⟩ := HC3.out j x hx
        have hq1 : wr.cell? ⟨g, o + j * 2, none⟩ = some (.int .i64 x.1) := by rw [below_cell hbr _ _ hg]; exact hqc
        have hq2 : wr.cell? ⟨g, o + j * 2 + 1, none⟩ = some (.int .i64 x.2) := by rw [below_cell hbr _ _ hg]; exact hqd
        have HX := Lib.hid hx
        have HBR := Lib.hid hbr
        clear hx hqc hqd
        rcases ht : (x.1 == 2) with _ | _
        · have hst : pl.numOf (op.take (j + 1)) 2 2 = pl.numOf (op.take j) 2 2 := by rw [pl.take_at op j x HX.out, pl.numOf_snoc, if_neg (by simpa using ht)]
          have HST := Lib.hid hst
          clear hst
          go_wp2_with fail
          go_roundw
          case rel => exact ⟨j + 1, by omega, by go_num, by rw [HST.out], HBR.out.alloc HBR.out.size _⟩
          case measure => simp [intOf]; omega
        · have hst : pl.numOf (op.take (j + 1)) 2 2 = x.2 := by rw [pl.take_at op j x HX.out, pl.numOf_snoc, if_pos (by simpa using ht)]
          have HST := Lib.hid hst
          clear hst
          go_wp2_with fail
          go_roundw
          case rel => exact ⟨j + 1, by omega, by go_num, by rw [HST.out], HBR.out.alloc HBR.out.size _⟩
          case measure => simp [intOf]; omega
      · have hje : op.take j = op := List.take_of_length_le (by omega)
        rw [hje]
        go_wp2_with fail
        go_ret
        exact ⟨rfl, Lib.hid hbr⟩

set_option maxRecDepth 100000 in
set_option maxHeartbeats 4000000 in
theorem set_sp (vs vq vo : Value) (sv se : List (List UInt8)) (op : List Opt) (k : Int) (w : World) (hs : RdS w vs sv) (hq : RdS w vq se) (ho : RdO w vo op) (hl : op.length ≤ 1000000) :
    Calls Tryd.prog 41 #[.agg #[vs, vq, vo], .int .i64 k] w fun e w' => e = .returned (.bool (pl.setOf op k)) ∧ Hid (Below w.heap.size w w') := by
  obtain ⟨a1, cs, rfl, _, _, hcs⟩ := hs
  obtain ⟨aq, cq, rfl, _, _, hcq⟩ := hq
  obtain ⟨ao, co, rfl, _, _, hco⟩ := ho
  have HC3 := Lib.hid hco
  clear hcs hcq hco
  go_enter Tryd.func41, Tryd.ntmps41
  go_wp2_with fail
  refine wp_name (fun W hW => ?_)
  have hb : Below w.heap.size w W := by rw [hW]; repeat (first | exact Below.refl _ _ | refine Below.drew ?_ | refine Below.alloc ?_ (by simp) _)
  have HB := Lib.hid hb
  clear hW hb
  go_loopw [10] (fun i wr => ∃ j : Nat, j ≤ op.length ∧ i = .int .i64 j ∧ Hid ((op.take j).all (fun o => !decide (o.1 = k)) = true) ∧ Below w.heap.size w wr) (fun i _ => op.length - (intOf i).toNat)
  case atStart => exact ⟨0, Nat.zero_le _, rfl, Lib.hid rfl, HB.out⟩
  case round =>
    obtain ⟨j, hj, rfl, HA, hbr⟩ := hrel
    by_cases hlt : j < op.length
    · obtain ⟨x, hx⟩ : ∃ x, op[j]? = some x := ⟨_, List.getElem?_eq_getElem hlt⟩
      obtain ⟨g, o, rfl, hg, hqc, hqd, _⟩ := HC3.out j x hx
      have hq1 : wr.cell? ⟨g, o + j * 2, none⟩ = some (.int .i64 x.1) := by rw [below_cell hbr _ _ hg]; exact hqc
      have hq2 : wr.cell? ⟨g, o + j * 2 + 1, none⟩ = some (.int .i64 x.2) := by rw [below_cell hbr _ _ hg]; exact hqd
      have HX := Lib.hid hx
      have HBR := Lib.hid hbr
      clear hx hqc hqd
      rcases ht : (x.1 == k) with _ | _
      · have hne : decide (x.1 = k) = false := decide_eq_false (by simpa using ht)
        have HAA := Lib.hid (pl.all_take op (fun o => !decide (o.1 = k)) j x HX.out HA.out (by simp only [hne]; rfl))
        clear hne
        go_wp2_with fail
        go_roundw
        case rel => exact ⟨j + 1, by omega, by go_num, HAA, HBR.out.alloc HBR.out.size _⟩
        case measure => simp [intOf]; omega
      · have hys : pl.setOf op k = true := by
          unfold pl.setOf
          rw [List.any_eq_true]
          exact ⟨x, List.mem_of_getElem? HX.out, by simpa using ht⟩
        have HYS := Lib.hid hys
        clear hys
        go_wp2_with fail
        go_ret
        exact ⟨by rw [HYS.out]; rfl, Lib.hid (HBR.out.alloc HBR.out.size _)⟩
    · have hje : op.take j = op := List.take_of_length_le (by omega)
      rw [hje] at HA
      have hno : pl.setOf op k = false := by
        unfold pl.setOf
        rw [List.any_eq_false]
        intro x hx
        have h := HA.out
        rw [List.all_eq_true] at h
        have := h x hx
        simpa using this
      have HNO := Lib.hid hno
      clear hno hje
      go_wp2_with fail
      go_ret
      exact ⟨by rw [HNO.out]; rfl, Lib.hid hbr⟩

set_option maxRecDepth 100000 in
set_option maxHeartbeats 4000000 in
theorem swp_sp (vs vq vo : Value) (sv se : List (List UInt8)) (op : List Opt) (w : World) (hs : RdS w vs sv) (hq : RdS w vq se) (ho : RdO w vo op) (hl : sv.length ≤ 1000000) (hf : ∀ q ∈ sv, q.length ≤ 2147483647) :
    Calls Tryd.prog 39 #[.agg #[vs, vq, vo]] w fun e w' => ∃ v, e = .returned v ∧ Hid (Strs w' w.heap.size v (sv.map pl.j53)) ∧ Hid (Below w.heap.size w w') := by
  obtain ⟨a1, cs, rfl, _, _, hcs⟩ := hs
  obtain ⟨aq, cq, rfl, _, _, hcq⟩ := hq
  obtain ⟨ao, co, rfl, _, _, hco⟩ := ho
  have HC1 := Lib.hid hcs
  have HF := Lib.hid hf
  clear hcs hcq hco hf
  go_enter Tryd.func39, Tryd.ntmps39
  go_wp2_with fail
  refine wp_name (fun W hW => ?_)
  have hb : Below w.heap.size w W := by rw [hW]; repeat (first | exact Below.refl _ _ | refine Below.drew ?_ | refine Below.alloc ?_ (by simp) _)
  have HB := Lib.hid hb
  clear hW hb
  go_loopw [3, 9] (fun v i wr => ∃ k : Nat, k ≤ sv.length ∧ i = .int .i64 k ∧ Hid (Strs wr w.heap.size v ((sv.take k).map pl.j53)) ∧ Below w.heap.size w wr) (fun _ i _ => sv.length - (intOf i).toNat)
  case atStart => exact ⟨0, Nat.zero_le _, rfl, Lib.hid (Strs.nil _ _), HB.out⟩
  case round =>
    obtain ⟨k, hk, rfl, HS, hbr⟩ := hrel
    by_cases hlt : k < sv.length
    · obtain ⟨q, hq⟩ : ∃ q, sv[k]? = some q := ⟨_, List.getElem?_eq_getElem hlt⟩
      obtain ⟨g, o, rfl, hg, hqc⟩ := HC1.out k q hq
      have hq1 : wr.cell? ⟨g, o + k, none⟩ = some (pl.strV q) := by rw [below_cell hbr _ _ hg]; exact hqc
      have hql : q.length ≤ 2147483647 := HF.out q (List.mem_of_getElem? hq)
      have hj := fun W => joined_sp ⟨q.toArray⟩ ⟨#[53, 51]⟩ W (by show q.length ≤ _; omega) (by decide)
      have hj' : ∀ W, Calls Tryd.prog 60 #[.string ⟨q.toArray⟩, .string ⟨#[53, 51]⟩] W fun e w' => e = .returned (.string ⟨(pl.j53 q).toArray⟩) ∧ ∃ n, w' = W.drewN n := hj
      have hst : (sv.take (k + 1)).map pl.j53 = (sv.take k).map pl.j53 ++ [pl.j53 q] := by rw [pl.take_at sv k q hq, List.map_append]; rfl
      have hlen : ((sv.take k).map pl.j53).length < 8796093022207 := by rw [List.length_map]; have := List.length_take_le' k sv; omega
      unfold pl.strV at hq1
      have HJ := Lib.hid hj'
      have HST := Lib.hid hst
      have HBR := Lib.hid hbr
      have HLN := Lib.hid hlen
      clear hj hj' hst hq hqc hlen
      go_wp2_with (first
        | (go_at_call 60; refine (HJ.out _).mono ?_; rintro e w2 ⟨rfl, n, rfl⟩; have HB2 := Lib.hid (below_drewN HBR.out n); have HS2 := Lib.hid (HS.out.below (below_drewN (Below.refl wr.heap.size wr) n)))
        | (at_builtin; refine app_str (w := w) (pl.j53 q) rfl _ _ rfl rfl w.heap.size HS2.out rfl rfl HLN.out HB2.out (Nat.le_refl _) ?_; intro v' w' hS' hb' _; rw [← HST.out] at hS'; have HS3 := Lib.hid hS'; have HB3 := Lib.hid hb'; clear hS' hb'))
      go_roundw
      case rel => exact ⟨k + 1, by omega, by go_num, HS3, HB3.out⟩
      case measure => simp [intOf]; omega
    · have hke : sv.take k = sv := List.take_of_length_le (by omega)
      rw [hke] at HS
      go_wp2_with fail
      go_ret
      exact ⟨_, rfl, HS, Lib.hid hbr⟩

/-- the suffixes that the reference reckons -/
def pl.sfx (se : List (List UInt8)) (hn : List UInt8) : List (List UInt8) := if se = [] then pl.defS hn else se.map pl.rooted

set_option maxRecDepth 100000 in
set_option maxHeartbeats 4000000 in
theorem sfx_sp (vs vq vo : Value) (sv se : List (List UInt8)) (op : List Opt) (hn : ByteArray) (w : World) (hs : RdS w vs sv) (hq : RdS w vq se) (ho : RdO w vo op) (hl : se.length ≤ 1000000) (hf : ∀ q ∈ se, q.length ≤ 2147483647) (hh : hn.size ≤ 17592186044416) :
    Calls Tryd.prog 24 #[.agg #[vs, vq, vo], .string hn] w fun e w' => ∃ v, e = .returned v ∧ Hid (Strs w' w.heap.size v (pl.sfx se hn.data.toList)) ∧ Hid (Below w.heap.size w w') := by
  obtain ⟨a1, cs, rfl, _, _, hcs⟩ := hs
  obtain ⟨aq, cq, rfl, _, _, hcq⟩ := hq
  obtain ⟨ao, co, rfl, _, _, hco⟩ := ho
  have hz := pl.cutS_size hn.data.toList 46
  have hnl : hn.data.toList.length = hn.size := by simp
  obtain ⟨A, hA⟩ : ∃ A : ByteArray, A.data.toList = (pl.cutS hn.data.toList 46).1 := ⟨⟨(pl.cutS hn.data.toList 46).1.toArray⟩, rfl⟩
  obtain ⟨B, hB⟩ : ∃ B : ByteArray, B.data.toList = (pl.cutS hn.data.toList 46).2.1 := ⟨⟨(pl.cutS hn.data.toList 46).2.1.toArray⟩, rfl⟩
  obtain ⟨b, hb⟩ : ∃ b, (pl.cutS hn.data.toList 46).2.2 = b := ⟨_, rfl⟩
  have hcut : pl.cutS hn.data.toList 46 = (A.data.toList, B.data.toList, b) := by rw [hA, hB, ← hb]
  have hBs : B.size ≤ 17592186044416 := by
    have : B.data.toList.length = B.size := by simp
    rw [hB] at this
    omega
  have hno : b = false → B.size = 0 := by
    intro e
    rw [e] at hb
    have : B.data.toList.length = B.size := by simp
    rw [hB] at this
    rw [← this]
    unfold pl.cutS at hb ⊢
    split
    · rfl
    · rename_i h; rw [if_neg h] at hb; cases hb
  have hdef : pl.defS hn.data.toList = if B.data.toList = [] then [] else [pl.rooted B.data.toList] := by rw [pl.defS, hB]
  have HC2 := Lib.hid hcq
  have HF := Lib.hid hf
  have HCUT := Lib.hid hcut
  have HNO := Lib.hid hno
  have HDEF := Lib.hid hdef
  have HBS := Lib.hid hBs
  have HHH := Lib.hid hh
  obtain ⟨W1, hW1⟩ : ∃ W1, w.alloc (.cells #[.slice a1 sv.length cs, .slice aq se.length cq, .slice ao op.length co] 45) = W1 := ⟨_, rfl⟩
  have hbk : Blk W1 w.heap.size #[.slice a1 sv.length cs, .slice aq se.length cq, .slice ao op.length co] 45 := by rw [← hW1]; exact Blk.new w _ _
  have hb1 : Below w.heap.size w W1 := by rw [← hW1]; exact (Below.refl _ _).alloc (Nat.le_refl _) _
  have HW1 := Lib.hid hW1
  have HBK := Lib.hid hbk
  have HB1 := Lib.hid hb1
  clear hcs hcq hco hf hA hB hb hcut hz hnl hno hdef hBs hh hW1 hbk hb1
  go_enter Tryd.func24, Tryd.ntmps24
  go_wp2_with fail
  refine wp_name (fun W hW => ?_)
  have hWW : W = W1 := by rw [hW]; exact HW1.out
  clear hW
  subst hWW
  go_loopw [5, 14] (fun v i wr => ∃ k : Nat, k ≤ se.length ∧ i = .int .i64 k ∧ Hid (Strs wr W.heap.size v ((se.take k).map pl.rooted)) ∧ Below W.heap.size W wr) (fun _ i _ => se.length - (intOf i).toNat)
  case atStart => exact ⟨0, Nat.zero_le _, rfl, Lib.hid (Strs.nil _ _), Below.refl _ _⟩
  case round =>
    obtain ⟨k, hk, rfl, HS, hbr⟩ := hrel
    by_cases hlt : k < se.length
    · obtain ⟨q, hq⟩ : ∃ q, se[k]? = some q := ⟨_, List.getElem?_eq_getElem hlt⟩
      obtain ⟨g, o, rfl, hg, hqc⟩ := HC2.out k q hq
      have hbw : Below w.heap.size w wr := HB1.out.trans (hbr.mono HB1.out.size)
      have hq1 : wr.cell? ⟨g, o + k, none⟩ = some (pl.strV q) := by rw [below_cell hbw _ _ hg]; exact hqc
      have hql : q.length ≤ 2147483647 := HF.out q (List.mem_of_getElem? hq)
      have hj := fun W => root_sp ⟨q.toArray⟩ W (by show q.length ≤ _; omega)
      have hj' : ∀ W, Calls Tryd.prog 51 #[.string ⟨q.toArray⟩] W fun e w' => e = .returned (.string ⟨(pl.rooted q).toArray⟩) ∧ W = w' := hj
      have hst : (se.take (k + 1)).map pl.rooted = (se.take k).map pl.rooted ++ [pl.rooted q] := by rw [pl.take_at se k q hq, List.map_append]; rfl
      have hlen : ((se.take k).map pl.rooted).length < 8796093022207 := by rw [List.length_map]; have := List.length_take_le' k se; omega
      unfold pl.strV at hq1
      have HJ := Lib.hid hj'
      have HST := Lib.hid hst
      have HBR := Lib.hid hbr
      have HLN := Lib.hid hlen
      clear hj hj' hst hq hqc hlen hbw
      go_wp2_with (first
        | (go_at_call 51; refine (HJ.out _).mono ?_; rintro e w2 ⟨rfl, rfl⟩)
        | (at_builtin; refine app_str (w := W) (pl.rooted q) rfl _ _ rfl rfl W.heap.size HS.out rfl rfl HLN.out HBR.out (Nat.le_refl _) ?_; intro v' w' hS' hb' _; rw [← HST.out] at hS'; have HS3 := Lib.hid hS'; have HB3 := Lib.hid hb'; clear hS' hb'))
      go_roundw
      case rel => exact ⟨k + 1, by omega, by go_num, HS3, HB3.out⟩
      case measure => simp [intOf]; omega
    · have hke : se.take k = se := List.take_of_length_le (by omega)
      rw [hke] at HS
      have z1 : ∀ n, (wr.drewN n).cell? ⟨w.heap.size, 1, none⟩ = some (.slice aq se.length cq) := fun n => ((HBK.out.below hbr HBK.out.lt).drewN n).cell 1
      have HBR := Lib.hid hbr
      obtain ⟨a5, c5, rfl, _⟩ := HS.out.form
      have hln : (se.map pl.rooted).length = se.length := List.length_map _
      rw [hln] at HS ⊢
      clear hln hke
      by_cases h0 : B.size = 0
      · have he := pl.emp_of B h0
        have hr : pl.sfx se hn.data.toList = se.map pl.rooted := by
          unfold pl.sfx
          by_cases hse : se = []
          · rw [if_pos hse, HDEF.out, if_pos (pl.nil_of B h0), hse]; rfl
          · rw [if_neg hse]
        have HR := Lib.hid hr
        have HE := Lib.hid he
        clear hr h0
        rcases b with _ | _
        all_goals
          go_wp2_with (first | (go_at_call 52; refine (cut_val hn A B 46 _ _ HHH.out HCUT.out).mono ?_; rintro e w' ⟨rfl, n, rfl⟩; have z1' := z1 n; have HSN := Lib.hid (HS.out.below (below_drewN (Below.refl wr.heap.size wr) n)); have HBN := Lib.hid (below_drewN HBR.out n)))
          go_ret
          exact ⟨_, rfl, Lib.hid (by rw [HR.out]; exact HSN.out.mono HB1.out.size), Lib.hid (HB1.out.trans (HBN.out.mono HB1.out.size))⟩
      · have hbt : b = true := by
          rcases b with _ | _
          · exact absurd (HNO.out rfl) h0
          · rfl
        subst hbt
        have he := pl.ne_empty B h0
        by_cases hse : se = []
        · have hr : pl.sfx se hn.data.toList = [pl.rooted B.data.toList] := by
            unfold pl.sfx
            rw [if_pos hse, HDEF.out, if_neg (pl.data_ne B h0)]
          have hm : se.map pl.rooted = [] := by rw [hse]; rfl
          rw [hm] at HS
          have l0 : ((se.length : Int) == 0) = true := by rw [hse]; rfl
          have HR := Lib.hid hr
          have HSE := Lib.hid hse
          clear hr h0 hse hm
          go_wp2_with (first
            | (go_at_call 52; refine (cut_val hn A B 46 _ _ HHH.out HCUT.out).mono ?_; rintro e w' ⟨rfl, n, rfl⟩; have z1' := z1 n; have HSN := Lib.hid (HS.out.below (below_drewN (Below.refl wr.heap.size wr) n)); have HBN := Lib.hid (below_drewN HBR.out n))
            | (go_at_call 51; refine (root_sp B _ HBS.out).mono ?_; rintro e w' ⟨rfl, rfl⟩)
            | (at_builtin; refine app_str (w := W) (pl.rooted B.data.toList) rfl _ _ rfl rfl W.heap.size HSN.out rfl rfl (by simp) HBN.out (Nat.le_refl _) ?_; intro v' w' hS hb' _))
          go_ret
          exact ⟨_, rfl, Lib.hid (by rw [HR.out]; exact hS.mono HB1.out.size), Lib.hid (HB1.out.trans (hb'.mono HB1.out.size))⟩
        · have hr : pl.sfx se hn.data.toList = se.map pl.rooted := by unfold pl.sfx; rw [if_neg hse]
          have l0 : ((se.length : Int) == 0) = false := by rw [beq_eq_false_iff_ne]; have := List.length_pos_iff.2 hse; omega
          have HR := Lib.hid hr
          clear hr h0 hse
          go_wp2_with (first
            | (go_at_call 52; refine (cut_val hn A B 46 _ _ HHH.out HCUT.out).mono ?_; rintro e w' ⟨rfl, n, rfl⟩; have z1' := z1 n; have HSN := Lib.hid (HS.out.below (below_drewN (Below.refl wr.heap.size wr) n)); have HBN := Lib.hid (below_drewN HBR.out n)))
          go_ret
          exact ⟨_, rfl, Lib.hid (by rw [HR.out]; exact HSN.out.mono HB1.out.size), Lib.hid (HB1.out.trans (HBN.out.mono HB1.out.size))⟩

end Go.Proofs.YtfkohahlpfejbaaDoor
