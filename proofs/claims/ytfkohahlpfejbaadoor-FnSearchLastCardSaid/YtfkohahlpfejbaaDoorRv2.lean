/-
  WALK: spec.Conf.Write.
-/
import Derived.Test.YtfkohahlpfejbaaDoorPlRv
namespace Go.Proofs.YtfkohahlpfejbaaDoor
open Go.RowKit

def WrRes (c : Cnf) (apart : Bool) (w : World) (e : Ending) (w' : World) : Prop :=
  Below w.heap.size w w' ∧ ((pl.rvOk c = true ∧ e = .returned (.tuple #[.string ⟨(pl.rvText c apart).toArray⟩, .bool true])) ∨ (pl.rvOk c = false ∧ e = .returned (.tuple #[.string ⟨#[]⟩, .bool false])))

theorem opt_any (o : Opt) (q : Bool) (w : World) (hq : pl.optOk o = q) (hn : o.2 < 9223372036854775808) :
    Calls Tryd.prog 59 #[.agg #[.int .i64 o.1, .int .i64 o.2]] w (OptRes o q w) := by
  obtain ⟨k, n⟩ := o
  by_cases h : k < 0 ∨ 9 ≤ k
  · have : q = false := by
      rw [← hq]
      rcases h with h | h
      · exact pl.optOk_low k n h
      · exact pl.optOk_big k n h
    subst this
    exact opt_out k n w h
  · by_cases h2 : 2 < k
    · have : q = true := by rw [← hq]; exact pl.optOk_flag k n h2 (by omega)
      subst this
      obtain ⟨K, rfl⟩ : ∃ K : Nat, k = (K : Int) := ⟨k.toNat, by omega⟩
      exact opt_flag K n w (by omega) (by omega)
    · have : k = 0 ∨ k = 1 ∨ k = 2 := by omega
      rcases this with rfl | rfl | rfl
      · exact opt_num0 n q w hq hn
      · exact opt_num1 n q w hq hn
      · exact opt_num2 n q w hq hn

theorem addr_is (p : List UInt8) (o : Bool) (hs : p.length ≤ 2147483648) (ho : (pl.addr p).isSome = o) (w : World) :
    Calls Tryd.prog 15 #[.string ⟨p.toArray⟩] w fun e w' => (∃ a n c, e = .returned (.tuple #[.slice a n c, .bool o])) ∧ Hid (Below w.heap.size w w') := by
  refine (addr_sp ⟨p.toArray⟩ w hs).mono fun e w' ⟨hb, hr⟩ => ?_
  rcases hr with ⟨v, l, h2, he, hY⟩ | ⟨h2, a, n, c, h3⟩
  · obtain ⟨a, c, rfl, _⟩ := hY.reads
    have h2' : pl.addr p = some l := h2
    rw [h2'] at ho
    subst ho
    exact ⟨⟨_, _, _, he⟩, Lib.hid hb⟩
  · have h2' : pl.addr p = none := h2
    rw [h2'] at ho
    subst ho
    exact ⟨⟨_, _, _, h3⟩, Lib.hid hb⟩
theorem plain_is (p : List UInt8) (o : Bool) (hs : p.length ≤ 2147483648) (ho : pl.plain p = o) (w : World) :
    Calls Tryd.prog 20 #[.string ⟨p.toArray⟩] w fun e w' => e = .returned (.bool o) ∧ Hid (Below w.heap.size w w') := by
  refine (plain_sp ⟨p.toArray⟩ w (by show p.length ≤ _; omega)).mono fun e w' ⟨he, hb⟩ => ⟨?_, Lib.hid hb⟩
  rw [he, ← ho]
theorem app_ba (a b : ByteArray) : (a ++ b).data.toList = a.data.toList ++ b.data.toList := by simp [ByteArray.data_append]
theorem pl.take_at {α : Type} (l : List α) (k : Nat) (x : α) (h : l[k]? = some x) : l.take (k + 1) = l.take k ++ [x] := by
  obtain ⟨hk, rfl⟩ := List.getElem?_eq_some_iff.1 h
  rw [List.take_succ_eq_append_getElem hk]
theorem pl.rvServers_snoc (l : List (List UInt8)) (x : List UInt8) : pl.rvServers (l ++ [x]) = pl.rvServers l ++ (pl.rvSrv ++ (x ++ [10])) := by simp [pl.rvServers]

theorem pl.rvApart_snoc (l : List Opt) (x : Opt) : pl.rvApart (l ++ [x]) = pl.rvApart l ++ (pl.rvOpt ++ ([32] ++ (pl.optTx x ++ [10]))) := by simp [pl.rvApart]
theorem pl.rvOne_one (x : Opt) : pl.rvOne [x] = pl.rvOpt ++ ([32] ++ pl.optTx x) := by simp [pl.rvOne]
theorem pl.rvOne_snoc (l : List Opt) (x : Opt) (h : l ≠ []) : pl.rvOne (l ++ [x]) = pl.rvOne l ++ ([32] ++ pl.optTx x) := by
  unfold pl.rvOne
  rw [if_neg h, if_neg (by simp), List.flatMap_append]
  simp [List.append_assoc]
theorem write_big (vs vq vo : Value) (sv se : List (List UInt8)) (op : List Opt) (apart : Bool) (w : World) (hs : RdS w vs sv) (hq : RdS w vq se) (ho : RdO w vo op) (h : 3 < sv.length ∨ 6 < se.length ∨ 20 < op.length) :
    Calls Tryd.prog 38 #[.agg #[vs, vq, vo], .bool apart] w (WrRes (sv, se, op) apart w) := by
  have hno : pl.rvOk (sv, se, op) = false := by
    unfold pl.rvOk
    rcases h with h | h | h
    · rw [decide_eq_false (p := (sv, se, op).1.length ≤ 3) (by show ¬ (sv.length ≤ 3); omega)]; rfl
    · rw [decide_eq_false (p := (sv, se, op).2.1.length ≤ 6) (by show ¬ (se.length ≤ 6); omega)]; simp
    · rw [decide_eq_false (p := (sv, se, op).2.2.length ≤ 20) (by show ¬ (op.length ≤ 20); omega)]; simp
  have HNO := Lib.hid hno
  obtain ⟨a1, cs, rfl, _, _, hcs⟩ := hs
  obtain ⟨aq, cq, rfl, _, _, hcq⟩ := hq
  obtain ⟨ao, co, rfl, _, _, hco⟩ := ho
  clear hno hcs hcq hco
  by_cases h3 : (3 : Int) < (sv.length : Int)
  · clear h
    go_enter Tryd.func38, Tryd.ntmps38
    go_wp2_with fail
    go_ret2
    exact ⟨(Below.refl _ _).alloc (Nat.le_refl _) _, .inr ⟨HNO.out, rfl⟩⟩
  by_cases h6 : (6 : Int) < (se.length : Int)
  · clear h
    go_enter Tryd.func38, Tryd.ntmps38
    go_wp2_with fail
    go_ret2
    exact ⟨(Below.refl _ _).alloc (Nat.le_refl _) _, .inr ⟨HNO.out, rfl⟩⟩
  have h20 : (20 : Int) < (op.length : Int) := by omega
  clear h
  go_enter Tryd.func38, Tryd.ntmps38
  go_wp2_with fail
  go_ret2
  exact ⟨(Below.refl _ _).alloc (Nat.le_refl _) _, .inr ⟨HNO.out, rfl⟩⟩

set_option maxRecDepth 100000 in
set_option maxHeartbeats 8000000 in
theorem write_sp (vs vq vo : Value) (sv se : List (List UInt8)) (op : List Opt) (apart : Bool) (w : World) (hs : RdS w vs sv) (hq : RdS w vq se) (ho : RdO w vo op)
    (hf1 : ∀ q ∈ sv, q.length ≤ 2147483647) (hf2 : ∀ q ∈ se, q.length ≤ 2147483647) :
    Calls Tryd.prog 38 #[.agg #[vs, vq, vo], .bool apart] w (WrRes (sv, se, op) apart w) := by
  by_cases hbig : 3 < sv.length ∨ 6 < se.length ∨ 20 < op.length
  · exact write_big vs vq vo sv se op apart w hs hq ho hbig
  obtain ⟨a1, cs, rfl, _, _, hcs⟩ := hs
  obtain ⟨aq, cq, rfl, _, _, hcq⟩ := hq
  obtain ⟨ao, co, rfl, _, _, hco⟩ := ho
  have n3 : ¬ ((3 : Int) < (sv.length : Int)) := by omega
  have n6 : ¬ ((6 : Int) < (se.length : Int)) := by omega
  have n20 : ¬ ((20 : Int) < (op.length : Int)) := by omega
  have hno : sv.all (fun s => (pl.addr s).isSome) = false ∨ se.all pl.plain = false ∨ op.all pl.optOk = false → pl.rvOk (sv, se, op) = false := fun h => by
    unfold pl.rvOk
    rcases h with h | h | h
    · rw [show (sv, se, op).1.all (fun s => (pl.addr s).isSome) = false from h]; simp
    · rw [show (sv, se, op).2.1.all pl.plain = false from h]; simp
    · rw [show (sv, se, op).2.2.all pl.optOk = false from h]; simp
  have hyes : sv.all (fun s => (pl.addr s).isSome) = true → se.all pl.plain = true → op.all pl.optOk = true → pl.rvOk (sv, se, op) = true := fun h1 h2 h3 => by
    unfold pl.rvOk
    rw [decide_eq_true (p := (sv, se, op).1.length ≤ 3) (by show sv.length ≤ 3; omega), decide_eq_true (p := (sv, se, op).2.1.length ≤ 6) (by show se.length ≤ 6; omega), decide_eq_true (p := (sv, se, op).2.2.length ≤ 20) (by show op.length ≤ 20; omega), show (sv, se, op).1.all (fun s => (pl.addr s).isSome) = true from h1, show (sv, se, op).2.1.all pl.plain = true from h2, show (sv, se, op).2.2.all pl.optOk = true from h3]
    rfl
  obtain ⟨W1, hW1⟩ : ∃ W1, w.alloc (.cells #[.slice a1 sv.length cs, .slice aq se.length cq, .slice ao op.length co] 45) = W1 := ⟨_, rfl⟩
  have hB1 : Blk W1 w.heap.size #[.slice a1 sv.length cs, .slice aq se.length cq, .slice ao op.length co] 45 := by rw [← hW1]; exact Blk.new w _ _
  have hb1 : Below w.heap.size w W1 := by rw [← hW1]; exact (Below.refl _ _).alloc (Nat.le_refl _) _
  have hcell : ∀ W, Below W1.heap.size W1 W → W.cell? ⟨w.heap.size, 1, none⟩ = some (.slice aq se.length cq) ∧ W.cell? ⟨w.heap.size, 2, none⟩ = some (.slice ao op.length co) := fun W hW => ⟨(hB1.below hW hB1.lt).cell 1, (hB1.below hW hB1.lt).cell 2⟩
  have HW1 := Lib.hid hW1
  have HB1 := Lib.hid hb1
  have HCL := Lib.hid hcell
  have HNO := Lib.hid hno
  have HYES := Lib.hid hyes
  have HC1 := Lib.hid hcs
  have HC2 := Lib.hid hcq
  have HC3 := Lib.hid hco
  have HF1 := Lib.hid hf1
  have HF2 := Lib.hid hf2
  have L3 := Lib.hid n3
  have L6 := Lib.hid n6
  have L20 := Lib.hid n20
  clear hW1 hB1 hb1 hcell hno hyes hcs hcq hco hf1 hf2 hbig
  go_enter Tryd.func38, Tryd.ntmps38
  go_wp2_with fail
  refine wp_name (fun W hW => ?_)
  have hWW : W = W1 := by rw [hW]; exact HW1.out
  clear hW
  subst hWW
  clear n3 n6 n20
  go_loopw [6, 36] (fun out i wr => ∃ (k : Nat) (S : ByteArray), k ≤ sv.length ∧ i = .int .i64 k ∧ out = .string S ∧ Hid (S.data.toList = pl.rvTop ++ pl.rvServers (sv.take k)) ∧ Hid ((sv.take k).all (fun s => (pl.addr s).isSome) = true) ∧ S.size ≤ 30 + k * 2147483700 ∧ Below W.heap.size W wr) (fun _ i _ => sv.length - (intOf i).toNat)
  case atStart => exact ⟨0, _, Nat.zero_le _, rfl, rfl, Lib.hid rfl, Lib.hid rfl, by decide, Below.refl _ _⟩
  case round =>
    obtain ⟨k, S, hk, rfl, rfl, HS, HA, hsz, hb⟩ := hrel
    by_cases hlt : k < sv.length
    · obtain ⟨q, hq⟩ : ∃ q, sv[k]? = some q := ⟨_, List.getElem?_eq_getElem hlt⟩
      obtain ⟨g, o, rfl, hg, hqc⟩ := HC1.out k q hq
      have hbw : Below w.heap.size w wr := HB1.out.trans (hb.mono HB1.out.size)
      have hq1 : wr.cell? ⟨g, o + k, none⟩ = some (pl.strV q) := by rw [below_cell hbw _ _ hg]; exact hqc
      have hql : q.length ≤ 2147483647 := HF1.out q (List.mem_of_getElem? hq)
      unfold pl.strV at hq1
      obtain ⟨o1, ho1⟩ : ∃ o1, (pl.addr q).isSome = o1 := ⟨_, rfl⟩
      have had := fun W => addr_is q o1 (by omega) ho1 W
      have k3 : k ≤ 3 := by have := L3.out; omega
      have HAD := Lib.hid had
      have HO := Lib.hid ho1
      have HQ := Lib.hid hq
      have HB := Lib.hid hb
      clear had ho1 hq hqc hbw
      rcases o1 with _ | _
      · go_wp2_with (go_at_call 15; refine (HAD.out _).mono ?_; rintro e w2 ⟨⟨x, y, z, rfl⟩, hb2⟩; have HB2 := Lib.hid (HB.out.trans (hb2.out.mono HB.out.size)); clear hb2)
        have hx := HNO.out (.inl (pl.all_no sv (fun s => (pl.addr s).isSome) k q HQ.out HO.out))
        go_ret2
        exact ⟨HB1.out.trans (HB2.out.mono HB1.out.size), .inr ⟨hx, rfl⟩⟩
      · go_wp2_with (go_at_call 15; refine (HAD.out _).mono ?_; rintro e w2 ⟨⟨x, y, z, rfl⟩, hb2⟩; have HB2 := Lib.hid (HB.out.trans (hb2.out.mono HB.out.size)); clear hb2)
        have hda : (S ++ ((⟨#[110, 97, 109, 101, 115, 101, 114, 118, 101, 114, 32]⟩ : ByteArray) ++ ⟨q.toArray⟩ ++ ⟨#[10]⟩)).data.toList = pl.rvTop ++ pl.rvServers (sv.take (k + 1)) := by
          rw [app_ba, app_ba, app_ba, HS.out, pl.take_at sv k q HQ.out, pl.rvServers_snoc]
          simp [pl.rvSrv, List.append_assoc]
        have hsi : (S ++ ((⟨#[110, 97, 109, 101, 115, 101, 114, 118, 101, 114, 32]⟩ : ByteArray) ++ ⟨q.toArray⟩ ++ ⟨#[10]⟩)).size ≤ 30 + (k + 1) * 2147483700 := by
          rw [ByteArray.size_append, ByteArray.size_append, ByteArray.size_append]
          have e1 : (⟨#[110, 97, 109, 101, 115, 101, 114, 118, 101, 114, 32]⟩ : ByteArray).size = 11 := rfl
          have e2 : (⟨q.toArray⟩ : ByteArray).size = q.length := rfl
          have e3 : (⟨#[10]⟩ : ByteArray).size = 1 := rfl
          omega
        have HDA := Lib.hid hda
        have HSI := Lib.hid hsi
        have HAA := Lib.hid (pl.all_take sv (fun s => (pl.addr s).isSome) k q HQ.out HA.out HO.out)
        clear hda hsi
        go_roundw
        case rel => exact ⟨k + 1, _, by omega, by go_num, rfl, HDA, HAA, HSI.out, HB2.out⟩
        case measure => simp [intOf]; omega
    · have hke : sv.take k = sv := List.take_of_length_le (by omega)
      rw [hke] at HS HA
      have k3 : k ≤ 3 := by have := L3.out; omega
      have z := (HCL.out wr hb)
      have z1 := z.1
      have z2 := z.2
      have hSs : S.size ≤ 6442451200 := by omega
      have HAA := HA
      have HB := Lib.hid hb
      have hs0 : ∃ S0 : ByteArray, S0 = (if se = [] then S else S ++ ⟨#[115, 101, 97, 114, 99, 104]⟩) := ⟨_, rfl⟩
      obtain ⟨S0, hS0⟩ := hs0
      have hS0d : S0.data.toList = pl.rvTop ++ (pl.rvServers sv ++ (if se = [] then [] else pl.rvSch)) := by
        rw [hS0]
        by_cases he : se = []
        · simp only [he, if_true, HS.out]; simp
        · simp only [he, if_false]; rw [app_ba, HS.out]; simp [pl.rvSch]
      have hS0s : S0.size ≤ 6442451206 := by
        rw [hS0]
        by_cases he : se = []
        · simp only [he, if_true]; omega
        · simp only [he, if_false]; rw [ByteArray.size_append]; have : (⟨#[115, 101, 97, 114, 99, 104]⟩ : ByteArray).size = 6 := rfl; omega
      have HS0 := Lib.hid hS0d
      clear hke z HA hsz hk k3
      have hS0' : (se = [] ∧ ¬ ((0 : Int) < (se.length : Int)) ∧ S0 = S) ∨ (se ≠ [] ∧ (0 : Int) < (se.length : Int) ∧ S0 = S ++ ⟨#[115, 101, 97, 114, 99, 104]⟩) := by
        by_cases he : se = []
        · left; refine ⟨he, by rw [he]; simp, by rw [hS0, if_pos he]⟩
        · right; exact ⟨he, by have := List.length_pos_iff.2 he; omega, by rw [hS0, if_neg he]⟩
      clear hS0 hS0d
      rcases hS0' with ⟨hse, n0, rfl⟩ | ⟨hse, n0, hS0e⟩
      focus
        have HSE := Lib.hid hse
        have n0' : ¬ (0 < se.length) := by omega
        clear hse
        go_wp2_with fail
        try simp only [n0', decide_false]
      rotate_left
      focus
        have HSE : Hid True := Lib.hid trivial
        have n0' : 0 < se.length := by omega
        have e1 : decide (0 < se.length) = true := decide_eq_true n0'
        have e2 : decide ((0 : Int) < (se.length : Int)) = true := decide_eq_true n0
        clear hse
        go_wp2_with fail
        first | rw [e1] | rw [e2] | skip
        clear e1 e2 n0'
        rw [← hS0e]
        clear hS0e
      rotate_left
      all_goals
        clear HSE n0
        obtain ⟨wo, rfl⟩ : ∃ wo : World, wo = wr := ⟨_, rfl⟩
        go_loopw [6, 62] (fun out i wq => ∃ (m : Nat) (S1 : ByteArray), m ≤ se.length ∧ i = .int .i64 m ∧ out = .string S1 ∧ Hid (S1.data.toList = S0.data.toList ++ (se.take m).flatMap (fun s => [9] ++ s)) ∧ Hid ((se.take m).all pl.plain = true) ∧ S1.size ≤ S0.size + m * 2147483700 ∧ Below W.heap.size W wq) (fun _ i _ => se.length - (intOf i).toNat)
        case atStart => exact ⟨0, _, Nat.zero_le _, rfl, rfl, Lib.hid (by simp), Lib.hid rfl, by omega, HB.out⟩
        case round =>
          obtain ⟨m, S1, hm, rfl, rfl, HS1, HA1, hsz1, hb1⟩ := hrel
          by_cases hlm : m < se.length
          · first
            | (exfalso; omega)
            | (
              obtain ⟨q, hq⟩ : ∃ q, se[m]? = some q := ⟨_, List.getElem?_eq_getElem hlm⟩
              obtain ⟨g, o, rfl, hg, hqc⟩ := HC2.out m q hq
              have hbw : Below w.heap.size w wr := HB1.out.trans (hb1.mono HB1.out.size)
              have hq1 : wr.cell? ⟨g, o + m, none⟩ = some (pl.strV q) := by rw [below_cell hbw _ _ hg]; exact hqc
              have hql : q.length ≤ 2147483647 := HF2.out q (List.mem_of_getElem? hq)
              unfold pl.strV at hq1
              obtain ⟨o1, ho1⟩ : ∃ o1, pl.plain q = o1 := ⟨_, rfl⟩
              have hpl := fun W => plain_is q o1 (by omega) ho1 W
              have m6 : m ≤ 6 := by have := L6.out; omega
              have HPL := Lib.hid hpl
              have HO := Lib.hid ho1
              have HQ := Lib.hid hq
              have HBq := Lib.hid hb1
              clear hpl ho1 hq hqc hbw
              rcases o1 with _ | _
              · go_wp2_with (go_at_call 20; refine (HPL.out _).mono ?_; rintro e w2 ⟨rfl, hb2⟩; have HB2 := Lib.hid (HBq.out.trans (hb2.out.mono HBq.out.size)); clear hb2)
                have hx := HNO.out (.inr (.inl (pl.all_no se pl.plain m q HQ.out HO.out)))
                go_ret2
                exact ⟨HB1.out.trans (HB2.out.mono HB1.out.size), .inr ⟨hx, rfl⟩⟩
              · go_wp2_with (go_at_call 20; refine (HPL.out _).mono ?_; rintro e w2 ⟨rfl, hb2⟩; have HB2 := Lib.hid (HBq.out.trans (hb2.out.mono HBq.out.size)); clear hb2)
                have hda : (S1 ++ ((⟨#[9]⟩ : ByteArray) ++ ⟨q.toArray⟩)).data.toList = S0.data.toList ++ (se.take (m + 1)).flatMap (fun s => [9] ++ s) := by
                  rw [app_ba, app_ba, HS1.out, pl.take_at se m q HQ.out, List.flatMap_append]
                  simp [List.append_assoc]
                have hsi : (S1 ++ ((⟨#[9]⟩ : ByteArray) ++ ⟨q.toArray⟩)).size ≤ S0.size + (m + 1) * 2147483700 := by
                  rw [ByteArray.size_append, ByteArray.size_append]
                  have e2 : (⟨q.toArray⟩ : ByteArray).size = q.length := rfl
                  have e3 : (⟨#[9]⟩ : ByteArray).size = 1 := rfl
                  omega
                have HDA := Lib.hid hda
                have HSI := Lib.hid hsi
                have HAA1 := Lib.hid (pl.all_take se pl.plain m q HQ.out HA1.out HO.out)
                clear hda hsi
                go_roundw
                case rel => exact ⟨m + 1, _, by omega, by go_num, rfl, HDA, HAA1, HSI.out, HB2.out⟩
                case measure => simp [intOf]; omega)
          · have hme : se.take m = se := List.take_of_length_le (by omega)
            rw [hme] at HS1 HA1
            have m6 : m ≤ 6 := by have := L6.out; omega
            have zz := (HCL.out wr hb1).2
            have hS1s : S1.size ≤ 19327353500 := by omega
            clear hme hsz1 m6
            go_wp2_with fail
            have hZd : (S1 ++ (⟨#[10]⟩ : ByteArray)).data.toList = S1.data.toList ++ [10] := by rw [app_ba]
            have hZs : (S1 ++ (⟨#[10]⟩ : ByteArray)).size ≤ 19327353501 := by
              rw [ByteArray.size_append]
              have : (⟨#[10]⟩ : ByteArray).size = 1 := rfl
              omega
            obtain ⟨Z, hZ⟩ : ∃ Z : ByteArray, S1 ++ ⟨#[10]⟩ = Z := ⟨_, rfl⟩
            rw [hZ] at hZd hZs ⊢
            have HZD := Lib.hid hZd
            clear hZ hZd
            rcases apart with _ | _
            · go_loopw [6, 79] (fun out i wq => ∃ (j : Nat) (S2 : ByteArray), j ≤ op.length ∧ i = .int .i64 j ∧ out = .string S2 ∧ Hid (S2.data.toList = Z.data.toList ++ pl.rvOne (op.take j)) ∧ Hid ((op.take j).all pl.optOk = true) ∧ S2.size ≤ Z.size + j * 200 ∧ Below W.heap.size W wq) (fun _ i _ => op.length - (intOf i).toNat)
              case atStart => exact ⟨0, _, Nat.zero_le _, rfl, rfl, Lib.hid (by simp [pl.rvApart, pl.rvOne]), Lib.hid rfl, by omega, hb1⟩
              case round =>
                obtain ⟨j, S2, hj, rfl, rfl, HS2, HA2, hsz2, hb3⟩ := hrel
                by_cases hlj : j < op.length
                · obtain ⟨x, hx⟩ : ∃ x, op[j]? = some x := ⟨_, List.getElem?_eq_getElem hlj⟩
                  obtain ⟨g, o, rfl, hg, hqc, hqd, hxn⟩ := HC3.out j x hx
                  have hbw : Below w.heap.size w wr := HB1.out.trans (hb3.mono HB1.out.size)
                  have hq1 : wr.cell? ⟨g, o + j * 2, none⟩ = some (.int .i64 x.1) := by rw [below_cell hbw _ _ hg]; exact hqc
                  have hq2 : wr.cell? ⟨g, o + j * 2 + 1, none⟩ = some (.int .i64 x.2) := by rw [below_cell hbw _ _ hg]; exact hqd
                  obtain ⟨o1, ho1⟩ : ∃ o1, pl.optOk x = o1 := ⟨_, rfl⟩
                  have hop := fun W => opt_any x o1 W ho1 hxn
                  have j20 : j ≤ 20 := by have := L20.out; omega
                  have b2 : S2.size ≤ 19327358000 := by omega
                  obtain ⟨TB, hTB⟩ : ∃ TB : ByteArray, (⟨(pl.optTx x).toArray⟩ : ByteArray) = TB := ⟨_, rfl⟩
                  have hTs : o1 = true → TB.size ≤ 100 := fun h => by rw [← hTB]; exact (pl.optTx_ok x (by rw [ho1]; exact h)).2.2
                  have hTD : TB.data.toList = pl.optTx x := by rw [← hTB]
                  have HOP := Lib.hid hop
                  have HO := Lib.hid ho1
                  have HQ := Lib.hid hx
                  have HBq := Lib.hid hb3
                  have HTB := Lib.hid hTB
                  have HTD := Lib.hid hTD
                  clear hop ho1 hx hqc hqd hbw hxn hTB hTD
                  rcases o1 with _ | _
                  · clear hTs
                    go_wp2_with (go_at_call 59; have HBa := Lib.hid (HBq.out.alloc HBq.out.size (Obj.cells #[.int .i64 x.1, .int .i64 x.2] 93)); refine (HOP.out _).mono ?_; rintro e w2 ⟨T, rfl, HT, hb2⟩; have HB2 := Lib.hid (HBa.out.trans (hb2.out.mono HBa.out.size)); clear hb2)
                    have hx := HNO.out (.inr (.inr (pl.all_no op pl.optOk j x HQ.out HO.out)))
                    go_ret2
                    exact ⟨HB1.out.trans (HB2.out.mono HB1.out.size), .inr ⟨hx, rfl⟩⟩
                  have hTs' := hTs rfl
                  have HTS := Lib.hid hTs'
                  clear hTs
                  by_cases hj0 : j = 0
                  · have t0 : ((j : Int) == 0) = true := by rw [beq_iff_eq]; omega
                    have HJ0 := Lib.hid hj0
                    clear hj0
                    go_wp2_with (go_at_call 59; have HBa := Lib.hid (HBq.out.alloc HBq.out.size (Obj.cells #[.int .i64 x.1, .int .i64 x.2] 93)); refine (HOP.out _).mono ?_; rintro e w2 ⟨T, rfl, HT, hb2⟩; have HB2 := Lib.hid (HBa.out.trans (hb2.out.mono HBa.out.size)); have hTe := HT.out (by first | rfl | trivial); rw [HTB.out] at hTe; have hTe := hTe.symm; subst hTe; clear hb2)
                    have hda : (S2 ++ ⟨#[111, 112, 116, 105, 111, 110, 115]⟩ ++ ((⟨#[32]⟩ : ByteArray) ++ TB)).data.toList = Z.data.toList ++ pl.rvOne (op.take (j + 1)) := by
                      rw [app_ba, app_ba, app_ba, HS2.out, pl.take_at op j x HQ.out, HTD.out]
                      rw [show op.take j = [] by rw [HJ0.out]; rfl, List.nil_append, pl.rvOne_one]; simp [pl.rvOne, pl.rvOpt, List.append_assoc]
                    have hsi : (S2 ++ ⟨#[111, 112, 116, 105, 111, 110, 115]⟩ ++ ((⟨#[32]⟩ : ByteArray) ++ TB)).size ≤ Z.size + (j + 1) * 200 := by
                      rw [ByteArray.size_append, ByteArray.size_append, ByteArray.size_append]
                      have e1 : (⟨#[111, 112, 116, 105, 111, 110, 115]⟩ : ByteArray).size = 7 := rfl
                      have e3 : (⟨#[32]⟩ : ByteArray).size = 1 := rfl
                      have e4 := HTS.out
                      omega
                    have HDA := Lib.hid hda
                    have HSI := Lib.hid hsi
                    have HAA2 := Lib.hid (pl.all_take op pl.optOk j x HQ.out HA2.out HO.out)
                    clear hda hsi
                    go_roundw
                    case rel => exact ⟨j + 1, _, by omega, by go_num, rfl, HDA, HAA2, HSI.out, HB2.out⟩
                    case measure => simp [intOf]; omega
                  · have t0 : ((j : Int) == 0) = false := by rw [beq_eq_false_iff_ne]; omega
                    have hjn : op.take j ≠ [] := by
                      intro e
                      have := congrArg List.length e
                      rw [List.length_take] at this
                      simp at this
                      rcases this with h | h
                      · exact hj0 h
                      · rw [h] at hlj; simp at hlj
                    have HJN := Lib.hid hjn
                    clear hjn
                    go_wp2_with (go_at_call 59; have HBa := Lib.hid (HBq.out.alloc HBq.out.size (Obj.cells #[.int .i64 x.1, .int .i64 x.2] 93)); refine (HOP.out _).mono ?_; rintro e w2 ⟨T, rfl, HT, hb2⟩; have HB2 := Lib.hid (HBa.out.trans (hb2.out.mono HBa.out.size)); have hTe := HT.out (by first | rfl | trivial); rw [HTB.out] at hTe; have hTe := hTe.symm; subst hTe; clear hb2)
                    have hda : (S2 ++ ((⟨#[32]⟩ : ByteArray) ++ TB)).data.toList = Z.data.toList ++ pl.rvOne (op.take (j + 1)) := by
                      rw [app_ba, app_ba, HS2.out, pl.take_at op j x HQ.out, HTD.out]
                      rw [pl.rvOne_snoc _ _ HJN.out]; simp [List.append_assoc]
                    have hsi : (S2 ++ ((⟨#[32]⟩ : ByteArray) ++ TB)).size ≤ Z.size + (j + 1) * 200 := by
                      rw [ByteArray.size_append, ByteArray.size_append]
                      have e3 : (⟨#[32]⟩ : ByteArray).size = 1 := rfl
                      have e4 := HTS.out
                      omega
                    have HDA := Lib.hid hda
                    have HSI := Lib.hid hsi
                    have HAA2 := Lib.hid (pl.all_take op pl.optOk j x HQ.out HA2.out HO.out)
                    clear hda hsi
                    go_roundw
                    case rel => exact ⟨j + 1, _, by omega, by go_num, rfl, HDA, HAA2, HSI.out, HB2.out⟩
                    case measure => simp [intOf]; omega
                · have hje : op.take j = op := List.take_of_length_le (by omega)
                  rw [hje] at HS2 HA2
                  have j20 : j ≤ 20 := by have := L20.out; omega
                  have b2 : S2.size ≤ 19327358000 := by omega
                  clear hje
                  go_wp2_with fail
                  go_ret2
                  refine ⟨HB1.out.trans (hb3.mono HB1.out.size), .inl ⟨HYES.out HAA.out HA1.out HA2.out, ?_⟩⟩
                  have hfin : (⟨(pl.rvText (sv, se, op) false).toArray⟩ : ByteArray) = S2 ++ ⟨#[10]⟩ := by
                    apply pl.ba_ext
                    rw [app_ba, HS2.out, HZD.out, HS1.out, HS0.out]
                    simp [pl.rvText, pl.rvSearch, List.append_assoc]
                  rw [hfin]
                  rfl
            · go_loopw [6, 79] (fun out i wq => ∃ (j : Nat) (S2 : ByteArray), j ≤ op.length ∧ i = .int .i64 j ∧ out = .string S2 ∧ Hid (S2.data.toList = Z.data.toList ++ pl.rvApart (op.take j)) ∧ Hid ((op.take j).all pl.optOk = true) ∧ S2.size ≤ Z.size + j * 200 ∧ Below W.heap.size W wq) (fun _ i _ => op.length - (intOf i).toNat)
              case atStart => exact ⟨0, _, Nat.zero_le _, rfl, rfl, Lib.hid (by simp [pl.rvApart, pl.rvOne]), Lib.hid rfl, by omega, hb1⟩
              case round =>
                obtain ⟨j, S2, hj, rfl, rfl, HS2, HA2, hsz2, hb3⟩ := hrel
                by_cases hlj : j < op.length
                · obtain ⟨x, hx⟩ : ∃ x, op[j]? = some x := ⟨_, List.getElem?_eq_getElem hlj⟩
                  obtain ⟨g, o, rfl, hg, hqc, hqd, hxn⟩ := HC3.out j x hx
                  have hbw : Below w.heap.size w wr := HB1.out.trans (hb3.mono HB1.out.size)
                  have hq1 : wr.cell? ⟨g, o + j * 2, none⟩ = some (.int .i64 x.1) := by rw [below_cell hbw _ _ hg]; exact hqc
                  have hq2 : wr.cell? ⟨g, o + j * 2 + 1, none⟩ = some (.int .i64 x.2) := by rw [below_cell hbw _ _ hg]; exact hqd
                  obtain ⟨o1, ho1⟩ : ∃ o1, pl.optOk x = o1 := ⟨_, rfl⟩
                  have hop := fun W => opt_any x o1 W ho1 hxn
                  have j20 : j ≤ 20 := by have := L20.out; omega
                  have b2 : S2.size ≤ 19327358000 := by omega
                  obtain ⟨TB, hTB⟩ : ∃ TB : ByteArray, (⟨(pl.optTx x).toArray⟩ : ByteArray) = TB := ⟨_, rfl⟩
                  have hTs : o1 = true → TB.size ≤ 100 := fun h => by rw [← hTB]; exact (pl.optTx_ok x (by rw [ho1]; exact h)).2.2
                  have hTD : TB.data.toList = pl.optTx x := by rw [← hTB]
                  have HOP := Lib.hid hop
                  have HO := Lib.hid ho1
                  have HQ := Lib.hid hx
                  have HBq := Lib.hid hb3
                  have HTB := Lib.hid hTB
                  have HTD := Lib.hid hTD
                  clear hop ho1 hx hqc hqd hbw hxn hTB hTD
                  rcases o1 with _ | _
                  · clear hTs
                    go_wp2_with (go_at_call 59; have HBa := Lib.hid (HBq.out.alloc HBq.out.size (Obj.cells #[.int .i64 x.1, .int .i64 x.2] 93)); refine (HOP.out _).mono ?_; rintro e w2 ⟨T, rfl, HT, hb2⟩; have HB2 := Lib.hid (HBa.out.trans (hb2.out.mono HBa.out.size)); clear hb2)
                    have hx := HNO.out (.inr (.inr (pl.all_no op pl.optOk j x HQ.out HO.out)))
                    go_ret2
                    exact ⟨HB1.out.trans (HB2.out.mono HB1.out.size), .inr ⟨hx, rfl⟩⟩
                  have hTs' := hTs rfl
                  have HTS := Lib.hid hTs'
                  clear hTs
                  go_wp2_with (go_at_call 59; have HBa := Lib.hid (HBq.out.alloc HBq.out.size (Obj.cells #[.int .i64 x.1, .int .i64 x.2] 93)); refine (HOP.out _).mono ?_; rintro e w2 ⟨T, rfl, HT, hb2⟩; have HB2 := Lib.hid (HBa.out.trans (hb2.out.mono HBa.out.size)); have hTe := HT.out (by first | rfl | trivial); rw [HTB.out] at hTe; have hTe := hTe.symm; subst hTe; clear hb2)
                  have hda : (S2 ++ ((⟨#[111, 112, 116, 105, 111, 110, 115, 32]⟩ : ByteArray) ++ TB ++ ⟨#[10]⟩)).data.toList = Z.data.toList ++ pl.rvApart (op.take (j + 1)) := by
                    rw [app_ba, app_ba, app_ba, HS2.out, pl.take_at op j x HQ.out, pl.rvApart_snoc, HTD.out]
                    simp [pl.rvOpt, List.append_assoc]
                  have hsi : (S2 ++ ((⟨#[111, 112, 116, 105, 111, 110, 115, 32]⟩ : ByteArray) ++ TB ++ ⟨#[10]⟩)).size ≤ Z.size + (j + 1) * 200 := by
                    rw [ByteArray.size_append, ByteArray.size_append, ByteArray.size_append]
                    have e1 : (⟨#[111, 112, 116, 105, 111, 110, 115, 32]⟩ : ByteArray).size = 8 := rfl
                    have e3 : (⟨#[10]⟩ : ByteArray).size = 1 := rfl
                    have e4 := HTS.out
                    omega
                  have HDA := Lib.hid hda
                  have HSI := Lib.hid hsi
                  have HAA2 := Lib.hid (pl.all_take op pl.optOk j x HQ.out HA2.out HO.out)
                  clear hda hsi
                  go_roundw
                  case rel => exact ⟨j + 1, _, by omega, by go_num, rfl, HDA, HAA2, HSI.out, HB2.out⟩
                  case measure => simp [intOf]; omega
                · have hje : op.take j = op := List.take_of_length_le (by omega)
                  rw [hje] at HS2 HA2
                  have j20 : j ≤ 20 := by have := L20.out; omega
                  have b2 : S2.size ≤ 19327358000 := by omega
                  clear hje
                  go_wp2_with fail
                  go_ret2
                  refine ⟨HB1.out.trans (hb3.mono HB1.out.size), .inl ⟨HYES.out HAA.out HA1.out HA2.out, ?_⟩⟩
                  have hfin : (⟨(pl.rvText (sv, se, op) true).toArray⟩ : ByteArray) = S2 ++ ⟨#[10]⟩ := by
                    apply pl.ba_ext
                    rw [app_ba, HS2.out, HZD.out, HS1.out, HS0.out]
                    simp [pl.rvText, pl.rvSearch, List.append_assoc]
                  rw [hfin]
                  rfl

end Go.Proofs.YtfkohahlpfejbaaDoor
