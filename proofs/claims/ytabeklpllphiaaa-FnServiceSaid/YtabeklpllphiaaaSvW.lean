/-
  WALK: spec.Services.
-/
import Derived.Test.YtabeklpllphiaaaSvTab
import Derived.Deep.LoopGhost
import Derived.Deep.RegionLaw
import Derived.Deep.QuietTactic
import Derived.BigQuiet
namespace Go.Proofs.Ytabeklpllphiaaa
open Go.RowKit

/-- 'append(x, y...)' of strings. -/
theorem app_strs {ops : Array Oper} {rest : List Oper} {o : Oper} {a : Act} {Q : Exit → Act → World → Prop} {w wr : World} {v yv : Value} {l m : List (List UInt8)}
    (hgd : o.guard = none) (s y : Operand) (ho : o.op = .call { callee := .builtin .append, args := #[s, y], argTypes := #[59, 59] })
    (hs : a.eval s = v) (B : Nat) (hown : Strs wr B v l) (hy : a.eval y = yv) (hr : RdS wr yv m) (hlen : l.length + m.length ≤ 1000000) (hb : Below B w wr) (hB : B ≤ w.heap.size)
    (h : ∀ v' w', Strs w' B v' (l ++ m) → Below B w w' → wr.grownBy w' v.ownBlock → wpList Try.prog ops Q rest (a.put o.dst v') w') : wpList Try.prog ops Q (o :: rest) a wr := by
  obtain ⟨i0, hi, hz0, hz1, hz2⟩ := info_parts infoStr
  have hsz := hb.size
  obtain ⟨ao, cap, rfl, h1, h0, h3⟩ := hr
  rcases ao with _ | x
  · have hm : m = [] := List.eq_nil_of_length_eq_zero (by have := h0 rfl; omega)
    have hc0 : cap = 0 := h0 rfl
    rw [hm] at hy
    rw [hc0] at hy
    refine wpList_append_own_none hgd s y 59 ho B 9 i0 1 Try.underlying59 hi v l.length (l.map pl.strV) hs hown hy (h v wr ?_ hb (World.grownBy.refl _ _))
    rw [hm, List.append_nil]
    exact hown
  · refine wpList_append_own _ hgd s y 59 ho B 9 i0 (.string ⟨#[]⟩) 1 16 Try.underlying59 hi hz0 hz1 hz2 rfl (by decide) v l.length (l.map pl.strV) hs hown x m.length cap (m.map pl.strV) hy (by simp) ?_ ?_ ?_ ?_ ?_ ?_
    · intro j u hj
      rw [List.getElem?_map, Option.map_eq_some_iff] at hj
      obtain ⟨b, hb', rfl⟩ := hj
      obtain ⟨g, off, ha, _, hc⟩ := h3 j b hb'
      rw [Option.some.inj ha, Addr.add_lit]
      exact hc
    · intro u hu
      obtain ⟨b, _, rfl⟩ := List.mem_map.1 hu
      rfl
    · unfold maxLen; omega
    · omega
    · omega
    · intro v' w' h1 h2 _
      refine h v' w' ?_ ?_ h2
      · unfold Strs
        rw [List.length_append, List.map_append]
        exact h1
      · exact hb.grown h2 (by omega) (fun k hk => ((World.ownsRow.lt hown) k hk).1)

theorem zero_b (w : World) : (zeroValue 4).run Try.prog w = .ok (.bool false) w := by kernel_rfl

/-- what stands in the map of names seen -/
def seenF (S : List Key) : Key → Option Value := fun k => if k ∈ S then some (.bool true) else none

def SvRes (l : SvcL) (w : World) (e : Ending) (w' : World) : Prop :=
  Below w.heap.size w w' ∧ (((∃ S, pl.chkS l [] = some S) ∧ e = .returned (.tuple #[.string ⟨(pl.svText l).toArray⟩, .bool true])) ∨ (pl.chkS l [] = none ∧ e = .returned (.tuple #[.string ⟨#[]⟩, .bool false])))

set_option maxRecDepth 100000 in
set_option maxHeartbeats 8000000 in
theorem services_in (v : Value) (l : SvcL) (w : World) (hv : RdV w v l) (hf : FitV l) (hl : l.length ≤ 100) :
    Calls Try.prog 9 #[v] w (SvRes l w) := by
  have hmm := @run_makeMap Try.prog
  obtain ⟨a, cap, rfl, hc⟩ := hv
  obtain ⟨W1, hW1⟩ : ∃ W1, w.alloc (.map #[] 0) = W1 := ⟨_, rfl⟩
  have hw1 : Below w.heap.size w W1 := by rw [← hW1]; exact (Below.refl _ _).alloc (Nat.le_refl _) _
  have hmp : MapF Try.prog 9 W1 w.heap.size 0 (seenF []) := by rw [← hW1]; exact MapF.made _ _ w
  have hl100 : ¬ (100 < (l.length : Int)) := by omega
  have HC := Lib.hid hc
  have HFI := Lib.hid hf
  have HW := Lib.hid hw1
  have HMP := Lib.hid hmp
  clear hc hf hw1 hmp
  go_enter Try.func9, Try.ntmps9
  go_wp2_with fail
  go_loopw [4, 18] (fun out i wr => ∃ (k : Nat) (S : ByteArray) (Sk : List Key), k ≤ l.length ∧ i = .int .i64 k ∧ out = .string S ∧ Hid (S.data.toList = pl.svTop ++ (l.take k).flatMap pl.svLine) ∧ Hid (pl.chkS (l.take k) [] = some Sk) ∧ S.size ≤ 20 + k * 70000000000 ∧ Hid (MapF Try.prog 9 wr w.heap.size (30 * k) (seenF Sk)) ∧ Below w.heap.size w wr) (fun _ i _ => l.length - (intOf i).toNat)
  case atStart => exact ⟨0, _, [], Nat.zero_le _, rfl, rfl, Lib.hid rfl, Lib.hid rfl, by decide, HMP, HW.out⟩
  case round =>
    obtain ⟨k, S, Sk, hk, rfl, rfl, HS, HA, hsz, HM, hb⟩ := hrel
    by_cases hlt : k < l.length
    · obtain ⟨p, hp⟩ : ∃ p, l[k]? = some p := ⟨_, List.getElem?_eq_getElem hlt⟩
      obtain ⟨nm, pt, pr, al⟩ := p
      obtain ⟨ga, oa, vn, rfl, hga, hcell, hcell2, hcell3, hcell4, hrd⟩ := HC.out k (nm, pt, pr, al) hp
      have hc1 : wr.cell? ⟨ga, oa + k * 4, none⟩ = some (pl.strV nm) := by rw [below_cell hb _ _ hga]; exact hcell
      have hc2 : wr.cell? ⟨ga, oa + k * 4 + 1, none⟩ = some (.int .i64 pt) := by rw [below_cell hb _ _ hga]; exact hcell2
      have hc3 : wr.cell? ⟨ga, oa + k * 4 + 2, none⟩ = some (pl.strV pr) := by rw [below_cell hb _ _ hga]; exact hcell3
      have hc4 : wr.cell? ⟨ga, oa + k * 4 + 3, none⟩ = some vn := by rw [below_cell hb _ _ hga]; exact hcell4
      obtain ⟨hl1, hl2, hl3⟩ := HFI.out k (nm, pt, pr, al) hp
      have hl1' : nm.length ≤ 2147483647 := hl1
      have hl2' : pr.length ≤ 2147483647 := hl2
      have hl3' : ∀ q ∈ al, q.length ≤ 2147483647 := hl3
      have hrd0 := hrd
      obtain ⟨an, cn, rfl, _, _, hnc⟩ := hrd
      have hno : pl.svHead (nm, pt, pr, al) = false ∨ pl.chkN pr (nm :: al) Sk = none → pl.chkS l [] = none := fun h => pl.chkS_no l Sk k _ hp HA.out h
      have hye : ∀ S2, pl.svHead (nm, pt, pr, al) = true → pl.chkN pr (nm :: al) Sk = some S2 → pl.chkS (l.take (k + 1)) [] = some S2 := fun S2 h1 h2 => pl.chkS_take l Sk S2 k _ hp HA.out h1 h2
      have hty : l.take (k + 1) = l.take k ++ [(nm, pt, pr, al)] := pl.take_at l k _ hp
      obtain ⟨o, ho⟩ : ∃ o, pl.plain pr = o := ⟨_, rfl⟩
      have hpl := fun W => plain_is pr o (by omega) ho W
      have HPL := Lib.hid hpl
      have HO := Lib.hid ho
      have HNC := Lib.hid hnc
      have HRD := Lib.hid hrd0
      have HNO := Lib.hid hno
      have HYE := Lib.hid hye
      have HTY := Lib.hid hty
      have HB := Lib.hid hb
      have HL3 := Lib.hid hl3'
      have hnms : (⟨nm.toArray⟩ : ByteArray).size ≤ 2147483647 := hl1'
      have hprs : (⟨pr.toArray⟩ : ByteArray).size ≤ 2147483647 := hl2'
      have HL1 := Lib.hid hl1'
      have HL2 := Lib.hid hl2'
      unfold pl.strV at hc1 hc3
      dsimp only at hc2 hc4
      have HBK := Lib.hid (Blk.new wr #[.string ⟨nm.toArray⟩, .int .i64 pt, .string ⟨pr.toArray⟩, .slice an al.length cn] 61)
      clear hpl ho hnc hrd0 hno hye hty hcell hcell2 hcell3 hcell4 hl1 hl2 hl3 hl1' hl2' hl3' hp
      by_cases hp1 : pt < 1
      · have hF : pl.svHead (nm, pt, pr, al) = false := by unfold pl.svHead; rw [decide_eq_false (by show ¬ (1 ≤ pt); omega)]; rfl
        have HF := Lib.hid (HNO.out (.inl hF))
        clear hF
        go_wp2_with fail
        go_ret2
        exact ⟨HB.out.alloc HB.out.size _, .inr ⟨HF.out, rfl⟩⟩
      by_cases hp2 : 65535 < pt
      · have hF : pl.svHead (nm, pt, pr, al) = false := by unfold pl.svHead; rw [decide_eq_false (p := (nm, pt, pr, al).2.1 ≤ 65535) (by show ¬ (pt ≤ 65535); omega)]; simp
        have HF := Lib.hid (HNO.out (.inl hF))
        clear hF
        go_wp2_with fail
        go_ret2
        exact ⟨HB.out.alloc HB.out.size _, .inr ⟨HF.out, rfl⟩⟩
      rcases o with _ | _
      · have hF : pl.svHead (nm, pt, pr, al) = false := by unfold pl.svHead; rw [show pl.plain (nm, pt, pr, al).2.2.1 = false from HO.out]; simp
        have HF := Lib.hid (HNO.out (.inl hF))
        clear hF
        go_wp2_with (go_at_call 10; have HB1 := Lib.hid (HB.out.alloc HB.out.size (Obj.cells #[.string ⟨nm.toArray⟩, .int .i64 pt, .string ⟨pr.toArray⟩, .slice an al.length cn] 61)); refine (HPL.out _).mono ?_; rintro e w2 ⟨rfl, hb2⟩; have HB2 := Lib.hid (HB1.out.trans (hb2.out.mono HB1.out.size)); clear hb2)
        go_ret2
        exact ⟨HB2.out, .inr ⟨HF.out, rfl⟩⟩
      by_cases hn20 : 20 < al.length
      · have hF : pl.svHead (nm, pt, pr, al) = false := by unfold pl.svHead; rw [decide_eq_false (p := (nm, pt, pr, al).2.2.2.length ≤ 20) (by show ¬ (al.length ≤ 20); omega)]; simp
        have HF := Lib.hid (HNO.out (.inl hF))
        have h20 : (20 : Int) < (al.length : Int) := by omega
        clear hF hn20
        go_wp2_with (go_at_call 10; have HB1 := Lib.hid (HB.out.alloc HB.out.size (Obj.cells #[.string ⟨nm.toArray⟩, .int .i64 pt, .string ⟨pr.toArray⟩, .slice an al.length cn] 61)); refine (HPL.out _).mono ?_; rintro e w2 ⟨rfl, hb2⟩; have hbk := HBK.out.below hb2.out HBK.out.lt; have c23 := hbk.cell 3; have HB2 := Lib.hid (HB1.out.trans (hb2.out.mono HB1.out.size)); simp at c23; clear hb2 hbk)
        go_ret2
        exact ⟨HB2.out, .inr ⟨HF.out, rfl⟩⟩
      have h20 : ¬ ((20 : Int) < (al.length : Int)) := by omega
      obtain ⟨P, rfl⟩ : ∃ P : Nat, pt = (P : Int) := ⟨pt.toNat, by omega⟩
      have hhd : pl.svHead (nm, (P : Int), pr, al) = true := by
        unfold pl.svHead
        rw [decide_eq_true (p := 1 ≤ (nm, (P : Int), pr, al).2.1) (by show 1 ≤ (P : Int); omega), decide_eq_true (p := (nm, (P : Int), pr, al).2.1 ≤ 65535) (by show (P : Int) ≤ 65535; omega), decide_eq_true (p := (nm, (P : Int), pr, al).2.2.2.length ≤ 20) (by show al.length ≤ 20; omega), show pl.plain (nm, (P : Int), pr, al).2.2.1 = true from HO.out]
        rfl
      have HHD := Lib.hid hhd
      have HN20 := Lib.hid hn20
      clear hhd hn20
      go_wp2_with (first
        | (go_at_call 10; have HB1 := Lib.hid (HB.out.alloc HB.out.size (Obj.cells #[.string ⟨nm.toArray⟩, .int .i64 (P : Int), .string ⟨pr.toArray⟩, .slice an al.length cn] 61)); refine (HPL.out _).mono ?_; rintro e w2 ⟨rfl, hb2⟩; have hbk := HBK.out.below hb2.out HBK.out.lt; have c23 := hbk.cell 3; have c20 := hbk.cell 0; have HBK2 := Lib.hid hbk; have HB2 := Lib.hid (HB1.out.trans (hb2.out.mono HB1.out.size)); have HM2 := Lib.hid ((HM.out.below ((Below.refl _ _).alloc (Nat.le_refl wr.heap.size) _) HM.out.lt).below hb2.out (Nat.lt_of_lt_of_le HM.out.lt ((Below.refl _ _).alloc (Nat.le_refl wr.heap.size) (Obj.cells #[.string ⟨nm.toArray⟩, .int .i64 (P : Int), .string ⟨pr.toArray⟩, .slice an al.length cn] 61)).size)); have c33 := fun o => (hbk.alloc o).cell 3; have hal := (Below.refl w2.heap.size w2).alloc (Nat.le_refl _) (Obj.cells #[.string ⟨nm.toArray⟩] 9); have HB3 := Lib.hid (HB2.out.alloc HB2.out.size (Obj.cells #[.string ⟨nm.toArray⟩] 9)); have HRD3 := Lib.hid (HRD.out.below HB3.out); have HBK3 := Lib.hid (hbk.alloc (Obj.cells #[.string ⟨nm.toArray⟩] 9)); have HM3 := Lib.hid (HM2.out.below hal HM2.out.lt); have HVN : Hid (Strs (w2.alloc (Obj.cells #[.string ⟨nm.toArray⟩] 9)) w.heap.size (.slice (some ⟨w2.heap.size, 0, none⟩) 1 1) [nm]) := Lib.hid (World.ownsRow_lit (base := w.heap.size) (e := 9) (size := 1) w2 #[.string ⟨nm.toArray⟩] 1 HB2.out.size (by unfold maxLen; omega) rfl); simp at c23 c20 c33; clear hb2 hbk hal)
        | (at_builtin; refine app_strs (w := w) (v := .slice (some ⟨w2.heap.size, 0, none⟩) 1 1) (yv := .slice an al.length cn) (l := [nm]) (m := al) rfl (.tmp 44) (.tmp 46) rfl rfl w.heap.size HVN.out rfl HRD3.out (by have := HN20.out; simp; omega) HB3.out (Nat.le_refl _) ?_; intro v4 w4 hs4 hb4 hg4; have hbk := HBK3.out.keep (hg4.block wr.heap.size HBK3.out.lt (by intro e; simp only [Value.ownBlock, Option.some.injEq] at e; have := HBK2.out.lt; omega)); have HBK4 := Lib.hid hbk; have HM4 := Lib.hid (HM3.out.grown hg4 (by intro e; simp only [Value.ownBlock, Option.some.injEq] at e; have := HM2.out.lt; omega)); have HS4 := Lib.hid hs4; have HB4 := Lib.hid hb4; obtain ⟨a4, c4, rfl, hf4⟩ := hs4.form; clear hs4 hb4 hg4 hbk hf4))
      obtain ⟨wo, rfl⟩ : ∃ wo : World, wo = wr := ⟨_, rfl⟩
      have hlN : ([nm] ++ al).length = al.length + 1 := by simp
      rw [hlN] at HS4
      clear hlN
      go_loopw [49] (fun j wq => ∃ (m : Nat) (S2 : List Key), m ≤ al.length + 1 ∧ j = .int .i64 m ∧ Hid (pl.chkN pr ((nm :: al).take m) Sk = some S2) ∧ Hid (MapF Try.prog 9 wq w.heap.size (30 * k + m) (seenF S2)) ∧ Hid (Blk wq wo.heap.size #[.string ⟨nm.toArray⟩, .int .i64 (P : Int), .string ⟨pr.toArray⟩, .slice an al.length cn] 61) ∧ Hid (Strs wq w.heap.size (.slice a4 (al.length + 1) c4) (nm :: al)) ∧ Hid (Below w.heap.size w wq)) (fun j _ => al.length + 1 - (intOf j).toNat)
      case atStart => exact ⟨0, Sk, Nat.zero_le _, rfl, Lib.hid rfl, HM4, HBK4, HS4, HB4⟩
      case round =>
        obtain ⟨m, S2, hm, rfl, HA2, HMq, HBKq, HSq, HBq⟩ := hrel
        by_cases hlm : m < al.length + 1
        · obtain ⟨q, hq⟩ : ∃ q, (nm :: al)[m]? = some q := ⟨_, List.getElem?_eq_getElem (by simp; omega)⟩
          obtain ⟨aq, cq, heq, hcq⟩ := HSq.out.form
          obtain ⟨gq, haq, hgq, hgq2, hcell⟩ := hcq m q hq
          injection heq with e1 e2 e3
          rw [haq] at e1
          subst e1
          have hql : q.length ≤ 2147483647 := by
            match m, hq with
            | 0, hq => simp at hq; subst hq; exact HL1.out
            | m + 1, hq => exact HL3.out q (List.mem_of_getElem? (by simpa using hq))
          unfold pl.strV at hcell
          have hqs : (⟨q.toArray⟩ : ByteArray).size ≤ 2147483647 := hql
          obtain ⟨o2, ho2⟩ : ∃ o2, pl.plain q = o2 := ⟨_, rfl⟩
          have hpl2 := fun W => plain_is q o2 (by omega) ho2 W
          have hlw := fun W => low_is q (by omega) W
          have hchk : pl.chkN pr ((nm :: al).take (m + 1)) Sk = if pl.plain q = true ∧ pl.low q = q ∧ pl.svKey pr q ∉ S2 then some (pl.svKey pr q :: S2) else none := by
            rw [pl.take_at (nm :: al) m q hq, pl.chkN_app, HA2.out]
            exact pl.chkN_one pr q S2
          have hbad : ¬ (pl.plain q = true ∧ pl.low q = q ∧ pl.svKey pr q ∉ S2) → pl.chkS l [] = none := fun h => HNO.out (.inr (pl.chkN_no pr (nm :: al) Sk S2 m q hq HA2.out h))
          have hgood : (pl.plain q = true ∧ pl.low q = q ∧ pl.svKey pr q ∉ S2) → pl.chkN pr ((nm :: al).take (m + 1)) Sk = some (pl.svKey pr q :: S2) := fun h => by rw [hchk, if_pos h]
          have HPL2 := Lib.hid hpl2
          have HLW := Lib.hid hlw
          have HO2 := Lib.hid ho2
          have HBAD := Lib.hid hbad
          have HGOOD := Lib.hid hgood
          clear hpl2 hlw ho2 hbad hgood hchk hq hql hcq e2 e3 hgq hgq2
          rcases o2 with _ | _
          · have hx := HBAD.out (fun h => by rw [HO2.out] at h; cases h.1)
            have HX := Lib.hid hx
            clear hx
            go_wp2_with (go_at_call 10; refine (HPL2.out _).mono ?_; rintro e w5 ⟨rfl, hb5⟩; have HB5 := Lib.hid (HBq.out.trans (hb5.out.mono HBq.out.size)); clear hb5)
            go_ret2
            exact ⟨HB5.out, .inr ⟨HX.out, rfl⟩⟩
          · by_cases hlo : pl.low q = q
            · rw [hlo] at HLW
              obtain ⟨r, hr⟩ : ∃ r : Option Value, seenF S2 (pl.svKey pr q) = r := ⟨_, rfl⟩
              have hkd : ((⟨pr.toArray⟩ : ByteArray) ++ ⟨#[32]⟩ ++ ⟨q.toArray⟩).data.toList = pl.svKey pr q := by rw [app_ba, app_ba]; rfl
              have hks : ((⟨pr.toArray⟩ : ByteArray) ++ ⟨#[32]⟩ ++ ⟨q.toArray⟩).size ≤ maxLen := by
                rw [ByteArray.size_append, ByteArray.size_append]
                have : (⟨#[32]⟩ : ByteArray).size = 1 := rfl
                unfold maxLen; omega
              obtain ⟨K, hK⟩ : ∃ K, (⟨pr.toArray⟩ : ByteArray) ++ ⟨#[32]⟩ ++ ⟨q.toArray⟩ = K := ⟨_, rfl⟩
              rw [hK] at hkd hks
              have hr' : seenF S2 K.data.toList = r := by rw [hkd]; exact hr
              have HR := Lib.hid hr
              have HR' := Lib.hid hr'
              have HKD := Lib.hid hkd
              have HKS := Lib.hid hks
              have HLO := Lib.hid hlo
              have hprl : pr.length ≤ 2147483647 := HL2.out
              have hqll : q.length ≤ 2147483647 := hqs
              clear hr hr' hkd hks hlo
              by_cases hin : pl.svKey pr q ∈ S2
              · have hrt : r = some (.bool true) := by rw [← HR.out]; unfold seenF; rw [if_pos hin]
                subst hrt
                have hx := HBAD.out (fun h => h.2.2 hin)
                have HX := Lib.hid hx
                clear hx hin
                go_wp2_with (first
                | (go_at_call 10; refine (HPL2.out _).mono ?_; rintro e w5 ⟨rfl, hb5⟩; have HB5 := Lib.hid (HBq.out.trans (hb5.out.mono HBq.out.size)); have HM5 := Lib.hid (HMq.out.below hb5.out HMq.out.lt); have HBK5 := Lib.hid (HBKq.out.below hb5.out HBKq.out.lt); have HS5 := Lib.hid (HSq.out.below hb5.out); clear hb5)
                | (go_at_call 11; refine (HLW.out _).mono ?_; rintro e w6 ⟨rfl, hb6⟩; have HB6 := Lib.hid (HB5.out.trans (hb6.out.mono HB5.out.size)); have HM6 := Lib.hid (HM5.out.below hb6.out HM5.out.lt); have HBK6 := Lib.hid (HBK5.out.below hb6.out HBK5.out.lt); have HS6 := Lib.hid (HS5.out.below hb6.out); have c62 := HBK6.out.cell 2; simp at c62; have lk := MapF.look (f := seenF S2) HM6.out (t := 63) (e := 4) Try.underlying9 Try.underlying63 (zero_b _) K HKS.out false _ HR'.out; simp only [Option.getD, if_neg, Bool.false_eq_true] at lk; clear hb6))
                go_ret2
                exact ⟨HB6.out, .inr ⟨HX.out, rfl⟩⟩
              · have hrt : r = none := by rw [← HR.out]; unfold seenF; rw [if_neg hin]
                subst hrt
                have hg := HGOOD.out ⟨HO2.out, HLO.out, hin⟩
                have HG := Lib.hid hg
                have hnn : 30 * k + m < maxLen := by have := HN20.out; unfold maxLen; omega
                clear hg hin
                go_wp2_with (first
                | (go_at_call 10; refine (HPL2.out _).mono ?_; rintro e w5 ⟨rfl, hb5⟩; have HB5 := Lib.hid (HBq.out.trans (hb5.out.mono HBq.out.size)); have HM5 := Lib.hid (HMq.out.below hb5.out HMq.out.lt); have HBK5 := Lib.hid (HBKq.out.below hb5.out HBKq.out.lt); have HS5 := Lib.hid (HSq.out.below hb5.out); clear hb5)
                | (go_at_call 11; refine (HLW.out _).mono ?_; rintro e w6 ⟨rfl, hb6⟩; have HB6 := Lib.hid (HB5.out.trans (hb6.out.mono HB5.out.size)); have HM6 := Lib.hid (HM5.out.below hb6.out HM5.out.lt); have HBK6 := Lib.hid (HBK5.out.below hb6.out HBK5.out.lt); have HS6 := Lib.hid (HS5.out.below hb6.out); have c62 := HBK6.out.cell 2; simp at c62; have lk := MapF.look (f := seenF S2) HM6.out (t := 63) (e := 4) Try.underlying9 Try.underlying63 (zero_b _) K HKS.out false _ HR'.out; simp only [Option.getD, if_neg, Bool.false_eq_true] at lk; clear hb6)
                | (at_mapUpdate; refine wpList_put _ rfl _ _ _ 63 rfl 9 4 Try.underlying9 Try.underlying63 w.heap.size (30 * k + m) (seenF S2) rfl HM6.out hnn K HKS.out (.bool true) rfl rfl ?_; intro w7 hM7 hg7; rw [HKD.out] at hM7; have HM7 := Lib.hid hM7; have HBK7 := Lib.hid (HBK6.out.map_put HM6.out hg7); have HS7 := Lib.hid (HS6.out.map_put HM6.out hg7); have HB7 := Lib.hid (HB6.out.grown hg7 HB6.out.size (fun k hk => by injection hk with hk; omega)); clear hM7 hg7))
                have hsF : ∀ x, (if x = pl.svKey pr q then some (Value.bool true) else seenF S2 x) = seenF (pl.svKey pr q :: S2) x := fun x => by
                  unfold seenF
                  by_cases e : x = pl.svKey pr q
                  · simp [e]
                  · simp [e]
                go_roundw
                case rel => exact ⟨m + 1, _, by omega, by go_num, HG, Lib.hid (HM7.out.congr hsF), HBK7, HS7, HB7⟩
                case measure => simp [intOf]; omega
            · have hx := HBAD.out (fun h => hlo h.2.1)
              have HX := Lib.hid hx
              have hqll : q.length ≤ 2147483647 := hqs
              have hprl : pr.length ≤ 2147483647 := HL2.out
              obtain ⟨LB, hLB⟩ : ∃ LB : ByteArray, (⟨(pl.low q).toArray⟩ : ByteArray) = LB := ⟨_, rfl⟩
              obtain ⟨QB, hQB⟩ : ∃ QB : ByteArray, (⟨q.toArray⟩ : ByteArray) = QB := ⟨_, rfl⟩
              have hne : ¬ (LB = QB) := fun h => hlo (by
                have h1 : LB.data.toList = QB.data.toList := by rw [h]
                rw [← hLB, ← hQB] at h1
                exact h1)
              have hbeq : (LB.toList == QB.toList) = false := by
                rw [beq_eq_false_iff_ne, Lib.toList_data, Lib.toList_data]
                exact fun h => hne (pl.ba_ext h)
              rw [hLB, hQB] at HLW
              rw [hQB] at HPL2 hcell
              have HLB := Lib.hid hLB
              have HQB := Lib.hid hQB
              clear hx hlo hLB hQB
              go_wp2_with (first
                | (go_at_call 10; refine (HPL2.out _).mono ?_; rintro e w5 ⟨rfl, hb5⟩; have HB5 := Lib.hid (HBq.out.trans (hb5.out.mono HBq.out.size)); clear hb5)
                | (go_at_call 11; refine (HLW.out _).mono ?_; rintro e w6 ⟨rfl, hb6⟩; have HB6 := Lib.hid (HB5.out.trans (hb6.out.mono HB5.out.size)); clear hb6))
              go_ret2
              exact ⟨HB6.out, .inr ⟨HX.out, rfl⟩⟩
        · have hme : (nm :: al).take m = nm :: al := List.take_of_length_le (by simp; omega)
          rw [hme] at HA2
          have hye := HYE.out S2 HHD.out HA2.out
          have HY := Lib.hid hye
          have hm21 : m ≤ 21 := by have := HN20.out; omega
          clear hme hye
          have hnml : nm.length ≤ 2147483647 := HL1.out
          have hprl : pr.length ≤ 2147483647 := HL2.out
          obtain ⟨NB, hNB⟩ : ∃ NB : ByteArray, (⟨(pl.num 10 P).toArray⟩ : ByteArray) = NB := ⟨_, rfl⟩
          have hnum := fun W => num_10 P W (by omega)
          rw [hNB] at hnum
          have hNBs : NB.size ≤ 64 := by rw [← hNB]; exact pl.num_len 10 P
          have HNUM := Lib.hid hnum
          have HNB := Lib.hid hNB
          have q0 : wr.cell? ⟨wo.heap.size, 0, none⟩ = some (.string ⟨nm.toArray⟩) := HBKq.out.cell 0
          have q1 : wr.cell? ⟨wo.heap.size, 1, none⟩ = some (.int .i64 (P : Int)) := HBKq.out.cell 1
          have q2 : wr.cell? ⟨wo.heap.size, 2, none⟩ = some (.string ⟨pr.toArray⟩) := HBKq.out.cell 2
          have q3 : ∀ n, (wr.drewN n).cell? ⟨wo.heap.size, 3, none⟩ = some (.slice an al.length cn) := fun n => (HBKq.out.drewN n).cell 3
          clear hnum hNB
          go_wp2_with fail
          go_quiet ((go_at_call 25; exact Calls.quiet_of (HNUM.out _)))
          go_wp2_with fail
          have hTd : (S ++ (⟨nm.toArray⟩ ++ ⟨#[9]⟩ ++ NB ++ ⟨#[47]⟩ ++ ⟨pr.toArray⟩ : ByteArray)).data.toList = S.data.toList ++ (nm ++ [9] ++ (pl.num 10 P ++ [47] ++ pr)) := by
            rw [app_ba, app_ba, app_ba, app_ba, app_ba, ← HNB.out]
            simp
          have hTs : (S ++ (⟨nm.toArray⟩ ++ ⟨#[9]⟩ ++ NB ++ ⟨#[47]⟩ ++ ⟨pr.toArray⟩ : ByteArray)).size ≤ S.size + 4294967400 := by
            rw [ByteArray.size_append, ByteArray.size_append, ByteArray.size_append, ByteArray.size_append, ByteArray.size_append]
            have e1 : (⟨#[9]⟩ : ByteArray).size = 1 := rfl
            have e2 : (⟨#[47]⟩ : ByteArray).size = 1 := rfl
            have e3 : (⟨nm.toArray⟩ : ByteArray).size = nm.length := rfl
            have e4 : (⟨pr.toArray⟩ : ByteArray).size = pr.length := rfl
            omega
          obtain ⟨T, hT⟩ : ∃ T : ByteArray, S ++ (⟨nm.toArray⟩ ++ ⟨#[9]⟩ ++ NB ++ ⟨#[47]⟩ ++ ⟨pr.toArray⟩) = T := ⟨_, rfl⟩
          rw [hT] at hTd hTs ⊢
          obtain ⟨W0, hW0⟩ : ∃ W0, wr.drewN nq = W0 := ⟨_, rfl⟩
          have hM0 : MapF Try.prog 9 W0 w.heap.size (30 * k + m) (seenF S2) := by rw [← hW0]; exact HMq.out.keep rfl
          have hB0 : Below w.heap.size w W0 := by rw [← hW0]; exact below_drewN HBq.out nq
          rw [hW0]
          have HTD := Lib.hid hTd
          have HM0 := Lib.hid hM0
          have HB0 := Lib.hid hB0
          clear hT hW0 hTd hM0 hB0 q0 q1 q2 q3
          go_loopw [4, 94] (fun out j wq => ∃ (m2 : Nat) (S3 : ByteArray), m2 ≤ al.length ∧ j = .int .i64 m2 ∧ out = .string S3 ∧ Hid (S3.data.toList = T.data.toList ++ pl.svAl (al.take m2)) ∧ S3.size ≤ T.size + m2 * 2147483651 ∧ wq = W0) (fun _ j _ => al.length - (intOf j).toNat)
          case atStart => exact ⟨0, _, Nat.zero_le _, rfl, rfl, Lib.hid (by simp [pl.svAl]), by omega, rfl⟩
          case round =>
            obtain ⟨m2, S3, hm2, rfl, rfl, HS3, hs3, rfl⟩ := hrel
            by_cases hlm2 : m2 < al.length
            · obtain ⟨q, hq⟩ : ∃ q, al[m2]? = some q := ⟨_, List.getElem?_eq_getElem hlm2⟩
              obtain ⟨gn, on, rfl, hgn, hqc⟩ := HNC.out m2 q hq
              have hq1 : wr.cell? ⟨gn, on + m2, none⟩ = some (pl.strV q) := by rw [below_cell HB0.out _ _ hgn]; exact hqc
              unfold pl.strV at hq1
              have hql : q.length ≤ 2147483647 := HL3.out q (List.mem_of_getElem? hq)
              have b3 : S3.size ≤ 7100000000000 := by have := HN20.out; omega
              have HQ := Lib.hid hq
              clear hq hqc
              go_wp2_with fail
              have hda : (S3 ++ ((⟨#[32]⟩ : ByteArray) ++ ⟨q.toArray⟩)).data.toList = T.data.toList ++ pl.svAl (al.take (m2 + 1)) := by
                rw [app_ba, app_ba, HS3.out, pl.take_at al m2 q HQ.out, pl.svAl_snoc]
                simp
              have hsi : (S3 ++ ((⟨#[32]⟩ : ByteArray) ++ ⟨q.toArray⟩)).size ≤ T.size + (m2 + 1) * 2147483651 := by
                rw [ByteArray.size_append, ByteArray.size_append]
                have e1 : (⟨#[32]⟩ : ByteArray).size = 1 := rfl
                have e2 : (⟨q.toArray⟩ : ByteArray).size = q.length := rfl
                omega
              have HDA := Lib.hid hda
              have HSI := Lib.hid hsi
              clear hda hsi
              go_roundw
              case rel => exact ⟨m2 + 1, _, by omega, by go_num, rfl, HDA, HSI.out, trivial⟩
              case measure => simp [intOf]; omega
            · have hme2 : al.take m2 = al := List.take_of_length_le (by omega)
              rw [hme2] at HS3
              have b3 : S3.size ≤ 7100000000000 := by have := HN20.out; omega
              have b4 : m2 ≤ 20 := by have := HN20.out; omega
              clear hme2
              go_wp2_with fail
              have hda : (S3 ++ (⟨#[9, 35, 32, 99, 111, 109, 109, 101, 110, 116, 10]⟩ : ByteArray)).data.toList = pl.svTop ++ (l.take (k + 1)).flatMap pl.svLine := by
                rw [app_ba, HS3.out, HTD.out, HS.out, HTY.out, List.flatMap_append]
                simp [pl.svLine, pl.svPP, pl.svCmt, List.append_assoc]
              have hsi : (S3 ++ (⟨#[9, 35, 32, 99, 111, 109, 109, 101, 110, 116, 10]⟩ : ByteArray)).size ≤ 20 + (k + 1) * 70000000000 := by
                rw [ByteArray.size_append]
                have : (⟨#[9, 35, 32, 99, 111, 109, 109, 101, 110, 116, 10]⟩ : ByteArray).size = 11 := rfl
                omega
              have HDA := Lib.hid hda
              have HSI := Lib.hid hsi
              clear hda hsi
              go_roundw
              case rel => exact ⟨k + 1, _, _, by omega, by go_num, rfl, HDA, HY, HSI.out, Lib.hid (HM0.out.mono (by omega)), HB0.out⟩
              case measure => simp [intOf]; omega
    · have hke : l.take k = l := List.take_of_length_le (by omega)
      rw [hke] at HS HA
      go_wp2_with fail
      go_ret2
      refine ⟨hb, .inl ⟨⟨Sk, HA.out⟩, ?_⟩⟩
      have : S = ⟨(pl.svText l).toArray⟩ := pl.ba_ext HS.out
      rw [← this]
      rfl

end Go.Proofs.Ytabeklpllphiaaa
