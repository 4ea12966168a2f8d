/-
  THE WALK of FnHostsJoin.
-/
import Derived.Test.YtfkohahlpfejbaaDoorHostLawH
import Derived.Laws.AppendOwnNone
namespace Go.Proofs.YtfkohahlpfejbaaDoor
open Go.RowKit

/-- 'append(x, y...)' of strings. -/
theorem app_strs {ops : Array Oper} {rest : List Oper} {o : Oper} {a : Act} {Q : Exit → Act → World → Prop} {w wr : World} {v yv : Value} {l m : List (List UInt8)}
    (hgd : o.guard = none) (s y : Operand) (ho : o.op = .call { callee := .builtin .append, args := #[s, y], argTypes := #[31, 31] })
    (hs : a.eval s = v) (B : Nat) (hown : Strs wr B v l) (hy : a.eval y = yv) (hr : RdS wr yv m) (hlen : l.length + m.length ≤ 1000000) (hb : Below B w wr) (hB : B ≤ w.heap.size)
    (h : ∀ v' w', Strs w' B v' (l ++ m) → Below B w w' → wr.grownBy w' v.ownBlock → wpList Tryd.prog ops Q rest (a.put o.dst v') w') : wpList Tryd.prog ops Q (o :: rest) a wr := by
  obtain ⟨i0, hi, hz0, hz1, hz2⟩ := info_parts infoStr
  have hsz := hb.size
  obtain ⟨ao, cap, rfl, h1, h0, h3⟩ := hr
  rcases ao with _ | x
  · have hm : m = [] := List.eq_nil_of_length_eq_zero (by have := h0 rfl; omega)
    have hc0 : cap = 0 := h0 rfl
    rw [hm] at hy
    rw [hc0] at hy
    refine wpList_append_own_none hgd s y 31 ho B 9 i0 1 Tryd.underlying31 hi v l.length (l.map pl.strV) hs hown hy (h v wr ?_ hb (World.grownBy.refl _ _))
    rw [hm, List.append_nil]
    exact hown
  · refine wpList_append_own _ hgd s y 31 ho B 9 i0 (.string ⟨#[]⟩) 1 16 Tryd.underlying31 hi hz0 hz1 hz2 rfl (by decide) v l.length (l.map pl.strV) hs hown x m.length cap (m.map pl.strV) hy (by simp) ?_ ?_ ?_ ?_ ?_ ?_
    · intro j u hj
      rw [List.getElem?_map, Option.map_eq_some_iff] at hj
      obtain ⟨b, hb', rfl⟩ := hj
      obtain ⟨g, off, ha, _, hc⟩ := h3 j b hb'
      rw [Option.some.inj ha, Addr.add_lit]
      exact hc
    · intro u hu
      obtain ⟨b, _, rfl⟩ := List.mem_map.1 hu
      rfl
    · unfold maxLen; omega
    · omega
    · omega
    · intro v' w' h1 h2 _
      refine h v' w' ?_ ?_ h2
      · unfold Strs
        rw [List.length_append, List.map_append]
        exact h1
      · exact hb.grown h2 (by omega) (fun k hk => ((World.ownsRow.lt hown) k hk).1)

/-- An operation behind a guard that holds is as one without. -/
theorem wpList_unguard {P : Program} {ops : Array Oper} {rest : List Oper} {o : Oper} {a : Act} {Q : Exit → Act → World → Prop} {w : World} (hw : Region.wanted o (yielded ops a.tmps) = true)
    (h : wpList P ops Q ({ o with guard := none } :: rest) a w) : wpList P ops Q (o :: rest) a w := by
  unfold wpList at h ⊢
  rw [if_pos hw]
  rw [if_pos (by simp [Region.wanted])] at h
  exact h

/-- A row of strings that was made later stays behind an append to an earlier one. -/
theorem Strs.apart {w w' W1 : World} {B1 B2 : Nat} {v1 v2 : Value} {l1 l2 : List (List UInt8)} (h2 : Strs w B2 v2 l2) (h1 : Strs W1 B1 v1 l1) (hs : W1.heap.size ≤ B2) (hg : w.grownBy w' v1.ownBlock) : Strs w' B2 v2 l2 := by
  refine World.ownsRow.kept h2 hg ?_
  rcases h2.2 with ⟨rfl, _⟩ | ⟨g2, cap2, cur2, rfl, hg2, _⟩
  · exact .inl rfl
  · right
    rcases h1.2 with ⟨rfl, _⟩ | ⟨g1, cap1, cur1, rfl, _, hh1, _⟩
    · simp [Value.ownBlock]
    · have := (Array.getElem?_eq_some_iff.1 hh1).1
      simp only [Value.ownBlock, ne_eq, Option.some.injEq]
      omega

/-- A row of strings that was made earlier stays behind an append to a later one. -/
theorem Strs.apart2 {w w' W1 W2 : World} {B1 B2 B : Nat} {v1 v2 : Value} {l1 l2 : List (List UInt8)} (h2 : Strs w B v2 l2) (h2' : Strs W2 B2 v2 l2) (h1 : Strs W1 B1 v1 l1) (hs : W2.heap.size ≤ B1) (hg : w.grownBy w' v1.ownBlock) : Strs w' B v2 l2 := by
  refine World.ownsRow.kept h2 hg ?_
  rcases h2'.2 with ⟨rfl, _⟩ | ⟨g2, cap2, cur2, rfl, _, hh2, _⟩
  · exact .inl rfl
  · right
    rcases h1.2 with ⟨rfl, _⟩ | ⟨g1, cap1, cur1, rfl, hg1, _⟩
    · simp [Value.ownBlock]
    · have := (Array.getElem?_eq_some_iff.1 hh2).1
      simp only [Value.ownBlock, ne_eq, Option.some.injEq]
      omega

set_option maxRecDepth 100000 in
set_option maxHeartbeats 8000000 in
theorem hj_walk (aa ab : Option Addr) (na ca nb cb : Nat) (gap : Int) (SA SB N D : ByteArray) (LA LB M1 M2 : List (List UInt8)) (CA CB CX : ByteArray) (q : Bool) (w : World)
    (hSA : SA.size ≤ 5000000000000) (hSB : SB.size ≤ 5000000000000) (hN : ¬ (2147483647 < (N.size : Int))) (hD : ¬ (2147483647 < (D.size : Int)))
    (HN : Hid (LA.length ≤ 10000 ∧ LB.length ≤ 10000 ∧ M1.length ≤ 10000 ∧ M2.length ≤ 10000))
    (HF1 : Hid (∀ W, Below w.heap.size w W → Calls Tryd.prog 13 #[.slice aa na ca] W fun e w' => e = .returned (.bool true) ∧ Below W.heap.size W w'))
    (HF2 : Hid (∀ W, Below w.heap.size w W → Calls Tryd.prog 13 #[.slice ab nb cb] W fun e w' => e = .returned (.bool true) ∧ Below W.heap.size W w'))
    (HH1 : Hid (∀ W, Below w.heap.size w W → Calls Tryd.prog 14 #[.slice aa na ca, .int .i64 gap] W fun e w' => e = .returned (.tuple #[.string SA, .bool true]) ∧ Below W.heap.size W w'))
    (HH2 : Hid (∀ W, Below w.heap.size w W → Calls Tryd.prog 14 #[.slice ab nb cb, .int .i64 gap] W fun e w' => e = .returned (.tuple #[.string SB, .bool true]) ∧ Below W.heap.size W w'))
    (HAD : Hid (∀ W, Calls Tryd.prog 15 #[.string D] W fun e w' => (∃ a n c, e = .returned (.tuple #[.slice a n c, .bool true])) ∧ Hid (Below W.heap.size W w')))
    (HPL : Hid (∀ W, Calls Tryd.prog 20 #[.string N] W fun e w' => e = .returned (.bool true) ∧ Hid (Below W.heap.size W w')))
    (HL1 : Hid (∀ W, Below w.heap.size w W → Calls Tryd.prog 21 #[.string SA, .string N] W fun e w' => ∃ v, e = .returned (.tuple #[v, .string CA]) ∧ Hid (Strs w' W.heap.size v LA) ∧ Hid (Below W.heap.size W w')))
    (HL2 : Hid (∀ W, Below w.heap.size w W → Calls Tryd.prog 21 #[.string SB, .string N] W fun e w' => ∃ v, e = .returned (.tuple #[v, .string CB]) ∧ Hid (Strs w' W.heap.size v LB) ∧ Hid (Below W.heap.size W w')))
    (HL3 : Hid (∀ W, Below w.heap.size w W → Calls Tryd.prog 21 #[.string (SA ++ SB), .string N] W fun e w' => ∃ v, e = .returned (.tuple #[v, .string CX]) ∧ Hid (Strs w' W.heap.size v (LA ++ LB)) ∧ Hid (Below W.heap.size W w')))
    (HA1 : Hid (∀ W, Below w.heap.size w W → Calls Tryd.prog 18 #[.string SA, .string D] W fun e w' => ∃ v, e = .returned v ∧ Hid (Strs w' W.heap.size v M1) ∧ Hid (Below W.heap.size W w')))
    (HA2 : Hid (∀ W, Below w.heap.size w W → Calls Tryd.prog 18 #[.string SB, .string D] W fun e w' => ∃ v, e = .returned v ∧ Hid (Strs w' W.heap.size v M2) ∧ Hid (Below W.heap.size W w')))
    (HA3 : Hid (∀ W, Below w.heap.size w W → Calls Tryd.prog 18 #[.string (SA ++ SB), .string D] W fun e w' => ∃ v, e = .returned v ∧ Hid (Strs w' W.heap.size v (M1 ++ M2)) ∧ Hid (Below W.heap.size W w')))
    (t0 : ((LA.length : Int) == 0) = q) (HC : Hid (CX = if q = true then CB else CA)) :
    Calls Tryd.prog 5 #[.slice aa na ca, .slice ab nb cb, .int .i64 gap, .string N, .string D] w fun e w' => e = .returned (.bool true) ∧ Below w.heap.size w w' := by
  have HWK := Lib.hid works_any
  rcases q with _ | _
  all_goals
    have hc := HC.out
    simp only [Bool.false_eq_true, if_false, if_true] at hc
    subst hc
    clear HC
    go_enter Tryd.func5, Tryd.ntmps5
    go_wp2_with (first
      | (go_at_call 16; have hx0 := HB17; refine (HWK.out _).mono ?_; rintro e w18 ⟨rfl, hb18⟩; have HB18 := Lib.hid (HB17.out.trans (hb18.mono HB17.out.size)); clear hb18)
      | (go_at_call 17; have hx0 := HS16; refine (same_any _ _ (M1 ++ M2) (M1 ++ M2) _ _ _ HSF13.out HS16.out (by have := HN.out; simp; omega) (by have := HN.out; simp; omega)).mono ?_; rintro e w17' ⟨rfl, n17, rfl⟩; rw [decide_eq_true (rfl : M1 ++ M2 = M1 ++ M2)]; have HB17 : Hid (Below w.heap.size w (w16.drewN n17)) := Lib.hid (below_drewN HB16.out n17))
      | (at_builtin; have hx0 := mkB; clear hx0 mkB; refine wpList_unguard rfl (app_strs (w := w) (v := .slice a14 M1.length c14) (yv := v15) (l := M1) (m := M2) rfl (.tmp 116) (.tmp 119) rfl rfl w.heap.size HSM14.out rfl HSR15.out (by have := HN.out; omega) HB15.out (Nat.le_refl _) ?_); intro v16 w16 hs16 hb16 hg16; have HS16 := Lib.hid hs16; have HB16 := Lib.hid hb16; have HSF13 := Lib.hid (HSM13.out.apart2 HS13.out HS14.out (Nat.le_refl _) hg16); clear hs16 hb16 hg16)
      | (go_at_call 18; have hx0 := HB14; refine (HA2.out _ HB14.out).mono ?_; rintro e w15 ⟨v15, rfl, HS15, hb15⟩; have HB15 := Lib.hid (HB14.out.trans (hb15.out.mono HB14.out.size)); have mkB := Lib.hid trivial; have HSM14 := Lib.hid ((HS14.out.below hb15.out).mono HB13.out.size); have HSR15 := Lib.hid (RdS.of_strs HS15.out); have HSM13 := Lib.hid ((HS13.out.below hb14.out).below hb15.out); obtain ⟨a14, c14, rfl, _⟩ := HS14.out.form)
      | (go_at_call 18; have hx0 := HB13; refine (HA1.out _ HB13.out).mono ?_; rintro e w14 ⟨v14, rfl, HS14, hb14⟩; have HB14 := Lib.hid (HB13.out.trans (hb14.out.mono HB13.out.size)))
      | (go_at_call 18; have hx0 := HB12; refine (HA3.out _ HB12.out).mono ?_; rintro e w13 ⟨v13, rfl, HS13, hb13⟩; have HB13 := Lib.hid (HB12.out.trans (hb13.out.mono HB12.out.size)))
      | (go_at_call 17; have hx0 := HS11; have hx1 := mkC; clear hx1 mkC; refine (same_any _ _ (LA ++ LB) (LA ++ LB) _ _ _ HSG10.out HS11.out (by have := HN.out; simp; omega) (by have := HN.out; simp; omega)).mono ?_; rintro e w12' ⟨rfl, n12, rfl⟩; rw [decide_eq_true (rfl : LA ++ LB = LA ++ LB)]; have HB12 : Hid (Below w.heap.size w (w11.drewN n12)) := Lib.hid (below_drewN HB11.out n12))
      | (at_builtin; have hx0 := mkA; clear hx0 mkA; refine app_strs (w := w) (v := .slice a8 LA.length c8) (yv := v9) (l := LA) (m := LB) rfl _ _ rfl rfl w.heap.size HSM8.out rfl HSR9.out (by have := HN.out; omega) HB10.out (Nat.le_refl _) ?_; intro v11 w11 hs11 hb11 hg11; have HS11 := Lib.hid hs11; have HB11 := Lib.hid hb11; have HSG10 := Lib.hid (HS10.out.apart HS8.out HZ9.out hg11); have mkC := Lib.hid trivial; clear hs11 hb11 hg11)
      | (go_at_call 21; have hx0 := HB9; refine (HL3.out _ HB9.out).mono ?_; rintro e w10 ⟨v10, rfl, HS10, hb10⟩; have HB10 := Lib.hid (HB9.out.trans (hb10.out.mono HB9.out.size)); have mkA := Lib.hid trivial; have HSM8 := Lib.hid (((HS8.out.below hb9.out).below hb10.out).mono HB7.out.size); have HSR9 := Lib.hid (RdS.of_strs (HS9.out.below hb10.out)); obtain ⟨a8, c8, rfl, _⟩ := HS8.out.form)
      | (go_at_call 21; have hx0 := HB8; refine (HL2.out _ HB8.out).mono ?_; rintro e w9 ⟨v9, rfl, HS9, hb9⟩; have HB9 := Lib.hid (HB8.out.trans (hb9.out.mono HB8.out.size)); have HZ9 := Lib.hid hb9.out.size)
      | (go_at_call 21; have hx0 := HB7; refine (HL1.out _ HB7.out).mono ?_; rintro e w8 ⟨v8, rfl, HS8, hb8⟩; have HB8 := Lib.hid (HB7.out.trans (hb8.out.mono HB7.out.size)))
      | (go_at_call 20; have hx0 := HB6; refine (HPL.out _).mono ?_; rintro e w7 ⟨rfl, hb7⟩; have HB7 := Lib.hid (HB6.out.trans (hb7.out.mono HB6.out.size)); clear hb7)
      | (go_at_call 15; have hx0 := HB5; refine (HAD.out _).mono ?_; rintro e w6 ⟨⟨a4, n4, c4, rfl⟩, hb6⟩; have HB6 := Lib.hid (HB5.out.trans (hb6.out.mono HB5.out.size)); clear hb6)
      | (go_at_call 14; have hx0 := HB4; refine (HH2.out _ HB4.out).mono ?_; rintro e w5 ⟨rfl, hb5⟩; have HB5 := Lib.hid (HB4.out.trans (hb5.mono HB4.out.size)); clear hb5)
      | (go_at_call 14; have hx0 := HB3; refine (HH1.out _ HB3.out).mono ?_; rintro e w4 ⟨rfl, hb4⟩; have HB4 := Lib.hid (HB3.out.trans (hb4.mono HB3.out.size)); clear hb4)
      | (go_at_call 13; have hx0 := HB2; refine (HF2.out _ HB2.out).mono ?_; rintro e w3 ⟨rfl, hb3⟩; have HB3 := Lib.hid (HB2.out.trans (hb3.mono HB2.out.size)); clear hb3)
      | (go_at_call 13; refine (HF1.out _ (Below.refl _ _)).mono ?_; rintro e w2 ⟨rfl, hb2⟩; have HB2 := Lib.hid hb2; clear hb2))
    go_ret
    exact ⟨rfl, HB18.out⟩

end Go.Proofs.YtfkohahlpfejbaaDoor
