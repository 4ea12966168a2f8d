/-
  WALK: spec.Standard.
-/
import Derived.Test.YtabeklpllphiaaaNsA
import Derived.Test.YtabeklpllphiaaaNsO
namespace Go.Proofs.Ytabeklpllphiaaa
open Go.RowKit

/-- an entry of a map literal -/
theorem wpList_ins {P : Program} (w : World) {ops : Array Oper} {rest : List Oper} {o : Oper} {a : Act} {Q : Exit → Act → World → Prop}
    (hg : o.guard = none) (m x v : Operand) (t : TypeId) (hop : o.op = Op.insert t m x v) (k e : TypeId) (hk : P.underlying k = some .string) (ht : P.underlying t = some (.map k e)) (b n : Nat) (f : List UInt8 → Option Value)
    (hm : a.eval m = .map (some b)) (hown : MapF P k w b n f) (hn : n < maxLen) (s : ByteArray) (hs : s.size ≤ maxLen) (val : Value) (hx : a.eval x = .string s) (hv : a.eval v = val)
    (hK : ∀ w', MapF P k w' b (n + 1) (fun x => if x = s.data.toList then some val else f x) → w.grownBy w' (some b) → wpList P ops Q rest (a.put o.dst undef) w') :
    wpList P ops Q (o :: rest) a w := by
  refine wpList_plain hg fun K' hK' => ?_
  obtain ⟨w', hrun, r1, r2⟩ := hown.put hk ht hn s hs val
  unfold Oper.wp
  simp [execOp, hop, hm, hx, hv, hrun, Result.andThen]
  exact hK' _ _ (hK w' r1 r2)

/-- has a criterion the default action of its status? -/
def pl.stdB (c : Crit) : Bool :=
  if c.1 = true then false else match pl.dflt (pl.low c.2.1) with
    | none => false
    | some d => decide (pl.low c.2.2 = d)
theorem zero_s (w : World) : (zeroValue 9).run Try.prog w = .ok (.string ⟨#[]⟩) w := by kernel_rfl
theorem pl.dflt_fold (x : List UInt8) : (if x = pl.tTry then some (pl.strV pl.tCont) else if x = pl.tUnav then some (pl.strV pl.tCont) else if x = pl.tNotf then some (pl.strV pl.tCont) else if x = pl.tSucc then some (pl.strV pl.tRet) else none) = (pl.dflt x).map pl.strV := by
  unfold pl.dflt
  by_cases h1 : x = pl.tSucc
  · subst h1
    rw [if_neg (by decide), if_neg (by decide), if_neg (by decide), if_pos rfl, if_pos rfl]; rfl
  · by_cases h2 : x = pl.tNotf
    · subst h2
      rw [if_neg (by decide), if_neg (by decide), if_pos rfl, if_neg h1, if_pos (.inl rfl)]; rfl
    · by_cases h3 : x = pl.tUnav
      · subst h3
        rw [if_neg (by decide), if_pos rfl, if_neg h1, if_pos (.inr (.inl rfl))]; rfl
      · by_cases h4 : x = pl.tTry
        · subst h4
          rw [if_pos rfl, if_neg h1, if_pos (.inr (.inr rfl))]; rfl
        · rw [if_neg h4, if_neg h3, if_neg h2, if_neg h1, if_neg h1, if_neg (by simp [h2, h3, h4])]; rfl

theorem pl.dflt_cases (x : List UInt8) : pl.dflt x = none ∨ pl.dflt x = some pl.tRet ∨ pl.dflt x = some pl.tCont := by
  unfold pl.dflt
  split
  · exact .inr (.inl rfl)
  · split
    · exact .inr (.inr rfl)
    · exact .inl rfl

set_option maxRecDepth 100000 in
set_option maxHeartbeats 4000000 in
theorem std1_sp (c : Crit) (w : World) (hf : FitC c) :
    Calls Try.prog 23 #[.agg #[.bool c.1, pl.strV c.2.1, pl.strV c.2.2]] w fun e w' => e = .returned (.bool (pl.stdB c)) ∧ Hid (Below w.heap.size w w') := by
  have hmm := @run_makeMap Try.prog
  obtain ⟨ng, st, ac⟩ := c
  obtain ⟨hf1, hf2⟩ := hf
  have hf1' : st.length ≤ 2147483647 := hf1
  have hf2' : ac.length ≤ 2147483647 := hf2
  obtain ⟨SB, hSB⟩ : ∃ SB : ByteArray, (⟨st.toArray⟩ : ByteArray) = SB := ⟨_, rfl⟩
  obtain ⟨AB, hAB⟩ : ∃ AB : ByteArray, (⟨ac.toArray⟩ : ByteArray) = AB := ⟨_, rfl⟩
  have hl1 := fun W => low_is st hf1' W
  have hl2 := fun W => low_is ac hf2' W
  obtain ⟨LS, hLS⟩ : ∃ LS : ByteArray, (⟨(pl.low st).toArray⟩ : ByteArray) = LS := ⟨_, rfl⟩
  obtain ⟨LA, hLA⟩ : ∃ LA : ByteArray, (⟨(pl.low ac).toArray⟩ : ByteArray) = LA := ⟨_, rfl⟩
  have hLd : LS.data.toList = pl.low st := by rw [← hLS]
  have hLs : LS.size ≤ maxLen := by rw [← hLS]; show (pl.low st).length ≤ _; rw [pl.low_len]; unfold maxLen; omega
  have hbd : ∀ d, (LA.toList == d) = decide (pl.low ac = d) := fun d => by rw [← hLA]; exact beq_tx (pl.low ac) d
  rw [hSB, hLS] at hl1
  rw [hAB, hLA] at hl2
  unfold pl.strV
  dsimp only
  rw [hSB, hAB]
  obtain ⟨W2, hW2⟩ : ∃ W2, (w.alloc (.cells #[.bool ng, .string SB, .string AB] 54)).alloc (.map #[] 0) = W2 := ⟨_, rfl⟩
  have hB2 : Blk W2 w.heap.size #[.bool ng, .string SB, .string AB] 54 := by rw [← hW2]; exact (Blk.new w _ _).alloc _
  have hM2 : MapF Try.prog 9 W2 (w.heap.size + 1) 0 (fun _ => none) := by
    rw [← hW2]
    have h := MapF.made Try.prog 9 (w.alloc (.cells #[.bool ng, .string SB, .string AB] 54))
    rw [show (w.alloc (.cells #[.bool ng, .string SB, .string AB] 54)).heap.size = w.heap.size + 1 by simp] at h
    exact h
  have hb2 : Below w.heap.size w W2 := by rw [← hW2]; exact ((Below.refl _ _).alloc (Nat.le_refl _) _).alloc (by simp) _
  have HL1 := Lib.hid hl1
  have HL2 := Lib.hid hl2
  have HLD := Lib.hid hLd
  have HLS := Lib.hid hLs
  have HBD := Lib.hid hbd
  have HB2 := Lib.hid hB2
  have HM2 := Lib.hid hM2
  have HBL := Lib.hid hb2
  have HW2 := Lib.hid hW2
  clear hl1 hl2 hLd hLs hB2 hM2 hb2 hSB hAB hLS hLA hf1 hf2 hf1' hf2'
  have hr1 := hbd [114, 101, 116, 117, 114, 110]
  have hr2 := hbd [99, 111, 110, 116, 105, 110, 117, 101]
  clear hbd
  obtain ⟨r1, hr1'⟩ : ∃ r : Bool, decide (pl.low ac = [114, 101, 116, 117, 114, 110]) = r := ⟨_, rfl⟩
  obtain ⟨r2, hr2'⟩ : ∃ r : Bool, decide (pl.low ac = [99, 111, 110, 116, 105, 110, 117, 101]) = r := ⟨_, rfl⟩
  rw [hr1'] at hr1
  rw [hr2'] at hr2
  have hno : ∀ c : Crit, c = (true, st, ac) → pl.stdB c = false := fun c e => by rw [e]; rfl
  rcases pl.dflt_cases (pl.low st) with hd | hd | hd
  · have hvv : ((pl.dflt (pl.low st)).map pl.strV).getD (.string ⟨#[]⟩) = .string ⟨#[]⟩ := by rw [hd]; rfl
    have hrr : pl.stdB (ng, st, ac) = false := by
      unfold pl.stdB
      rw [show pl.dflt (pl.low (ng, st, ac).2.1) = none from hd]
      simp
    have HVV := Lib.hid hvv
    have HR := Lib.hid hrr
    clear hd hvv hrr hno hr1 hr2 hr1' hr2'
    rcases ng with _ | _
    all_goals
      go_enter Try.func23, Try.ntmps23
      go_wp2_with (first
        | (go_at_call 11; have hx0 := HM7; (with_reducible refine (HL2.out _).mono ?_); rintro e w8 ⟨rfl, hb8⟩; have HBL8 := Lib.hid (HBL7.out.trans (hb8.out.mono HBL7.out.size)); clear hb8)
        | (at_lookup; refine wpList_look_v _ rfl _ _ 86 rfl 9 9 Try.underlying9 Try.underlying86 (w.heap.size + 1) 4 _ (.string ⟨#[]⟩) (zero_s _) rfl HM7.out LS HLS.out rfl (pl.low st) HLD.out (.string ⟨#[]⟩) HVV.out ?_)
        | (go_at_call 11; have hx0 := HM6; (with_reducible refine (HL1.out _).mono ?_); rintro e w7 ⟨rfl, hb7⟩; have HM7 := Lib.hid ((HM6.out.below hb7.out HM6.out.lt).congr pl.dflt_fold); have hk7 := HB6.out.below hb7.out HB6.out.lt; have c70 := hk7.cell 0; have c72 := hk7.cell 2; simp at c70 c72; have HBL7 := Lib.hid (HBL6.out.trans (hb7.out.mono HBL6.out.size)); clear hb7 hk7 c61)
        | (refine wpList_ins _ rfl _ _ _ 86 rfl 9 9 Try.underlying9 Try.underlying86 (w.heap.size + 1) 3 _ rfl HM5.out (by decide) ⟨#[116, 114, 121, 97, 103, 97, 105, 110]⟩ (by decide) (pl.strV pl.tCont) rfl rfl ?_; intro w6 hm6 hg6; have HB6 := Lib.hid (HB5.out.map_put HM5.out hg6); have c61 : w6.cell? ⟨w.heap.size, 1, none⟩ = some (.string SB) := HB6.out.cell 1; have HM6 := Lib.hid hm6; have HBL6 := Lib.hid (HBL5.out.grown hg6 HBL5.out.size (fun k hk => by injection hk with hk; omega)); clear hm6 hg6)
        | (refine wpList_ins _ rfl _ _ _ 86 rfl 9 9 Try.underlying9 Try.underlying86 (w.heap.size + 1) 2 _ rfl HM4.out (by decide) ⟨#[117, 110, 97, 118, 97, 105, 108]⟩ (by decide) (pl.strV pl.tCont) rfl rfl ?_; intro w5 hm5 hg5; have HB5 := Lib.hid (HB4.out.map_put HM4.out hg5); have HM5 := Lib.hid hm5; have HBL5 := Lib.hid (HBL4.out.grown hg5 HBL4.out.size (fun k hk => by injection hk with hk; omega)); clear hm5 hg5)
        | (refine wpList_ins _ rfl _ _ _ 86 rfl 9 9 Try.underlying9 Try.underlying86 (w.heap.size + 1) 1 _ rfl HM3.out (by decide) ⟨#[110, 111, 116, 102, 111, 117, 110, 100]⟩ (by decide) (pl.strV pl.tCont) rfl rfl ?_; intro w4 hm4 hg4; have HB4 := Lib.hid (HB3.out.map_put HM3.out hg4); have HM4 := Lib.hid hm4; have HBL4 := Lib.hid (HBL3.out.grown hg4 HBL3.out.size (fun k hk => by injection hk with hk; omega)); clear hm4 hg4)
        | ((try rw [hW2]); refine wpList_ins _ rfl _ _ _ 86 rfl 9 9 Try.underlying9 Try.underlying86 (w.heap.size + 1) 0 _ rfl HM2.out (by decide) ⟨#[115, 117, 99, 99, 101, 115, 115]⟩ (by decide) (pl.strV pl.tRet) rfl rfl ?_; intro w3 hm3 hg3; have HB3 := Lib.hid (HB2.out.map_put HM2.out hg3); have HM3 := Lib.hid hm3; have HBL3 := Lib.hid (HBL.out.grown hg3 HBL.out.size (fun k hk => by injection hk with hk; omega)); clear hm3 hg3))
      go_ret
      exact ⟨by rw [HR.out]; rfl, by first | exact HBL8 | exact HBL7⟩
  · have hvv : ((pl.dflt (pl.low st)).map pl.strV).getD (.string ⟨#[]⟩) = .string ⟨#[114, 101, 116, 117, 114, 110]⟩ := by rw [hd]; rfl
    have hrr : pl.stdB (ng, st, ac) = (!ng && r1) := by
      unfold pl.stdB
      rw [show pl.dflt (pl.low (ng, st, ac).2.1) = some pl.tRet from hd]
      show (if ng = true then false else decide (pl.low ac = pl.tRet)) = _
      rw [show decide (pl.low ac = pl.tRet) = r1 from hr1']
      cases ng <;> rfl
    have HVV := Lib.hid hvv
    have HR := Lib.hid hrr
    clear hd hvv hrr hno hr1' hr2'
    rcases ng with _ | _
    all_goals
      rcases r1 with _ | _
    all_goals
      go_enter Try.func23, Try.ntmps23
      go_wp2_with (first
        | (go_at_call 11; have hx0 := HM7; (with_reducible refine (HL2.out _).mono ?_); rintro e w8 ⟨rfl, hb8⟩; have HBL8 := Lib.hid (HBL7.out.trans (hb8.out.mono HBL7.out.size)); clear hb8)
        | (at_lookup; refine wpList_look_v _ rfl _ _ 86 rfl 9 9 Try.underlying9 Try.underlying86 (w.heap.size + 1) 4 _ (.string ⟨#[]⟩) (zero_s _) rfl HM7.out LS HLS.out rfl (pl.low st) HLD.out (.string ⟨#[114, 101, 116, 117, 114, 110]⟩) HVV.out ?_)
        | (go_at_call 11; have hx0 := HM6; (with_reducible refine (HL1.out _).mono ?_); rintro e w7 ⟨rfl, hb7⟩; have HM7 := Lib.hid ((HM6.out.below hb7.out HM6.out.lt).congr pl.dflt_fold); have hk7 := HB6.out.below hb7.out HB6.out.lt; have c70 := hk7.cell 0; have c72 := hk7.cell 2; simp at c70 c72; have HBL7 := Lib.hid (HBL6.out.trans (hb7.out.mono HBL6.out.size)); clear hb7 hk7 c61)
        | (refine wpList_ins _ rfl _ _ _ 86 rfl 9 9 Try.underlying9 Try.underlying86 (w.heap.size + 1) 3 _ rfl HM5.out (by decide) ⟨#[116, 114, 121, 97, 103, 97, 105, 110]⟩ (by decide) (pl.strV pl.tCont) rfl rfl ?_; intro w6 hm6 hg6; have HB6 := Lib.hid (HB5.out.map_put HM5.out hg6); have c61 : w6.cell? ⟨w.heap.size, 1, none⟩ = some (.string SB) := HB6.out.cell 1; have HM6 := Lib.hid hm6; have HBL6 := Lib.hid (HBL5.out.grown hg6 HBL5.out.size (fun k hk => by injection hk with hk; omega)); clear hm6 hg6)
        | (refine wpList_ins _ rfl _ _ _ 86 rfl 9 9 Try.underlying9 Try.underlying86 (w.heap.size + 1) 2 _ rfl HM4.out (by decide) ⟨#[117, 110, 97, 118, 97, 105, 108]⟩ (by decide) (pl.strV pl.tCont) rfl rfl ?_; intro w5 hm5 hg5; have HB5 := Lib.hid (HB4.out.map_put HM4.out hg5); have HM5 := Lib.hid hm5; have HBL5 := Lib.hid (HBL4.out.grown hg5 HBL4.out.size (fun k hk => by injection hk with hk; omega)); clear hm5 hg5)
        | (refine wpList_ins _ rfl _ _ _ 86 rfl 9 9 Try.underlying9 Try.underlying86 (w.heap.size + 1) 1 _ rfl HM3.out (by decide) ⟨#[110, 111, 116, 102, 111, 117, 110, 100]⟩ (by decide) (pl.strV pl.tCont) rfl rfl ?_; intro w4 hm4 hg4; have HB4 := Lib.hid (HB3.out.map_put HM3.out hg4); have HM4 := Lib.hid hm4; have HBL4 := Lib.hid (HBL3.out.grown hg4 HBL3.out.size (fun k hk => by injection hk with hk; omega)); clear hm4 hg4)
        | ((try rw [hW2]); refine wpList_ins _ rfl _ _ _ 86 rfl 9 9 Try.underlying9 Try.underlying86 (w.heap.size + 1) 0 _ rfl HM2.out (by decide) ⟨#[115, 117, 99, 99, 101, 115, 115]⟩ (by decide) (pl.strV pl.tRet) rfl rfl ?_; intro w3 hm3 hg3; have HB3 := Lib.hid (HB2.out.map_put HM2.out hg3); have HM3 := Lib.hid hm3; have HBL3 := Lib.hid (HBL.out.grown hg3 HBL.out.size (fun k hk => by injection hk with hk; omega)); clear hm3 hg3))
      go_ret
      exact ⟨by rw [HR.out]; rfl, by first | exact HBL8 | exact HBL7⟩
  · have hvv : ((pl.dflt (pl.low st)).map pl.strV).getD (.string ⟨#[]⟩) = .string ⟨#[99, 111, 110, 116, 105, 110, 117, 101]⟩ := by rw [hd]; rfl
    have hrr : pl.stdB (ng, st, ac) = (!ng && r2) := by
      unfold pl.stdB
      rw [show pl.dflt (pl.low (ng, st, ac).2.1) = some pl.tCont from hd]
      show (if ng = true then false else decide (pl.low ac = pl.tCont)) = _
      rw [show decide (pl.low ac = pl.tCont) = r2 from hr2']
      cases ng <;> rfl
    have HVV := Lib.hid hvv
    have HR := Lib.hid hrr
    clear hd hvv hrr hno hr1' hr2'
    rcases ng with _ | _
    all_goals
      rcases r2 with _ | _
    all_goals
      go_enter Try.func23, Try.ntmps23
      go_wp2_with (first
        | (go_at_call 11; have hx0 := HM7; (with_reducible refine (HL2.out _).mono ?_); rintro e w8 ⟨rfl, hb8⟩; have HBL8 := Lib.hid (HBL7.out.trans (hb8.out.mono HBL7.out.size)); clear hb8)
        | (at_lookup; refine wpList_look_v _ rfl _ _ 86 rfl 9 9 Try.underlying9 Try.underlying86 (w.heap.size + 1) 4 _ (.string ⟨#[]⟩) (zero_s _) rfl HM7.out LS HLS.out rfl (pl.low st) HLD.out (.string ⟨#[99, 111, 110, 116, 105, 110, 117, 101]⟩) HVV.out ?_)
        | (go_at_call 11; have hx0 := HM6; (with_reducible refine (HL1.out _).mono ?_); rintro e w7 ⟨rfl, hb7⟩; have HM7 := Lib.hid ((HM6.out.below hb7.out HM6.out.lt).congr pl.dflt_fold); have hk7 := HB6.out.below hb7.out HB6.out.lt; have c70 := hk7.cell 0; have c72 := hk7.cell 2; simp at c70 c72; have HBL7 := Lib.hid (HBL6.out.trans (hb7.out.mono HBL6.out.size)); clear hb7 hk7 c61)
        | (refine wpList_ins _ rfl _ _ _ 86 rfl 9 9 Try.underlying9 Try.underlying86 (w.heap.size + 1) 3 _ rfl HM5.out (by decide) ⟨#[116, 114, 121, 97, 103, 97, 105, 110]⟩ (by decide) (pl.strV pl.tCont) rfl rfl ?_; intro w6 hm6 hg6; have HB6 := Lib.hid (HB5.out.map_put HM5.out hg6); have c61 : w6.cell? ⟨w.heap.size, 1, none⟩ = some (.string SB) := HB6.out.cell 1; have HM6 := Lib.hid hm6; have HBL6 := Lib.hid (HBL5.out.grown hg6 HBL5.out.size (fun k hk => by injection hk with hk; omega)); clear hm6 hg6)
        | (refine wpList_ins _ rfl _ _ _ 86 rfl 9 9 Try.underlying9 Try.underlying86 (w.heap.size + 1) 2 _ rfl HM4.out (by decide) ⟨#[117, 110, 97, 118, 97, 105, 108]⟩ (by decide) (pl.strV pl.tCont) rfl rfl ?_; intro w5 hm5 hg5; have HB5 := Lib.hid (HB4.out.map_put HM4.out hg5); have HM5 := Lib.hid hm5; have HBL5 := Lib.hid (HBL4.out.grown hg5 HBL4.out.size (fun k hk => by injection hk with hk; omega)); clear hm5 hg5)
        | (refine wpList_ins _ rfl _ _ _ 86 rfl 9 9 Try.underlying9 Try.underlying86 (w.heap.size + 1) 1 _ rfl HM3.out (by decide) ⟨#[110, 111, 116, 102, 111, 117, 110, 100]⟩ (by decide) (pl.strV pl.tCont) rfl rfl ?_; intro w4 hm4 hg4; have HB4 := Lib.hid (HB3.out.map_put HM3.out hg4); have HM4 := Lib.hid hm4; have HBL4 := Lib.hid (HBL3.out.grown hg4 HBL3.out.size (fun k hk => by injection hk with hk; omega)); clear hm4 hg4)
        | ((try rw [hW2]); refine wpList_ins _ rfl _ _ _ 86 rfl 9 9 Try.underlying9 Try.underlying86 (w.heap.size + 1) 0 _ rfl HM2.out (by decide) ⟨#[115, 117, 99, 99, 101, 115, 115]⟩ (by decide) (pl.strV pl.tRet) rfl rfl ?_; intro w3 hm3 hg3; have HB3 := Lib.hid (HB2.out.map_put HM2.out hg3); have HM3 := Lib.hid hm3; have HBL3 := Lib.hid (HBL.out.grown hg3 HBL.out.size (fun k hk => by injection hk with hk; omega)); clear hm3 hg3))
      go_ret
      exact ⟨by rw [HR.out]; rfl, by first | exact HBL8 | exact HBL7⟩

end Go.Proofs.Ytabeklpllphiaaa
