/-
  PLAIN: where the reference says that a name is a domain name or none, the package answers so.
-/
import Derived.Test.YtlgohaoplbiedaaPlIsN
namespace Go.Proofs.Ytlgohaoplbiedaa.pl

def okC (b : UInt8) : Prop := (97 ≤ b.toNat ∧ b.toNat ≤ 122) ∨ (65 ≤ b.toNat ∧ b.toNat ≤ 90) ∨ (48 ≤ b.toNat ∧ b.toNat ≤ 57) ∨ b.toNat = 45 ∨ b.toNat = 95
def seC (b : UInt8) : Prop := (97 ≤ b.toNat ∧ b.toNat ≤ 122) ∨ (65 ≤ b.toNat ∧ b.toNat ≤ 90) ∨ b.toNat = 45 ∨ b.toNat = 95

theorem low_nat (b : UInt8) : (lowB b).toNat = if 65 ≤ b.toNat ∧ b.toNat ≤ 90 then b.toNat + 32 else b.toNat := by
  have hb := UInt8.toNat_lt b
  unfold lowB
  split
  · rw [UInt8.toNat_add]
    have : (32 : UInt8).toNat = 32 := rfl
    omega
  · rfl

theorem nb_low (b : UInt8) : nbB (lowB b) = true ↔ okC b := by
  have h := low_nat b
  unfold nbB okC
  simp only [Bool.or_eq_true, Bool.and_eq_true, decide_eq_true_eq, beq_iff_eq]
  split at h <;> omega

theorem sd_low (b : UInt8) : sdB (lowB b) = true ↔ seC b := by
  have h := low_nat b
  unfold sdB seC
  simp only [Bool.or_eq_true, Bool.and_eq_true, decide_eq_true_eq, beq_iff_eq]
  split at h <;> omega

def anySd (l : List UInt8) : Bool := (l.map lowB).any sdB
def allNb (l : List UInt8) : Bool := (l.map lowB).all nbB
def curOk (l : List UInt8) : Bool := allNb l && (l.head? != some 45)
def lastV (l : List UInt8) : Int := match l.getLast? with | some b => (b.toNat : Int) | none => 46

theorem anySd_snoc (l : List UInt8) (b : UInt8) : anySd (l ++ [b]) = (anySd l || sdB (lowB b)) := by simp [anySd]
theorem allNb_snoc (l : List UInt8) (b : UInt8) : allNb (l ++ [b]) = (allNb l && nbB (lowB b)) := by simp [allNb]
theorem lastV_snoc (l : List UInt8) (b : UInt8) : lastV (l ++ [b]) = b.toNat := by simp [lastV]

/-- what stands since the last cut is empty: the text is empty or ends with the cut; else they end alike -/
theorem cur_last (m : List UInt8) : ((runS 46 m).2 = [] → lastV m = 46) ∧ ((runS 46 m).2 ≠ [] → m.getLast? = (runS 46 m).2.getLast?) := by
  refine snoc_ind (P := fun m => ((runS 46 m).2 = [] → lastV m = 46) ∧ ((runS 46 m).2 ≠ [] → m.getLast? = (runS 46 m).2.getLast?)) (by simp [runS, lastV]) ?_ m
  intro l b _
  rw [runS_snoc, stepS]
  split
  · rename_i h
    refine ⟨fun _ => ?_, fun h2 => absurd rfl h2⟩
    rw [lastV_snoc]
    simpa [isB] using h
  · refine ⟨fun h2 => ?_, fun _ => by simp⟩
    simp at h2

theorem nb46 (b : UInt8) (h : b.toNat = 46) : ¬ okC b := by unfold okC; omega

/-- the last byte of a part of good bytes is none of the cut's -/
theorem cur_ne (m : List UInt8) (hc : (runS 46 m).2 ≠ []) (hn : allNb (runS 46 m).2 = true) : ∃ b, (runS 46 m).2.getLast? = some b ∧ lastV m = b.toNat ∧ okC b := by
  obtain ⟨b, hb⟩ : ∃ b, (runS 46 m).2.getLast? = some b := by
    cases h : (runS 46 m).2.getLast? with
    | none => exact absurd (List.getLast?_eq_none_iff.1 h) hc
    | some b => exact ⟨b, rfl⟩
  refine ⟨b, hb, ?_, ?_⟩
  · rw [lastV, (cur_last m).2 hc, hb]
  · have hm := List.mem_of_getLast? hb
    rw [allNb, List.all_eq_true] at hn
    exact (nb_low b).1 (hn _ (List.mem_map_of_mem hm))

theorem okLab_cur (c : List UInt8) : okLab c = (curOk c && decide (1 ≤ c.length) && decide (c.length ≤ 63) && (c.getLast? != some 45)) := by
  unfold okLab headB curOk allNb
  rw [Bool.eq_iff_iff]
  simp only [Bool.and_eq_true]
  constructor <;> (rintro ⟨⟩; simp_all)

theorem runD_eq (m : List UInt8) : runD m = if (runS 46 m).1.all okLab = true ∧ curOk (runS 46 m).2 = true then some (lastV m, anySd m, (runS 46 m).2.length) else none := by
  refine snoc_ind (P := fun m => runD m = if (runS 46 m).1.all okLab = true ∧ curOk (runS 46 m).2 = true then some (lastV m, anySd m, (runS 46 m).2.length) else none) ?_ ?_ m
  · simp [runS, runD, lastV, anySd, curOk, allNb]
  · intro l b ih
    have hcl := cur_last l
    have hcn := cur_ne l
    rw [runD_snoc, ih, runS_snoc, lastV_snoc, anySd_snoc, stepS]
    generalize (runS 46 l).1 = outs at *
    generalize (runS 46 l).2 = cur at *
    by_cases hb : isB 46 b = true
    · have hb' : b.toNat = 46 := by have := beq_iff_eq.1 hb; omega
      have hsd : sdB (lowB b) = false := by
        rw [Bool.eq_false_iff]; intro h
        have := (sd_low b).1 h
        unfold seC at this; omega
      rw [if_pos hb, hsd, Bool.or_false]
      by_cases h1 : outs.all okLab = true ∧ curOk cur = true
      · rw [if_pos h1]
        simp only [Option.bind_some, List.all_append, List.all_cons, List.all_nil, Bool.and_true, Bool.and_eq_true, h1.1, true_and]
        rw [okLab_cur, h1.2]
        unfold stepD
        simp only []
        rw [if_neg (by omega), if_neg (by omega), if_neg (by omega), if_pos hb']
        by_cases hc : cur = []
        · rw [hcl.1 hc]
          simp [hc]
        · have hn : allNb cur = true := by
            have := h1.2
            unfold curOk at this
            simp only [Bool.and_eq_true] at this
            exact this.1
          obtain ⟨x, hx1, hx2, hx3⟩ := hcn hc hn
          have hlen := List.length_pos_iff.2 hc
          rw [hx2, hx1]
          unfold okC at hx3
          by_cases h45 : x.toNat = 45
          · have : x = 45 := UInt8.toNat_inj.1 (by rw [h45]; rfl)
            rw [if_pos (by omega), this]
            simp
          · rw [if_neg (by omega)]
            have h45' : (some x != some (45 : UInt8)) = true := by
              rw [some_ne, bne_iff_ne]; omega
            rw [h45']
            by_cases h63 : 63 < cur.length
            · rw [if_pos (by omega)]
              simp; omega
            · rw [if_neg (by omega)]
              have : cur.length ≤ 63 := by omega
              simp [curOk, allNb, this, hc]
      · rw [if_neg h1, Option.bind_none, if_neg]
        rintro ⟨h2, h3⟩
        rw [List.all_append, Bool.and_eq_true] at h2
        apply h1
        refine ⟨h2.1, ?_⟩
        have := h2.2
        simp only [List.all_cons, List.all_nil, Bool.and_true] at this
        rw [okLab_cur] at this
        simp only [Bool.and_eq_true] at this
        exact this.1.1.1
    · have hb' : b.toNat ≠ 46 := by
        intro e; apply hb; unfold isB; rw [beq_iff_eq]; omega
      rw [if_neg hb]
      by_cases h1 : outs.all okLab = true ∧ curOk cur = true
      · rw [if_pos h1]
        have hn : allNb cur = true := by
          have := h1.2
          unfold curOk at this
          simp only [Bool.and_eq_true] at this
          exact this.1
        have hh : cur ≠ [] → (cur.head? != some 45) = true := by
          have := h1.2
          unfold curOk at this
          simp only [Bool.and_eq_true] at this
          exact fun _ => this.2
        simp only [Option.bind_some, h1.1, true_and, List.length_append, List.length_singleton]
        have hco : curOk (cur ++ [b]) = (nbB (lowB b) && (decide (cur ≠ []) || (some b != some 45))) := by
          unfold curOk
          rw [allNb_snoc, hn, Bool.true_and]
          cases cur with
          | nil => simp
          | cons x xs =>
            have := hh (by simp)
            simp only [List.head?_cons] at this
            simp only [List.cons_append, List.head?_cons]
            rw [this]; simp
        rw [hco]
        have hl46 : lastV l = 46 ↔ cur = [] := by
          constructor
          · intro h
            by_cases hc : cur = []
            · exact hc
            · obtain ⟨x, _, hx2, hx3⟩ := hcn hc hn
              exact absurd hx3 (nb46 x (by omega))
          · exact hcl.1
        unfold stepD
        simp only []
        by_cases k1 : (97 ≤ b.toNat ∧ b.toNat ≤ 122) ∨ (65 ≤ b.toNat ∧ b.toNat ≤ 90) ∨ b.toNat = 95
        · have e1 : nbB (lowB b) = true := (nb_low b).2 (by unfold okC; omega)
          have e2 : sdB (lowB b) = true := (sd_low b).2 (by unfold seC; omega)
          have e3 : (some b != some (45 : UInt8)) = true := by rw [some_ne, bne_iff_ne]; omega
          rw [if_pos k1, e1, e2, e3]
          simp
        · rw [if_neg k1]
          by_cases k2 : 48 ≤ b.toNat ∧ b.toNat ≤ 57
          · have e1 : nbB (lowB b) = true := (nb_low b).2 (by unfold okC; omega)
            have e2 : sdB (lowB b) = false := by rw [Bool.eq_false_iff]; intro h; have := (sd_low b).1 h; unfold seC at this; omega
            have e3 : (some b != some (45 : UInt8)) = true := by rw [some_ne, bne_iff_ne]; omega
            rw [if_pos k2, e1, e2, e3]
            simp
          · rw [if_neg k2]
            by_cases k3 : b.toNat = 45
            · have e1 : nbB (lowB b) = true := (nb_low b).2 (by unfold okC; omega)
              have e2 : sdB (lowB b) = true := (sd_low b).2 (by unfold seC; omega)
              have e3 : (some b != some (45 : UInt8)) = false := by
                rw [some_ne, bne_eq_false_iff_eq]; omega
              rw [if_pos k3, e1, e2, e3]
              by_cases hc : cur = []
              · rw [if_pos (hl46.2 hc)]; simp [hc]
              · rw [if_neg (fun h => hc (hl46.1 h))]; simp [hc]
            · have e1 : nbB (lowB b) = false := by rw [Bool.eq_false_iff]; intro h; have := (nb_low b).1 h; unfold okC at this; omega
              rw [if_neg k3, if_neg hb', e1]
              simp
      · rw [if_neg h1, Option.bind_none, if_neg]
        rintro ⟨h2, h3⟩
        apply h1
        refine ⟨h2, ?_⟩
        unfold curOk at h3 ⊢
        rw [allNb_snoc] at h3
        simp only [Bool.and_eq_true] at h3 ⊢
        refine ⟨h3.1.1, ?_⟩
        cases cur with
        | nil => rfl
        | cons x xs => simpa using h3.2

theorem anySd_runS (l : List UInt8) : anySd l = ((runS 46 l).1.any anySd || anySd (runS 46 l).2) := by
  refine snoc_ind (P := fun l => anySd l = ((runS 46 l).1.any anySd || anySd (runS 46 l).2)) (by simp [runS, anySd]) ?_ l
  intro l b ih
  rw [runS_snoc, stepS, anySd_snoc, ih]
  by_cases hb : isB 46 b = true
  · have hb' : b.toNat = 46 := by have := beq_iff_eq.1 hb; omega
    have e2 : sdB (lowB b) = false := by rw [Bool.eq_false_iff]; intro h; have := (sd_low b).1 h; unfold seC at this; omega
    rw [if_pos hb, e2]
    simp [anySd]
  · rw [if_neg hb]
    simp only [anySd_snoc, Bool.or_assoc]

theorem anySd_split (l : List UInt8) : (split 46 l).any (fun p => (p.map lowB).any sdB) = anySd l := by
  rw [anySd_runS, split]
  show (_ ++ [_]).any anySd = _
  simp

theorem domB_eq (l : List UInt8) (h : l ≠ [46]) : domB l = (isN l && anySd l) := by
  unfold domB isN cutDot
  rw [if_neg h, if_neg h, runD_eq]
  by_cases hl : l.getLast? = some 46
  · obtain ⟨l', rfl⟩ : ∃ l', l = l' ++ [46] := by
      refine ⟨l.dropLast, ?_⟩
      have hne : l ≠ [] := by rintro rfl; simp at hl
      have := List.dropLast_concat_getLast hne
      rw [List.getLast?_eq_some_getLast hne] at hl
      injection hl with hl
      rw [hl] at this
      exact this.symm
    have hne : l'.length ≠ 0 := by
      intro e
      rw [List.eq_nil_of_length_eq_zero e] at h
      exact h rfl
    have hs : runS 46 (l' ++ [46]) = (split 46 l', []) := by
      rw [runS_snoc, stepS, if_pos (by rfl)]; rfl
    have hsd : anySd (l' ++ [46]) = anySd l' := by rw [anySd_snoc]; simp [show sdB (lowB 46) = false from rfl]
    rw [if_pos hl, hs, hsd, lastV_snoc]
    have hd : (l' ++ [(46 : UInt8)]).dropLast = l' := by simp
    rw [hd]
    simp only [List.length_append, List.length_singleton]
    unfold lenB
    by_cases h1 : l'.length ≤ 253
    · rw [if_neg (by rintro (h2 | h2 | ⟨_, h3⟩) <;> first | omega | exact h3 hl)]
      rw [decide_eq_true (by omega : 1 ≤ l'.length), decide_eq_true h1]
      by_cases h2 : (split 46 l').all okLab = true
      · rw [if_pos ⟨h2, rfl⟩, h2]
        rfl
      · rw [if_neg (fun h3 => h2 h3.1)]
        simp only [Bool.not_eq_true] at h2
        rw [h2]; rfl
    · rw [if_pos (by right; left; omega), decide_eq_false h1]
      simp
  · rw [if_neg hl]
    by_cases h0 : l = []
    · subst h0; rfl
    · have hlen := List.length_pos_iff.2 h0
      unfold lenB
      by_cases h1 : l.length ≤ 253
      · rw [if_neg (by rintro (h2 | h2 | ⟨h2, _⟩) <;> omega)]
        rw [decide_eq_true (by omega : 1 ≤ l.length), decide_eq_true h1]
        have hcl := cur_last l
        have hcn := cur_ne l
        have hsp : (split 46 l).all okLab = ((runS 46 l).1.all okLab && okLab (runS 46 l).2) := by rw [split]; simp
        rw [hsp, okLab_cur]
        generalize (runS 46 l).1 = outs at *
        generalize (runS 46 l).2 = cur at *
        have hc : cur ≠ [] := by
          intro e
          have h2 := hcl.1 e
          apply hl
          unfold lastV at h2
          cases h3 : l.getLast? with
          | none => exact absurd (List.getLast?_eq_none_iff.1 h3) h0
          | some b =>
            rw [h3] at h2
            congr 1
            apply UInt8.toNat_inj.1
            have : (46 : UInt8).toNat = 46 := rfl
            simp only at h2
            omega
        have hcl2 := List.length_pos_iff.2 hc
        by_cases h2 : outs.all okLab = true ∧ curOk cur = true
        · rw [if_pos h2, h2.1, h2.2]
          have hn : allNb cur = true := by
            have := h2.2
            unfold curOk at this
            simp only [Bool.and_eq_true] at this
            exact this.1
          obtain ⟨x, hx1, hx2, hx3⟩ := hcn hc hn
          simp only []
          rw [hx2, hx1, some_ne, decide_eq_true (by omega : 1 ≤ cur.length)]
          by_cases k1 : x.toNat = 45
          · rw [if_pos (by omega), (bne_eq_false_iff_eq).2 (by omega)]
            simp
          · have e : ((x.toNat : Int) != 45) = true := by rw [bne_iff_ne]; omega
            rw [e]
            by_cases k2 : 63 < cur.length
            · rw [if_pos (by omega), decide_eq_false (by omega)]
              simp
            · rw [if_neg (by omega), decide_eq_true (by omega : cur.length ≤ 63)]
              rfl
        · rw [if_neg h2]
          simp only [not_and, Bool.not_eq_true] at h2
          cases h3 : outs.all okLab with
          | false => simp
          | true => rw [h2 h3]; simp
      · by_cases h2 : l.length = 254
        · rw [if_pos (Or.inr (Or.inr ⟨h2, hl⟩)), decide_eq_false h1]
          simp
        · rw [if_pos (by right; left; omega), decide_eq_false h1]
          simp

/-- the law -/
theorem dom_law (l : List UInt8) (h : saN l = true) : domB l = isN l := by
  by_cases h0 : l = [46]
  · subst h0; rfl
  · rw [domB_eq l h0]
    unfold saN at h
    rw [if_neg h0, anySd_split] at h
    cases hN : isN l with
    | false => rfl
    | true =>
      rw [hN, Bool.not_true, Bool.or_false] at h
      have h2 : anySd l = true := by
        unfold cutDot at h
        split at h
        · unfold anySd at h ⊢
          rw [List.any_eq_true] at h ⊢
          obtain ⟨x, hx, hs⟩ := h
          refine ⟨x, ?_, hs⟩
          rw [List.mem_map] at hx ⊢
          obtain ⟨y, hy, e⟩ := hx
          exact ⟨y, List.dropLast_subset l hy, e⟩
        · exact h
      rw [h2]; rfl

end Go.Proofs.Ytlgohaoplbiedaa.pl
