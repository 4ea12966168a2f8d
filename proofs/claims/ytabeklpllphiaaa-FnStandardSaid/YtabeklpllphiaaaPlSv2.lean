/-
  PLAIN: the lines of a services file.
-/
import Derived.Test.YtabeklpllphiaaaPlSv
import Derived.Test.YtabeklpllphiaaaLn
namespace Go.Proofs.Ytabeklpllphiaaa
open Go.RowKit

theorem pl.hx_dg (r : Nat) (h : r < 10) : pl.dg (pl.hx r) = true ∧ (pl.hx r).toNat - 48 = r := by
  have : ∀ r : Fin 10, pl.dg (pl.hx r.val) = true ∧ (pl.hx r.val).toNat - 48 = r.val := by decide
  exact this ⟨r, h⟩
theorem pl.num_val (n : Nat) : n < 2 ^ 63 → (pl.num 10 n).all pl.dg = true ∧ pl.decV 0 (pl.num 10 n) = n ∧ pl.num 10 n ≠ [] := by
  induction n using Nat.strongRecOn with
  | _ n ih =>
    intro hn
    obtain ⟨h1, h2⟩ := pl.hx_dg (n % 10) (by omega)
    rw [pl.num_step 10 n (by decide) hn]
    by_cases h0 : n / 10 = 0
    · rw [if_pos h0]
      refine ⟨by simp [h1], ?_, by simp⟩
      show 0 * 10 + ((pl.hx (n % 10)).toNat - 48) = n
      omega
    · rw [if_neg h0]
      obtain ⟨i1, i2, i3⟩ := ih (n / 10) (by omega) (by omega)
      refine ⟨by rw [List.all_append, i1]; simp [h1], ?_, by simp⟩
      rw [pl.decV_snoc, i2, h2]
      omega
theorem pl.numF_len (b : Nat) : ∀ (f n : Nat), (pl.numF f b n).length ≤ f
  | 0, _ => Nat.le_refl _
  | f + 1, n => by
    show ((if n / b = 0 then [] else pl.numF f b (n / b)) ++ [pl.hx (n % b)]).length ≤ _
    rw [List.length_append]
    have := pl.numF_len b f (n / b)
    split <;> simp <;> omega
theorem pl.num_len (b n : Nat) : (pl.num b n).length ≤ 64 := pl.numF_len b 64 n

def pl.svPre (s : Svc) : List UInt8 := s.1 ++ ([9] ++ (pl.svPP s ++ (pl.svAl s.2.2.2 ++ [9])))
def pl.svLn (s : Svc) : List UInt8 := pl.svPre s ++ 35 :: [32, 99, 111, 109, 109, 101, 110, 116]
def pl.svLs (l : SvcL) : List (List UInt8) := [35, 32, 115, 101, 114, 118, 105, 99, 101, 115] :: l.map pl.svLn
theorem pl.svText_ls (l : SvcL) : pl.ltext (pl.svLs l) = pl.svText l := by
  unfold pl.svLs pl.svText
  rw [pl.ltext_cons]
  have h : pl.ltext (l.map pl.svLn) = l.flatMap pl.svLine := by
    unfold pl.ltext
    rw [List.flatMap_map]
    congr 1
    funext s
    simp [pl.svLn, pl.svPre, pl.svLine, pl.svCmt]
  rw [h]
  rfl

/-- a line as the walk needs it -/
structure SvLine (s : Svc) : Prop where
  nl : (10 : UInt8) ∉ pl.svLn s
  sep : pl.idx (pl.svLn s) 35 = ((pl.svPre s).length : Int)
  wd : pl.words pl.ws (pl.svPre s) = s.1 :: pl.svPP s :: s.2.2.2
  len : (pl.svLn s).length ≤ 60000000000
  p1 : 1 ≤ s.2.1
  p2 : s.2.1 ≤ 65535
  dt : pl.dt (pl.svPP s) 0 0 = (s.2.1.toNat, (pl.num 10 s.2.1.toNat).length, true)
  n20 : s.2.2.2.length ≤ 20
  l1 : s.1.length ≤ 2147483647
  l2 : s.2.2.1.length ≤ 2147483647
  l3 : ∀ q ∈ s.2.2.2, q.length ≤ 2147483647

theorem pl.svAl_len (ns : List Key) (h : ∀ q ∈ ns, q.length ≤ 2147483647) (h2 : ns.length ≤ 20) : (pl.svAl ns).length ≤ 42949672960 := by
  have : ∀ (ns : List Key), (∀ q ∈ ns, q.length ≤ 2147483647) → (pl.svAl ns).length ≤ ns.length * 2147483648 := by
    intro ns
    induction ns with
    | nil => intro _; exact Nat.le_refl _
    | cons n ns ih =>
      intro h
      have h1 := ih (fun q hq => h q (by simp [hq]))
      have h2 := h n (by simp)
      have e : (pl.svAl (n :: ns)).length = 1 + n.length + (pl.svAl ns).length := by simp [pl.svAl]; omega
      rw [e, List.length_cons]
      omega
  have := this ns h
  omega
theorem pl.svHead_parts (s : Svc) (h : pl.svHead s = true) : 1 ≤ s.2.1 ∧ s.2.1 ≤ 65535 ∧ pl.plain s.2.2.1 = true ∧ s.2.2.2.length ≤ 20 := by
  unfold pl.svHead at h
  rw [Bool.and_eq_true, Bool.and_eq_true, Bool.and_eq_true, decide_eq_true_eq, decide_eq_true_eq, decide_eq_true_eq] at h
  exact ⟨h.1.1.1, h.1.1.2, h.1.2, h.2⟩
theorem pl.dg_in (b : UInt8) (h : pl.dg b = true) : pl.okB b := by
  unfold pl.dg at h
  rw [Bool.and_eq_true, decide_eq_true_eq, decide_eq_true_eq] at h
  exact .inl h
theorem pl.sv_line (s : Svc) (h : pl.svHead s = true) (hn : ∀ n ∈ pl.svNames s, pl.plain n = true) (h1 : s.1.length ≤ 2147483647) (h2 : s.2.2.1.length ≤ 2147483647) (h3 : ∀ q ∈ s.2.2.2, q.length ≤ 2147483647) : SvLine s := by
  obtain ⟨p1, p2, p3, p4⟩ := pl.svHead_parts s h
  obtain ⟨d1, d2, d3⟩ := pl.num_val s.2.1.toNat (by omega)
  have d4 := pl.num_len 10 s.2.1.toNat
  obtain ⟨q1, q2⟩ := pl.plain_ok s.2.2.1 p3
  have hN : ∀ n ∈ pl.svNames s, n ≠ [] ∧ ∀ b ∈ n, pl.okB b := fun n hn' => pl.plain_ok n (hn n hn')
  have hP : ∀ b ∈ pl.svPP s, pl.okB b ∨ b = 47 := fun b hb => by
    unfold pl.svPP at hb
    rcases List.mem_append.1 hb with hb | hb
    · rcases List.mem_append.1 hb with hb | hb
      · rw [List.all_eq_true] at d1
        exact .inl (pl.dg_in b (d1 b hb))
      · exact .inr (by simpa using hb)
    · exact .inl (q2 b hb)
  have hA : ∀ b ∈ pl.svAl s.2.2.2, b = 32 ∨ pl.okB b := fun b hb => by
    unfold pl.svAl at hb
    obtain ⟨n, hn', hb⟩ := List.mem_flatMap.1 hb
    rcases List.mem_append.1 hb with hb | hb
    · exact .inl (by simpa using hb)
    · exact .inr ((hN n (by unfold pl.svNames; simp [hn'])).2 b hb)
  have hpre : ∀ b ∈ pl.svPre s, b ≠ 10 ∧ b ≠ 35 := fun b hb => by
    have ho : ∀ b, pl.okB b → b ≠ 10 ∧ b ≠ 35 := fun b hb => ⟨(pl.ok_not b hb).1, (pl.ok_not b hb).2.1⟩
    unfold pl.svPre at hb
    rcases List.mem_append.1 hb with hb | hb
    · exact ho b ((hN s.1 (by simp [pl.svNames])).2 b hb)
    rcases List.mem_append.1 hb with hb | hb
    · rw [List.mem_singleton] at hb; subst hb; decide
    rcases List.mem_append.1 hb with hb | hb
    · rcases hP b hb with hb | hb
      · exact ho b hb
      · subst hb; decide
    rcases List.mem_append.1 hb with hb | hb
    · rcases hA b hb with hb | hb
      · subst hb; decide
      · exact ho b hb
    · rw [List.mem_singleton] at hb; subst hb; decide
  have hpp : (pl.svPP s).length ≤ 2147483712 := by
    unfold pl.svPP
    simp only [List.length_append, List.length_cons, List.length_nil]
    omega
  have hal := pl.svAl_len s.2.2.2 h3 p4
  refine ⟨?_, ?_, ?_, ?_, p1, p2, ?_, p4, h1, h2, h3⟩
  · intro hm
    unfold pl.svLn at hm
    rcases List.mem_append.1 hm with hm | hm
    · exact (hpre _ hm).1 rfl
    · revert hm; decide
  · exact pl.idx_byte 35 (pl.svPre s) _ (fun hm => (hpre _ hm).2 rfl)
  · have hw : pl.runW pl.ws (pl.svPre s) = (s.1 :: pl.svPP s :: s.2.2.2, []) := by
      show pl.foldW ([], []) (pl.svPre s) = _
      unfold pl.svPre
      rw [pl.foldW_app, pl.foldW_tok s.1 [] [] (fun b hb => pl.ok_ws b ((hN s.1 (by simp [pl.svNames])).2 b hb)), List.nil_append, pl.foldW_app, pl.foldW_gap 9 [] _ _ (hN s.1 (by simp [pl.svNames])).1 (by decide), pl.foldW_app,
        pl.foldW_tok (pl.svPP s) _ [] (fun b hb => by
          rcases hP b hb with hb | hb
          · exact pl.ok_ws b hb
          · subst hb; decide), List.nil_append]
      have := pl.foldW_words 9 (by decide) s.2.2.2 ([] ++ [s.1]) (pl.svPP s) (by unfold pl.svPP; simp) (fun n hn' => ⟨(hN n (by simp [pl.svNames, hn'])).1, fun b hb => pl.ok_ws b ((hN n (by simp [pl.svNames, hn'])).2 b hb)⟩)
      unfold pl.svAl
      exact this
    unfold pl.words
    rw [hw]
    rfl
  · unfold pl.svLn pl.svPre
    simp only [List.length_append, List.length_cons, List.length_nil]
    omega
  · unfold pl.svPP
    rw [List.append_assoc, pl.dt_app _ _ 0 0 d1 (by rw [d2]; omega), d2, pl.dt_stop _ _ _ (by have := List.length_pos_iff.2 d3; omega) (fun b hb => by
      simp only [List.cons_append, List.nil_append, List.head?_cons, Option.some.injEq] at hb
      subst hb; decide)]
    simp
theorem pl.svPP_at (s : Svc) : (pl.svPP s)[(pl.num 10 s.2.1.toNat).length]? = some 47 ∧ (pl.svPP s).drop ((pl.num 10 s.2.1.toNat).length + 1) = s.2.2.1 ∧ (pl.svPP s).length = (pl.num 10 s.2.1.toNat).length + 1 + s.2.2.1.length := by
  unfold pl.svPP
  refine ⟨?_, ?_, by simp; omega⟩
  · rw [List.append_assoc, List.getElem?_append_right (Nat.le_refl _)]
    simp
  · have e : (pl.num 10 s.2.1.toNat).length + 1 = (pl.num 10 s.2.1.toNat ++ [47]).length := by simp
    rw [e, List.drop_left]

theorem pl.sv_lines (l : SvcL) (S : List Key) (h : pl.chkS l [] = some S) (hf : FitV l) : ∀ s ∈ l, SvLine s := fun s hs => by
  obtain ⟨h1, h2⟩ := pl.chkS_yes l [] S h s hs
  obtain ⟨k, hk, e⟩ := List.mem_iff_getElem.1 hs
  have h3 := hf k s (by rw [List.getElem?_eq_getElem hk, e])
  exact pl.sv_line s h1 (fun n hn => (h2 n hn).1) h3.1 h3.2.1 h3.2.2
theorem pl.svText_len (l : SvcL) (h : ∀ s ∈ l, SvLine s) (hl : l.length ≤ 100) : (pl.svText l).length ≤ 7000000000000 := by
  rw [← pl.svText_ls]
  have : ∀ (l : SvcL), (∀ s ∈ l, SvLine s) → (pl.ltext (l.map pl.svLn)).length ≤ l.length * 60000000001 := by
    intro l
    induction l with
    | nil => intro _; exact Nat.le_refl _
    | cons s l ih =>
      intro h
      have h1 := ih (fun q hq => h q (by simp [hq]))
      have h2 := (h s (by simp)).len
      rw [List.map_cons, pl.ltext_cons, List.length_append, List.length_cons, List.length_cons]
      omega
  have h1 := this l h
  unfold pl.svLs
  rw [pl.ltext_cons]
  simp only [List.length_append, List.length_cons, List.length_nil]
  omega

/-- the table with some names of a service put in -/
def pl.svPut (T : Key → Key → Option Int) (p : Key) (v : Int) (ns : List Key) : Key → Key → Option Int := fun p' k => if p' = p ∧ k ∈ ns then some v else T p' k
theorem pl.svPut_nil (T : Key → Key → Option Int) (p : Key) (v : Int) : pl.svPut T p v [] = T := by funext p' k; simp [pl.svPut]
theorem pl.svPut_step (T : Key → Key → Option Int) (s : Svc) : pl.svPut T s.2.2.1 s.2.1 (pl.svNames s) = pl.svStep T s := by
  funext p' k
  unfold pl.svPut pl.svStep pl.svHit
  by_cases h : p' = s.2.2.1 ∧ k ∈ pl.svNames s
  · rw [if_pos h, if_pos (by simp [h.1, h.2])]
  · rw [if_neg h, if_neg]
    intro h2
    rw [Bool.and_eq_true, decide_eq_true_eq, decide_eq_true_eq] at h2
    exact h ⟨h2.1.symm, h2.2⟩
theorem pl.svPut_snoc (T : Key → Key → Option Int) (p : Key) (v : Int) (ns : List Key) (n : Key) : pl.svPut T p v (ns ++ [n]) = fun p' k => if p' = p ∧ k = n then some v else pl.svPut T p v ns p' k := by
  funext p' k
  unfold pl.svPut
  by_cases h : p' = p ∧ k = n
  · rw [if_pos h, if_pos ⟨h.1, by simp [h.2]⟩]
  · rw [if_neg h]
    by_cases h2 : p' = p ∧ k ∈ ns
    · rw [if_pos h2, if_pos ⟨h2.1, by simp [h2.2]⟩]
    · rw [if_neg h2, if_neg]
      rintro ⟨a, b⟩
      rcases List.mem_append.1 b with b | b
      · exact h2 ⟨a, b⟩
      · exact h ⟨a, by simpa using b⟩
/-- the names behind i rounds of the inner loop -/
def pl.svAt (s : Svc) (i : Nat) : List Key := if i = 0 then [] else s.1 :: s.2.2.2.take (i - 2)
theorem pl.svAt_step (s : Svc) (i : Nat) (n : Key) (h : (s.1 :: pl.svPP s :: s.2.2.2)[i]? = some n) (h1 : i ≠ 1) : pl.svAt s (i + 1) = pl.svAt s i ++ [n] := by
  unfold pl.svAt
  match i, h1, h with
  | 0, _, h => simp at h; subst h; simp
  | i + 2, _, h =>
    have h' : s.2.2.2[i]? = some n := by simpa using h
    rw [if_neg (by omega), if_neg (by omega)]
    show s.1 :: s.2.2.2.take (i + 1) = s.1 :: s.2.2.2.take i ++ [n]
    rw [pl.take_at _ i n h']
    rfl
theorem pl.svAt_one (s : Svc) : pl.svAt s 2 = pl.svAt s 1 := by simp [pl.svAt]
theorem pl.svAt_end (s : Svc) : pl.svAt s (s.2.2.2.length + 2) = pl.svNames s := by simp [pl.svAt, pl.svNames]

end Go.Proofs.Ytabeklpllphiaaa
