/-
  PLAIN: resolv.conf as a list of lines; what each line does.
-/
import Derived.Test.YtfkohahlpfejbaaDoorRvD
import Derived.Test.YtfkohahlpfejbaaDoorPlAd
namespace Go.Proofs.YtfkohahlpfejbaaDoor
open Go.RowKit

/-- the meaning of a line: 0 nothing, 1 a server, 2 a search list, 3 options -/
abbrev RMean := Nat × List (List UInt8) × List Opt
abbrev RItem := List UInt8 × RMean
structure RSt where
  sv : List (List UInt8)
  se : List (List UInt8)
  nd : Int
  tm : Int
  att : Int
  ro : Bool
  si : Bool
  tc : Bool
  ta : Bool
  nr : Bool
def pl.rZero : RSt := ⟨[], [], 1, 5, 2, false, false, false, false, false⟩
def pl.j53 (a : List UInt8) : List UInt8 := pl.joined a [53, 51]
def pl.rOpt (s : RSt) (o : Opt) : RSt :=
  match o.1.toNat with
  | 0 => { s with nd := o.2 }
  | 1 => { s with tm := o.2 }
  | 2 => { s with att := o.2 }
  | 3 => { s with ro := true }
  | 4 => { s with si := true }
  | 5 => { s with tc := true }
  | 6 => { s with ta := true }
  | 7 => { s with nr := true }
  | _ => s
def pl.rStep (s : RSt) (m : RMean) : RSt :=
  match m.1 with
  | 1 => if s.sv.length < 3 then { s with sv := s.sv ++ m.2.1.map pl.j53 } else s
  | 2 => { s with se := m.2.1.map pl.rooted }
  | 3 => m.2.2.foldl pl.rOpt s
  | _ => s
def pl.rRun (its : List RItem) (s : RSt) : RSt := its.foldl (fun s it => pl.rStep s it.2) s

def pl.c1 : List UInt8 := [35, 32, 114, 101, 115, 111, 108, 118, 101, 114]
def pl.c2 : List UInt8 := [59, 32, 99, 111, 109, 109, 101, 110, 116]
def pl.rNo : RMean := (0, [], [])
def pl.iSrv (a : List UInt8) : RItem := (pl.rvSrv ++ a, 1, [a], [])
def pl.iSch (l : List (List UInt8)) : RItem := (pl.rvSearch l, if l = [] then pl.rNo else (2, l, []))
def pl.iOpt (o : Opt) : RItem := (pl.rvOpt ++ ([32] ++ pl.optTx o), 3, [], [o])
def pl.iOne (l : List Opt) : RItem := (pl.rvOne l, if l = [] then pl.rNo else (3, [], l))
def pl.rvIts (c : Cnf) (apart : Bool) : List RItem :=
  (pl.c1, pl.rNo) :: (pl.c2, pl.rNo) :: (c.1.map pl.iSrv ++ (pl.iSch c.2.1 :: (if apart = true then c.2.2.map pl.iOpt ++ [([], pl.rNo)] else [pl.iOne c.2.2])))
def pl.itx (its : List RItem) : List UInt8 := pl.ltext (its.map (·.1))

theorem pl.ltext_app (a b : List (List UInt8)) : pl.ltext (a ++ b) = pl.ltext a ++ pl.ltext b := by simp [pl.ltext]
theorem pl.rvText_its (c : Cnf) (apart : Bool) : pl.itx (pl.rvIts c apart) = pl.rvText c apart := by
  obtain ⟨sv, se, op⟩ := c
  have h1 : pl.ltext ((sv.map pl.iSrv).map (·.1)) = pl.rvServers sv := by
    unfold pl.ltext pl.rvServers
    rw [List.map_map, List.flatMap_map]
    congr 1
  have h2 : pl.ltext ((op.map pl.iOpt).map (·.1)) = pl.rvApart op := by
    unfold pl.ltext pl.rvApart
    rw [List.map_map, List.flatMap_map]
    congr 1
  unfold pl.itx pl.rvIts pl.rvText
  simp only [List.map_cons, List.map_append]
  rw [pl.ltext_cons, pl.ltext_cons, pl.ltext_app, h1, pl.ltext_cons]
  cases apart with
  | true =>
    simp only [if_true, List.map_append, pl.ltext_app, h2]
    simp [pl.iSch, pl.rvTop, pl.c1, pl.c2, pl.ltext]
  | false =>
    simp [pl.iSch, pl.iOne, pl.rvTop, pl.c1, pl.c2, pl.ltext]

/-- a line as the walk needs it -/
structure RIOk (it : RItem) : Prop where
  nl : (10 : UInt8) ∉ it.1
  len : it.1.length ≤ 60000000000
  no : it.2.1 = 0 → it.1 = [] ∨ ∃ b r, it.1 = b :: r ∧ (b = 59 ∨ b = 35)
  hd : it.2.1 ≠ 0 → ∃ b r, it.1 = b :: r ∧ b ≠ 59 ∧ b ≠ 35
  srv : it.2.1 = 1 → ∃ a, it.2.2.1 = [a] ∧ pl.words pl.ws it.1 = [[110, 97, 109, 101, 115, 101, 114, 118, 101, 114], a] ∧ (pl.addr a).isSome = true ∧ (37 : UInt8) ∉ a ∧ a.length ≤ 2147483647
  sch : it.2.1 = 2 → pl.words pl.ws it.1 = pl.rvSch :: it.2.2.1 ∧ it.2.2.1.length ≤ 6 ∧ ∀ n ∈ it.2.2.1, pl.plain n = true ∧ n.length ≤ 2147483647
  opt : it.2.1 = 3 → pl.words pl.ws it.1 = pl.rvOpt :: it.2.2.2.map pl.optTx ∧ it.2.2.2.length ≤ 20 ∧ (∀ o ∈ it.2.2.2, pl.optOk o = true) ∧ it.2.2.2 ≠ []
  few : it.2.1 ≤ 3

theorem pl.rvOk_parts (c : Cnf) (h : pl.rvOk c = true) : c.1.length ≤ 3 ∧ c.2.1.length ≤ 6 ∧ c.2.2.length ≤ 20 ∧ (∀ s ∈ c.1, (pl.addr s).isSome = true) ∧ (∀ n ∈ c.2.1, pl.plain n = true) ∧ (∀ o ∈ c.2.2, pl.optOk o = true) := by
  unfold pl.rvOk at h
  simp only [Bool.and_eq_true, decide_eq_true_eq, List.all_eq_true] at h
  obtain ⟨⟨⟨⟨⟨h1, h2⟩, h3⟩, h4⟩, h5⟩, h6⟩ := h
  exact ⟨h1, h2, h3, h4, h5, h6⟩

theorem pl.in_ws (b : UInt8) (h : pl.inB b) : pl.ws b = false := by
  unfold pl.inB at h
  unfold pl.ws
  have h1 : b ≠ 32 := fun e => h.1 (by rw [e]; rfl)
  have h2 : b ≠ 13 := fun e => h.2.1 (by rw [e]; rfl)
  have h3 : b ≠ 9 := fun e => h.2.2.1 (by rw [e]; rfl)
  have h4 : b ≠ 10 := fun e => h.2.2.2.1 (by rw [e]; rfl)
  simp [h1, h2, h3, h4]
/-- the words of a line: a head, a gap of one byte, more words (each ahead of a gap), nothing behind -/
theorem pl.foldW_gaps (g : UInt8) (hg : pl.ws g = true) : ∀ (ns : List (List UInt8)) (W : List (List UInt8)) (c : List UInt8), c ≠ [] → (∀ n ∈ ns, n ≠ [] ∧ ∀ b ∈ n, pl.ws b = false) → ∃ W' c', pl.foldW (W, c) (ns.flatMap (fun n => [g] ++ n)) = (W', c') ∧ c' ≠ [] ∧ W' ++ [c'] = W ++ c :: ns
  | [], W, c, hc, _ => ⟨W, c, rfl, hc, rfl⟩
  | n :: ns, W, c, hc, h => by
    have he : (n :: ns).flatMap (fun n => [g] ++ n) = [g] ++ (n ++ ns.flatMap (fun n => [g] ++ n)) := by simp
    obtain ⟨W', c', h1, h2, h3⟩ := pl.foldW_gaps g hg ns (W ++ [c]) n (h n (by simp)).1 (fun x hx => h x (by simp [hx]))
    refine ⟨W', c', ?_, h2, by rw [h3]; simp⟩
    rw [he, pl.foldW_app, pl.foldW_gap g [] W c hc (by intro x hx; simp at hx; rw [hx]; exact hg), pl.foldW_app, pl.foldW_tok n _ _ (h n (by simp)).2, List.nil_append, h1]
theorem pl.words_gaps (g : UInt8) (hg : pl.ws g = true) (t : List UInt8) (ns : List (List UInt8)) (ht : t ≠ []) (ht2 : ∀ b ∈ t, pl.ws b = false) (h : ∀ n ∈ ns, n ≠ [] ∧ ∀ b ∈ n, pl.ws b = false) : pl.words pl.ws (t ++ ns.flatMap (fun n => [g] ++ n)) = t :: ns := by
  obtain ⟨W', c', h1, h2, h3⟩ := pl.foldW_gaps g hg ns [] t ht h
  have hr : pl.runW pl.ws (t ++ ns.flatMap (fun n => [g] ++ n)) = (W', c') := by
    show pl.foldW ([], []) _ = _
    rw [pl.foldW_app, pl.foldW_tok t [] [] ht2, List.nil_append, h1]
  unfold pl.words
  rw [hr]
  show (if c' = [] then W' else W' ++ [c']) = _
  rw [if_neg h2, h3]
  rfl

theorem pl.srv_item (a : List UInt8) (h : (pl.addr a).isSome = true) (hl : a.length ≤ 2147483647) : RIOk (pl.iSrv a) := by
  obtain ⟨b, hb⟩ := Option.isSome_iff_exists.1 h
  have hin : ∀ x ∈ a, pl.inB x := fun x hx => pl.ad_in x (pl.addr_ad a b hb x hx)
  have hne := pl.addr_ne a b hb
  have hw := pl.words_gaps 32 (by decide) [110, 97, 109, 101, 115, 101, 114, 118, 101, 114] [a] (by decide) (by decide) (fun n hn => by rw [List.mem_singleton] at hn; subst hn; exact ⟨hne, fun x hx => pl.in_ws x (hin x hx)⟩)
  refine ⟨?_, ?_, fun e => (by cases e), fun _ => ⟨110, _, rfl, by decide, by decide⟩, fun _ => ⟨a, rfl, ?_, h, fun hm => (hin 37 hm).2.2.2.2.2 rfl, hl⟩, fun e => (by cases e), fun e => (by cases e), by show 1 ≤ 3; omega⟩
  · intro hm
    rcases List.mem_append.1 hm with hm | hm
    · revert hm; decide
    · exact (hin 10 hm).2.2.2.1 rfl
  · show (pl.rvSrv ++ a).length ≤ _
    rw [List.length_append]
    have : pl.rvSrv.length = 11 := rfl
    omega
  · rw [← hw]
    congr 1
    simp [pl.iSrv, pl.rvSrv]

theorem pl.optNm_ok (k : Nat) : pl.optNm k ≠ [] ∧ ∀ b ∈ pl.optNm k, pl.okB b ∨ b = 45 := by
  match k with
  | 0 | 1 | 2 | 3 | 4 | 5 | 6 | 7 => exact ⟨by decide, by unfold pl.okB; decide⟩
  | n + 8 => exact ⟨by show ([101, 100, 110, 115, 48] : List UInt8) ≠ []; decide, by show ∀ b ∈ ([101, 100, 110, 115, 48] : List UInt8), _; unfold pl.okB; decide⟩

theorem pl.hx_dg (r : Nat) (h : r < 10) : pl.dg (pl.hx r) = true ∧ (pl.hx r).toNat - 48 = r := by
  have : ∀ r : Fin 10, pl.dg (pl.hx r.val) = true ∧ (pl.hx r.val).toNat - 48 = r.val := by decide
  exact this ⟨r, h⟩
theorem pl.num_val (n : Nat) : n < 2 ^ 63 → (pl.num 10 n).all pl.dg = true ∧ pl.decV 0 (pl.num 10 n) = n ∧ pl.num 10 n ≠ [] := by
  induction n using Nat.strongRecOn with
  | _ n ih =>
    intro hn
    obtain ⟨h1, h2⟩ := pl.hx_dg (n % 10) (by omega)
    rw [pl.num_step 10 n (by decide) hn]
    by_cases h0 : n / 10 = 0
    · rw [if_pos h0]
      refine ⟨by simp [h1], ?_, by simp⟩
      show 0 * 10 + ((pl.hx (n % 10)).toNat - 48) = n
      omega
    · rw [if_neg h0]
      obtain ⟨i1, i2, i3⟩ := ih (n / 10) (by omega) (by omega)
      refine ⟨by rw [List.all_append, i1]; simp [h1], ?_, by simp⟩
      rw [pl.decV_snoc, i2, h2]
      omega
theorem pl.dg_ok (b : UInt8) (h : pl.dg b = true) : pl.okB b := by
  unfold pl.dg at h
  rw [Bool.and_eq_true, decide_eq_true_eq, decide_eq_true_eq] at h
  exact .inl h
theorem pl.optOk_range (o : Opt) (h : pl.optOk o = true) : 0 ≤ o.1 ∧ o.1 < 9 ∧ (o.1 ≤ 2 → 0 ≤ o.2 ∧ o.2 ≤ 30) := by
  obtain ⟨k, n⟩ := o
  unfold pl.optOk at h
  simp only [Bool.and_eq_true, Bool.or_eq_true, decide_eq_true_eq] at h
  obtain ⟨⟨h1, h2⟩, h3⟩ := h
  refine ⟨h1, h2, fun h4 => ?_⟩
  have h4' : k ≤ 2 := h4
  rcases h3 with h3 | ⟨h3, h5⟩
  · omega
  · have hk : k = 0 ∨ k = 1 ∨ k = 2 := by omega
    rcases hk with rfl | rfl | rfl
    · have a : (0 : Int) ≤ n := h3; have b : n ≤ (15 : Int) := h5; exact ⟨a, by omega⟩
    · have a : (1 : Int) ≤ n := h3; have b : n ≤ (30 : Int) := h5; exact ⟨by omega, b⟩
    · have a : (1 : Int) ≤ n := h3; have b : n ≤ (5 : Int) := h5; exact ⟨by omega, by omega⟩
theorem pl.optNm_len (k : Nat) : (pl.optNm k).length ≤ 14 := by
  match k with
  | 0 | 1 | 2 | 3 | 4 | 5 | 6 | 7 => decide
  | n + 8 => show ([101, 100, 110, 115, 48] : List UInt8).length ≤ 14; decide
theorem pl.optTx_ok (o : Opt) (h : pl.optOk o = true) : pl.optTx o ≠ [] ∧ (∀ b ∈ pl.optTx o, pl.okB b ∨ b = 58) ∧ (pl.optTx o).length ≤ 100 := by
  obtain ⟨n1, n2⟩ := pl.optNm_ok o.1.toNat
  have n3 := pl.optNm_len o.1.toNat
  have n4 : ∀ b ∈ pl.optNm o.1.toNat, pl.okB b := fun b hb => by
    rcases n2 b hb with h | h
    · exact h
    · subst h; unfold pl.okB; decide
  obtain ⟨_, _, hr⟩ := pl.optOk_range o h
  unfold pl.optTx
  split
  · exact ⟨n1, fun b hb => .inl (n4 b hb), by omega⟩
  · rename_i hk
    obtain ⟨r1, r2⟩ := hr (by omega)
    obtain ⟨d1, _, _⟩ := pl.num_val o.2.toNat (by omega)
    have d4 := pl.num_len10 o.2.toNat
    refine ⟨by simp, fun b hb => ?_, by simp only [List.length_append, List.length_cons, List.length_nil]; omega⟩
    rcases List.mem_append.1 hb with hb | hb
    · exact .inl (n4 b hb)
    rcases List.mem_append.1 hb with hb | hb
    · exact .inr (by simpa using hb)
    · rw [List.all_eq_true] at d1
      exact .inl (pl.dg_ok b (d1 b hb))
theorem pl.optTx_ws (o : Opt) (h : pl.optOk o = true) : pl.optTx o ≠ [] ∧ ∀ b ∈ pl.optTx o, pl.ws b = false := by
  obtain ⟨h1, h2, _⟩ := pl.optTx_ok o h
  refine ⟨h1, fun b hb => ?_⟩
  rcases h2 b hb with h | h
  · exact pl.ok_ws b h
  · subst h; decide
theorem pl.flat_nl (g : UInt8) (ns : List (List UInt8)) (hg : g ≠ 10) (h : ∀ n ∈ ns, (10 : UInt8) ∉ n) : (10 : UInt8) ∉ ns.flatMap (fun n => [g] ++ n) := by
  intro hm
  obtain ⟨n, hn, hm⟩ := List.mem_flatMap.1 hm
  rcases List.mem_append.1 hm with hm | hm
  · rw [List.mem_singleton] at hm; exact hg hm.symm
  · exact h n hn hm
theorem pl.flat_len2 (g : UInt8) (B : Nat) : ∀ (ns : List (List UInt8)), (∀ n ∈ ns, n.length ≤ B) → (ns.flatMap (fun n => [g] ++ n)).length ≤ ns.length * (B + 1)
  | [], _ => Nat.zero_le _
  | n :: ns, h => by
    have h1 := pl.flat_len2 g B ns (fun x hx => h x (by simp [hx]))
    have h2 := h n (by simp)
    have e : ((n :: ns).flatMap (fun n => [g] ++ n)).length = 1 + n.length + (ns.flatMap (fun n => [g] ++ n)).length := by simp; omega
    rw [e, List.length_cons, Nat.add_mul, Nat.one_mul]
    omega
theorem pl.no_item : RIOk ([], pl.rNo) := ⟨by simp, by simp, fun _ => .inl rfl, fun h => absurd rfl h, fun e => (by cases e), fun e => (by cases e), fun e => (by cases e), Nat.zero_le _⟩
theorem pl.sch_item (l : List (List UInt8)) (h6 : l.length ≤ 6) (h : ∀ n ∈ l, pl.plain n = true) (hl : ∀ n ∈ l, n.length ≤ 2147483647) : RIOk (pl.iSch l) := by
  by_cases he : l = []
  · subst he
    exact pl.no_item
  · have hp : ∀ n ∈ l, n ≠ [] ∧ ∀ b ∈ n, pl.okB b := fun n hn => pl.plain_ok n (h n hn)
    have hw := pl.words_gaps 9 (by decide) pl.rvSch l (by decide) (by decide) (fun n hn => ⟨(hp n hn).1, fun b hb => pl.ok_ws b ((hp n hn).2 b hb)⟩)
    have e1 : pl.rvSearch l = pl.rvSch ++ l.flatMap (fun n => [9] ++ n) := by unfold pl.rvSearch; rw [if_neg he]
    have e2 : pl.iSch l = (pl.rvSch ++ l.flatMap (fun n => [9] ++ n), 2, l, []) := by unfold pl.iSch; rw [if_neg he, e1]
    rw [e2]
    refine ⟨?_, ?_, fun e => (by cases e), fun _ => ⟨115, _, rfl, by decide, by decide⟩, fun e => (by cases e), fun _ => ⟨hw, h6, fun n hn => ⟨h n hn, hl n hn⟩⟩, fun e => (by cases e), by show 2 ≤ 3; omega⟩
    · intro hm
      rcases List.mem_append.1 hm with hm | hm
      · revert hm; decide
      · exact pl.flat_nl 9 l (by decide) (fun n hn hm => (pl.ok_not 10 ((hp n hn).2 10 hm)).1 rfl) hm
    · show (pl.rvSch ++ l.flatMap (fun n => [9] ++ n)).length ≤ _
      have := pl.flat_len2 9 2147483647 l hl
      rw [List.length_append, show pl.rvSch.length = 6 from rfl]
      omega
theorem pl.one_item (l : List Opt) (h20 : l.length ≤ 20) (h : ∀ o ∈ l, pl.optOk o = true) (he : l ≠ []) : RIOk (pl.rvOpt ++ (l.map pl.optTx).flatMap (fun n => [32] ++ n), 3, [], l) := by
  have hp : ∀ n ∈ l.map pl.optTx, n ≠ [] ∧ ∀ b ∈ n, pl.ws b = false := fun n hn => by
    obtain ⟨o, ho, rfl⟩ := List.mem_map.1 hn
    exact pl.optTx_ws o (h o ho)
  have hw := pl.words_gaps 32 (by decide) pl.rvOpt (l.map pl.optTx) (by decide) (by decide) hp
  refine ⟨?_, ?_, fun e => (by cases e), fun _ => ⟨111, _, rfl, by decide, by decide⟩, fun e => (by cases e), fun e => (by cases e), fun _ => ⟨hw, h20, h, he⟩, by show 3 ≤ 3; omega⟩
  · intro hm
    rcases List.mem_append.1 hm with hm | hm
    · revert hm; decide
    · refine pl.flat_nl 32 _ (by decide) (fun n hn hm => ?_) hm
      have := (hp n hn).2 10 hm
      revert this; decide
  · show (pl.rvOpt ++ (l.map pl.optTx).flatMap (fun n => [32] ++ n)).length ≤ _
    have := pl.flat_len2 32 100 (l.map pl.optTx) (fun n hn => by
      obtain ⟨o, ho, rfl⟩ := List.mem_map.1 hn
      exact (pl.optTx_ok o (h o ho)).2.2)
    rw [List.length_append, show pl.rvOpt.length = 7 from rfl]
    rw [List.length_map] at this
    omega
theorem pl.iOne_ok (l : List Opt) (h20 : l.length ≤ 20) (h : ∀ o ∈ l, pl.optOk o = true) : RIOk (pl.iOne l) := by
  by_cases he : l = []
  · subst he; exact pl.no_item
  · have := pl.one_item l h20 h he
    have e : pl.iOne l = (pl.rvOpt ++ (l.map pl.optTx).flatMap (fun n => [32] ++ n), 3, [], l) := by
      unfold pl.iOne pl.rvOne
      rw [if_neg he, if_neg he, List.flatMap_map]
    rw [e]; exact this
theorem pl.iOpt_ok (o : Opt) (h : pl.optOk o = true) : RIOk (pl.iOpt o) := by
  have := pl.one_item [o] (by simp) (fun x hx => by rw [List.mem_singleton] at hx; subst hx; exact h) (by simp)
  have e : pl.iOpt o = (pl.rvOpt ++ ([o].map pl.optTx).flatMap (fun n => [32] ++ n), 3, [], [o]) := by simp [pl.iOpt]
  rw [e]; exact this
theorem pl.rvIts_ok (c : Cnf) (apart : Bool) (h : pl.rvOk c = true) (h1 : ∀ q ∈ c.1, q.length ≤ 2147483647) (h2 : ∀ q ∈ c.2.1, q.length ≤ 2147483647) : ∀ it ∈ pl.rvIts c apart, RIOk it := by
  obtain ⟨p1, p2, p3, p4, p5, p6⟩ := pl.rvOk_parts c h
  intro it hit
  unfold pl.rvIts at hit
  rcases List.mem_cons.1 hit with rfl | hit
  · exact ⟨by decide, by decide, fun _ => .inr ⟨35, _, rfl, .inr rfl⟩, fun h => absurd rfl h, fun e => (by cases e), fun e => (by cases e), fun e => (by cases e), Nat.zero_le _⟩
  rcases List.mem_cons.1 hit with rfl | hit
  · exact ⟨by decide, by decide, fun _ => .inr ⟨59, _, rfl, .inl rfl⟩, fun h => absurd rfl h, fun e => (by cases e), fun e => (by cases e), fun e => (by cases e), Nat.zero_le _⟩
  rcases List.mem_append.1 hit with hit | hit
  · obtain ⟨a, ha, rfl⟩ := List.mem_map.1 hit
    exact pl.srv_item a (p4 a ha) (h1 a ha)
  rcases List.mem_cons.1 hit with rfl | hit
  · exact pl.sch_item c.2.1 p2 p5 h2
  cases apart with
  | true =>
    rw [if_pos rfl] at hit
    rcases List.mem_append.1 hit with hit | hit
    · obtain ⟨o, ho, rfl⟩ := List.mem_map.1 hit
      exact pl.iOpt_ok o (p6 o ho)
    · rw [List.mem_singleton] at hit; subst hit; exact pl.no_item
  | false =>
    rw [if_neg (by decide), List.mem_singleton] at hit
    subst hit
    exact pl.iOne_ok c.2.2 p3 p6

/-- what the lines of a configuration do -/
theorem pl.rRun_app (a b : List RItem) (s : RSt) : pl.rRun (a ++ b) s = pl.rRun b (pl.rRun a s) := by unfold pl.rRun; rw [List.foldl_append]
theorem pl.run_srv : ∀ (l : List (List UInt8)) (s : RSt), s.sv.length + l.length ≤ 3 → pl.rRun (l.map pl.iSrv) s = { s with sv := s.sv ++ l.map pl.j53 }
  | [], s, _ => by simp [pl.rRun]
  | a :: l, s, h => by
    rw [List.length_cons] at h
    have h1 : pl.rStep s (pl.iSrv a).2 = { s with sv := s.sv ++ [pl.j53 a] } := by
      show (if s.sv.length < 3 then _ else _) = _
      rw [if_pos (by omega)]
      rfl
    show pl.rRun (l.map pl.iSrv) (pl.rStep s (pl.iSrv a).2) = _
    rw [h1, pl.run_srv l _ (by simp; omega)]
    simp
theorem pl.run_opts : ∀ (l : List Opt) (s : RSt), pl.rRun (l.map pl.iOpt) s = l.foldl pl.rOpt s
  | [], s => rfl
  | o :: l, s => by
    show pl.rRun (l.map pl.iOpt) (pl.rOpt s o) = _
    rw [pl.run_opts l]
    rfl
theorem pl.run_conf (c : Cnf) (apart : Bool) (s : RSt) (h : s.sv.length + c.1.length ≤ 3) :
    pl.rRun (pl.rvIts c apart) s = c.2.2.foldl pl.rOpt { s with sv := s.sv ++ c.1.map pl.j53, se := if c.2.1 = [] then s.se else c.2.1.map pl.rooted } := by
  unfold pl.rvIts
  show pl.rRun (c.1.map pl.iSrv ++ _) s = _
  rw [pl.rRun_app, pl.run_srv c.1 s h]
  have h2 : ∀ s : RSt, pl.rStep s (pl.iSch c.2.1).2 = { s with se := if c.2.1 = [] then s.se else c.2.1.map pl.rooted } := fun s => by
    unfold pl.iSch
    by_cases he : c.2.1 = []
    · simp only [he, if_true]; rfl
    · simp only [he, if_false]; rfl
  show pl.rRun (if apart = true then _ else _) (pl.rStep _ (pl.iSch c.2.1).2) = _
  rw [h2]
  cases apart with
  | true =>
    rw [if_pos rfl, pl.rRun_app, pl.run_opts]
    rfl
  | false =>
    rw [if_neg (by decide)]
    show pl.rStep _ (pl.iOne c.2.2).2 = _
    unfold pl.iOne
    by_cases he : c.2.2 = []
    · simp only [he, if_true]; rfl
    · simp only [he, if_false]; rfl

def pl.numOf (l : List Opt) (k : Int) (d : Int) : Int := l.foldl (fun n o => if o.1 = k then o.2 else n) d
def pl.setOf (l : List Opt) (k : Int) : Bool := l.any (fun o => decide (o.1 = k))
theorem pl.opts_sv : ∀ (l : List Opt) (s : RSt), (l.foldl pl.rOpt s).sv = s.sv ∧ (l.foldl pl.rOpt s).se = s.se
  | [], s => ⟨rfl, rfl⟩
  | o :: l, s => by
    obtain ⟨h1, h2⟩ := pl.opts_sv l (pl.rOpt s o)
    rw [List.foldl_cons, h1, h2]
    unfold pl.rOpt
    split <;> exact ⟨rfl, rfl⟩
theorem pl.opts_all : ∀ (l : List Opt) (s : RSt), (∀ o ∈ l, pl.optOk o = true) →
    (l.foldl pl.rOpt s).nd = pl.numOf l 0 s.nd ∧ (l.foldl pl.rOpt s).tm = pl.numOf l 1 s.tm ∧ (l.foldl pl.rOpt s).att = pl.numOf l 2 s.att ∧
    (l.foldl pl.rOpt s).ro = (s.ro || pl.setOf l 3) ∧ (l.foldl pl.rOpt s).si = (s.si || pl.setOf l 4) ∧ (l.foldl pl.rOpt s).tc = (s.tc || pl.setOf l 5) ∧ (l.foldl pl.rOpt s).ta = (s.ta || pl.setOf l 6) ∧ (l.foldl pl.rOpt s).nr = (s.nr || pl.setOf l 7)
  | [], s, _ => by simp [pl.numOf, pl.setOf]
  | o :: l, s, h => by
    obtain ⟨k, n⟩ := o
    obtain ⟨r1, r2, _⟩ := pl.optOk_range (k, n) (h _ (by simp))
    obtain ⟨a0, a1, a2, a3, a4, a5, a6, a7⟩ := pl.opts_all l (pl.rOpt s (k, n)) (fun x hx => h x (by simp [hx]))
    obtain ⟨K, rfl⟩ : ∃ K : Nat, k = (K : Int) := ⟨k.toNat, by have : 0 ≤ k := r1; omega⟩
    have hK : K < 9 := by have : (K : Int) < 9 := r2; omega
    simp only [List.foldl_cons]
    rw [a0, a1, a2, a3, a4, a5, a6, a7]
    clear a0 a1 a2 a3 a4 a5 a6 a7 r1 r2 h
    unfold pl.numOf pl.setOf
    simp only [List.foldl_cons, List.any_cons]
    match K, hK with
    | 0, _ | 1, _ | 2, _ | 3, _ | 4, _ | 5, _ | 6, _ | 7, _ | 8, _ => simp [pl.rOpt]

end Go.Proofs.YtfkohahlpfejbaaDoor
