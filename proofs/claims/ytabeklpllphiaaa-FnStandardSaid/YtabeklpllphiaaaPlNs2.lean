/-
  PLAIN: the lines of nsswitch.conf and what is left of a line after some sources; rows of sources.
-/
import Derived.Test.YtabeklpllphiaaaNsF
namespace Go.Proofs.Ytabeklpllphiaaa
open Go.RowKit

theorem pl.solid_plain (l : List UInt8) (h : pl.plain l = true) : pl.solid l := by
  obtain ⟨h1, h2⟩ := pl.plain_ok l h
  exact pl.solid_all l h1 (fun b hb => pl.ok_ws b (h2 b hb))
theorem pl.trim_32 (l : List UInt8) (h : pl.solid l) : pl.trimS (32 :: l) = l := by
  have e : pl.trimL (32 :: l) = pl.trimL l := by
    unfold pl.trimL
    rw [List.dropWhile_cons_of_pos (by decide)]
  have h2 := pl.trim_solid l h
  unfold pl.trimS at h2 ⊢
  rw [e, h2]
theorem pl.trim_end (l : List UInt8) (h : pl.solid l) : pl.trimS (l ++ [32]) = l := by
  have h2 := pl.trim_solid l h
  obtain ⟨h1, hh, _⟩ := h
  have e1 : pl.trimL l = l := by
    unfold pl.trimL
    match l, h1 with
    | x :: r, _ => rw [List.dropWhile_cons_of_neg (by rw [hh x rfl]; simp)]
  have e2 : pl.trimL (l ++ [32]) = l ++ [32] := by
    unfold pl.trimL
    match l, h1 with
    | x :: r, _ => rw [List.cons_append, List.dropWhile_cons_of_neg (by rw [hh x rfl]; simp)]
  unfold pl.trimS at h2 ⊢
  rw [e1] at h2
  rw [e2]
  have e3 : pl.trimR (l ++ [32]) = pl.trimR l := by
    unfold pl.trimR
    rw [List.reverse_append, List.reverse_singleton, List.singleton_append, List.dropWhile_cons_of_pos (by decide)]
  rw [e3, h2]

def pl.bodyS (s : Src) : List UInt8 := s.1 ++ pl.critsTx s.2
def pl.rem : List Src → List UInt8
  | [] => []
  | s :: r => pl.bodyS s ++ pl.srcsTx r
theorem pl.srcsTx_cons (s : Src) (r : List Src) : pl.srcsTx (s :: r) = 32 :: (pl.bodyS s ++ pl.srcsTx r) := by simp [pl.srcsTx, pl.srcTx, pl.bodyS]
theorem pl.srcsTx_rem (s : Src) (r : List Src) : pl.srcsTx (s :: r) = 32 :: pl.rem (s :: r) := pl.srcsTx_cons s r
theorem pl.srcOk_parts (s : Src) (h : pl.srcOk s = true) : pl.plain s.1 = true ∧ s.2.length ≤ 8 ∧ ∀ c ∈ s.2, pl.critOk c = true := by
  unfold pl.srcOk at h
  rw [Bool.and_eq_true, Bool.and_eq_true, decide_eq_true_eq, List.all_eq_true] at h
  exact ⟨h.1.1, h.1.2, h.2⟩
theorem pl.bodyS_solid (s : Src) (h : pl.srcOk s = true) : pl.solid (pl.bodyS s) := by
  obtain ⟨h1, _, h3⟩ := pl.srcOk_parts s h
  unfold pl.bodyS pl.critsTx
  by_cases he : s.2 = []
  · rw [if_pos he, List.append_nil]; exact pl.solid_plain _ h1
  · rw [if_neg he, ← List.append_assoc, ← List.append_assoc]
    have := pl.solid_app s.1 ([32, 91] ++ pl.critsIn s.2) [93] (pl.solid_plain _ h1) (pl.solid_all _ (by simp) (by decide))
    simpa [List.append_assoc] using this
theorem pl.rem_solid : ∀ (l : List Src), l ≠ [] → (∀ s ∈ l, pl.srcOk s = true) → pl.solid (pl.rem l)
  | [], h, _ => absurd rfl h
  | [s], _, h => by
    have e : pl.rem [s] = pl.bodyS s := by simp [pl.rem, pl.srcsTx]
    rw [e]; exact pl.bodyS_solid s (h s (by simp))
  | s :: t :: r, _, h => by
    have e : pl.rem (s :: t :: r) = pl.bodyS s ++ ([32] ++ pl.rem (t :: r)) := by
      show pl.bodyS s ++ pl.srcsTx (t :: r) = _
      rw [pl.srcsTx_rem]; rfl
    rw [e]
    exact pl.solid_app _ _ _ (pl.bodyS_solid s (h s (by simp))) (pl.rem_solid (t :: r) (by simp) (fun x hx => h x (by simp [hx])))
theorem pl.trim_srcs (l : List Src) (h : ∀ s ∈ l, pl.srcOk s = true) : pl.trimS (pl.srcsTx l) = pl.rem l := by
  match l, h with
  | [], _ => rfl
  | s :: r, h => rw [pl.srcsTx_rem]; exact pl.trim_32 _ (pl.rem_solid _ (by simp) h)
theorem pl.trim_rem (l : List Src) (h : ∀ s ∈ l, pl.srcOk s = true) : pl.trimS (pl.rem l) = pl.rem l := by
  match l, h with
  | [], _ => rfl
  | s :: r, h => exact pl.trim_solid _ (pl.rem_solid _ (by simp) h)
theorem pl.bodyS_len (s : Src) (h1 : pl.srcOk s = true) (h2 : FitN s) : (pl.bodyS s).length ≤ 36507222098 := by
  have h4 := pl.critsIn_len s.2 h2.2.2
  have h5 := (pl.srcOk_parts s h1).2.1
  have h6 := h2.1
  have h8 : (pl.critsIn s.2).length ≤ 34359738408 := by
    have := Nat.mul_le_mul_right 4294967301 h5
    omega
  unfold pl.bodyS pl.critsTx
  rw [List.length_append]
  split
  · simp; omega
  · simp; omega
theorem pl.srcsTx_len (l : List Src) (h : ∀ s ∈ l, pl.srcOk s = true ∧ FitN s) : (pl.srcsTx l).length ≤ l.length * 36507222100 := by
  induction l with
  | nil => simp [pl.srcsTx]
  | cons s r ih =>
    obtain ⟨h1, h2⟩ := h s (by simp)
    have h3 := ih (fun x hx => h x (by simp [hx]))
    have h7 := pl.bodyS_len s h1 h2
    rw [pl.srcsTx_cons, List.length_cons, List.length_append, List.length_cons, Nat.add_mul, Nat.one_mul]
    omega

/-! ### a source ahead: its name, its criteria -/
theorem pl.rem_plain (nm : List UInt8) (t : Src) (r : List Src) : pl.rem ((nm, []) :: t :: r) = nm ++ 32 :: pl.rem (t :: r) := by
  show nm ++ [] ++ pl.srcsTx (t :: r) = _
  rw [List.append_nil, pl.srcsTx_rem]
theorem pl.rem_last (nm : List UInt8) : pl.rem [(nm, [])] = nm := by
  show nm ++ [] ++ [] = _
  simp
/-- what stands behind the name of a source with criteria -/
def pl.brack (cs : List Crit) (r : List Src) : List UInt8 := 91 :: (pl.critsIn cs ++ 93 :: pl.srcsTx r)
theorem pl.rem_crit (nm : List UInt8) (cs : List Crit) (h : cs ≠ []) (r : List Src) : pl.rem ((nm, cs) :: r) = nm ++ 32 :: pl.brack cs r := by
  show nm ++ pl.critsTx cs ++ pl.srcsTx r = _
  unfold pl.critsTx pl.brack
  rw [if_neg h]
  simp
theorem pl.brack_solid (cs : List Crit) (r : List Src) (h : ∀ s ∈ r, pl.srcOk s = true) : pl.solid (pl.brack cs r) := by
  unfold pl.brack
  match r, h with
  | [], _ =>
    exact pl.solid_app [91] (pl.critsIn cs) [93] (pl.solid_all _ (by simp) (by decide)) (pl.solid_all _ (by simp) (by decide))
  | t :: r, h =>
    have := pl.solid_app [91] (pl.critsIn cs ++ [93, 32]) (pl.rem (t :: r)) (pl.solid_all _ (by simp) (by decide)) (pl.rem_solid _ (by simp) h)
    rw [pl.srcsTx_rem]
    simpa using this
theorem pl.crits_93 : ∀ (cs : List Crit), (∀ c ∈ cs, pl.critOk c = true) → (93 : UInt8) ∉ pl.critsIn cs
  | [], _ => by simp [pl.critsIn]
  | [c], h => by
    have e : pl.critsIn [c] = pl.critTx c := by simp [pl.critsIn]
    rw [e]
    intro hm
    rcases pl.crit_bytes c (h c (by simp)) 93 hm with h | h | h
    · exact (pl.ok_ne 93 h).2.2.2.2.2.2.1 rfl
    · exact absurd h (by decide)
    · exact absurd h (by decide)
  | c :: d :: r, h => by
    rw [pl.critsIn_two]
    intro hm
    rcases List.mem_append.1 hm with hm | hm
    · rcases pl.crit_bytes c (h c (by simp)) 93 hm with h | h | h
      · exact (pl.ok_ne 93 h).2.2.2.2.2.2.1 rfl
      · exact absurd h (by decide)
      · exact absurd h (by decide)
    · rcases List.mem_cons.1 hm with hm | hm
      · exact absurd hm (by decide)
      · exact pl.crits_93 (d :: r) (fun x hx => h x (by simp [hx])) hm
theorem pl.brack_idx (cs : List Crit) (r : List Src) (h : ∀ c ∈ cs, pl.critOk c = true) : pl.idx (pl.brack cs r) 93 = ((pl.critsIn cs).length + 1 : Nat) := by
  have e : pl.brack cs r = (91 :: pl.critsIn cs) ++ 93 :: pl.srcsTx r := rfl
  rw [e]
  have := pl.idx_byte 93 (91 :: pl.critsIn cs) (pl.srcsTx r) (by
    intro hm
    rcases List.mem_cons.1 hm with hm | hm
    · exact absurd hm (by decide)
    · exact pl.crits_93 cs h hm)
  simpa using this

/-! ### the lines -/
def pl.nsL0 : List UInt8 := [35, 32, 110, 115, 115, 119, 105, 116, 99, 104]
def pl.nsL1 : List UInt8 := [111, 116, 104, 101, 114, 58, 32, 102, 105, 108, 101, 115]
def pl.nsL2 (db : List UInt8) (l : List Src) : List UInt8 := db ++ ([58] ++ (pl.srcsTx l ++ [32, 35, 32, 99, 111, 109, 109, 101, 110, 116]))
def pl.nsLs (db : List UInt8) (l : List Src) : List (List UInt8) := [pl.nsL0, pl.nsL1, pl.nsL2 db l]
theorem pl.nsText_ls (db : List UInt8) (l : List Src) : pl.ltext (pl.nsLs db l) = pl.swText db l := by
  simp [pl.ltext, pl.nsLs, pl.swText, pl.nsL0, pl.nsL1, pl.nsL2, pl.nsTop, pl.nsEnd]
def pl.filesS : List Src := [([102, 105, 108, 101, 115], [])]
/-- a line as the walk needs it: a database, its sources -/
structure NLine (ln K : List UInt8) (L : List Src) : Prop where
  tx : pl.trimS (pl.strip ln) = K ++ 58 :: pl.srcsTx L
  k : pl.plain K = true
  src : ∀ s ∈ L, pl.srcOk s = true
  fit : ∀ s ∈ L, FitN s
  n : L.length ≤ 20
  kl : K.length ≤ 2147483647
  len : ln.length ≤ 800000000000
theorem pl.line_one : NLine pl.nsL1 pl.nsOther pl.filesS := by
  refine ⟨by decide, by decide, by decide, ?_, by decide, by decide, by decide⟩
  intro s hs
  unfold pl.filesS at hs
  rw [List.mem_singleton] at hs
  subst hs
  exact ⟨by decide, by decide, fun c hc => by simp at hc⟩
theorem pl.swOk_parts (db : List UInt8) (l : List Src) (h : pl.swOk db l = true) : pl.plain db = true ∧ db ≠ pl.nsOther ∧ l.length ≤ 20 ∧ ∀ s ∈ l, pl.srcOk s = true := by
  unfold pl.swOk at h
  rw [Bool.and_eq_true, Bool.and_eq_true, Bool.and_eq_true, decide_eq_true_eq, List.all_eq_true] at h
  exact ⟨h.1.1.1, by simpa using h.1.1.2, h.1.2, h.2⟩
theorem pl.crits_35 (cs : List Crit) (h : ∀ c ∈ cs, pl.critOk c = true) : (35 : UInt8) ∉ pl.critsIn cs := by
  match cs, h with
  | [], _ => simp [pl.critsIn]
  | c :: r, h =>
    intro hm
    have hc : ∀ d ∈ c :: r, (35 : UInt8) ∉ pl.critTx d := fun d hd hm => by
      rcases pl.crit_bytes d (h d hd) 35 hm with h | h | h
      · exact (pl.ok_ne 35 h).2.2.1 rfl
      · exact absurd h (by decide)
      · exact absurd h (by decide)
    unfold pl.critsIn at hm
    rcases List.mem_append.1 hm with hm | hm
    · exact hc c (by simp) hm
    · obtain ⟨d, hd, hm⟩ := List.mem_flatMap.1 hm
      rcases List.mem_append.1 hm with hm | hm
      · exact absurd hm (by decide)
      · exact hc d (by simp [hd]) hm
theorem pl.srcs_35 (l : List Src) (h : ∀ s ∈ l, pl.srcOk s = true) : (35 : UInt8) ∉ pl.srcsTx l := by
  intro hm
  unfold pl.srcsTx at hm
  obtain ⟨s, hs, hm⟩ := List.mem_flatMap.1 hm
  obtain ⟨h1, _, h3⟩ := pl.srcOk_parts s (h s hs)
  unfold pl.srcTx at hm
  rcases List.mem_append.1 hm with hm | hm
  · exact absurd hm (by decide)
  rcases List.mem_append.1 hm with hm | hm
  · exact (pl.ok_ne 35 ((pl.plain_ok _ h1).2 35 hm)).2.2.1 rfl
  unfold pl.critsTx at hm
  split at hm
  · simp at hm
  · rcases List.mem_append.1 hm with hm | hm
    · exact absurd hm (by decide)
    · rcases List.mem_append.1 hm with hm | hm
      · exact pl.crits_35 s.2 h3 hm
      · exact absurd hm (by decide)
theorem pl.line_two (db : List UInt8) (l : List Src) (h : pl.swOk db l = true) (hd : db.length ≤ 2147483647) (hf : ∀ s ∈ l, FitN s) : NLine (pl.nsL2 db l) db l := by
  obtain ⟨h1, h2, h3, h4⟩ := pl.swOk_parts db l h
  have hl := pl.srcsTx_len l (fun s hs => ⟨h4 s hs, hf s hs⟩)
  have hl2 : (pl.srcsTx l).length ≤ 20 * 36507222100 := Nat.le_trans hl (Nat.mul_le_mul_right _ h3)
  refine ⟨?_, h1, h4, hf, h3, hd, ?_⟩
  · have e : pl.nsL2 db l = (db ++ 58 :: pl.srcsTx l ++ [32]) ++ 35 :: [32, 99, 111, 109, 109, 101, 110, 116] := by simp [pl.nsL2]
    have hn : (35 : UInt8) ∉ db ++ 58 :: pl.srcsTx l ++ [32] := by
      intro hm
      rcases List.mem_append.1 hm with hm | hm
      · rcases List.mem_append.1 hm with hm | hm
        · exact (pl.ok_ne 35 ((pl.plain_ok _ h1).2 35 hm)).2.2.1 rfl
        · rcases List.mem_cons.1 hm with hm | hm
          · exact absurd hm (by decide)
          · exact pl.srcs_35 l h4 hm
      · exact absurd hm (by decide)
    have hi := pl.idx_byte 35 _ [32, 99, 111, 109, 109, 101, 110, 116] hn
    have hs : pl.strip (pl.nsL2 db l) = db ++ 58 :: pl.srcsTx l ++ [32] := by
      unfold pl.strip
      rw [e]
      have hi' : pl.idx ((db ++ 58 :: pl.srcsTx l ++ [32]) ++ 35 :: [32, 99, 111, 109, 109, 101, 110, 116]) 35 = ((db ++ 58 :: pl.srcsTx l ++ [32]).length : Int) := hi
      rw [hi', if_neg (by omega), Int.toNat_natCast, List.take_left]
    rw [hs]
    refine pl.trim_end _ ?_
    match l, h4 with
    | [], _ =>
      have := pl.solid_app db [] [58] (pl.solid_plain db h1) (pl.solid_all _ (by simp) (by decide))
      simpa [pl.srcsTx] using this
    | s :: r, h4 =>
      have := pl.solid_app db [58, 32] (pl.rem (s :: r)) (pl.solid_plain db h1) (pl.rem_solid _ (by simp) h4)
      rw [pl.srcsTx_rem]
      simpa using this
  · unfold pl.nsL2
    simp only [List.length_append, List.length_cons, List.length_nil]
    omega
theorem pl.ns_nl (db : List UInt8) (l : List Src) (h : pl.swOk db l = true) : ∀ x ∈ pl.nsLs db l, (10 : UInt8) ∉ x := by
  obtain ⟨h1, h2, h3, h4⟩ := pl.swOk_parts db l h
  intro x hx
  unfold pl.nsLs at hx
  rcases List.mem_cons.1 hx with rfl | hx
  · decide
  rcases List.mem_cons.1 hx with rfl | hx
  · decide
  rw [List.mem_singleton] at hx
  subst hx
  have hcr : ∀ c, pl.critOk c = true → (10 : UInt8) ∉ pl.critTx c := fun c hc hm => by
    have := pl.crit_ws c hc 10 hm
    revert this; decide
  intro hm
  unfold pl.nsL2 at hm
  rcases List.mem_append.1 hm with hm | hm
  · exact (pl.ok_ne 10 ((pl.plain_ok _ h1).2 10 hm)).2.2.2.2.2.2.2 rfl
  rcases List.mem_append.1 hm with hm | hm
  · exact absurd hm (by decide)
  rcases List.mem_append.1 hm with hm | hm
  · unfold pl.srcsTx at hm
    obtain ⟨s, hs, hm⟩ := List.mem_flatMap.1 hm
    obtain ⟨k1, _, k3⟩ := pl.srcOk_parts s (h4 s hs)
    unfold pl.srcTx at hm
    rcases List.mem_append.1 hm with hm | hm
    · exact absurd hm (by decide)
    rcases List.mem_append.1 hm with hm | hm
    · exact (pl.ok_ne 10 ((pl.plain_ok _ k1).2 10 hm)).2.2.2.2.2.2.2 rfl
    unfold pl.critsTx at hm
    split at hm
    · simp at hm
    · rcases List.mem_append.1 hm with hm | hm
      · exact absurd hm (by decide)
      · rcases List.mem_append.1 hm with hm | hm
        · match hc : s.2, hm with
          | [], hm => simp [pl.critsIn] at hm
          | c :: r, hm =>
            unfold pl.critsIn at hm
            rcases List.mem_append.1 hm with hm | hm
            · exact hcr c (k3 c (by rw [hc]; simp)) hm
            · obtain ⟨d, hd, hm⟩ := List.mem_flatMap.1 hm
              rcases List.mem_append.1 hm with hm | hm
              · exact absurd hm (by decide)
              · exact hcr d (k3 d (by rw [hc]; simp [hd])) hm
        · exact absurd hm (by decide)
  · exact absurd hm (by decide)

end Go.Proofs.Ytabeklpllphiaaa
