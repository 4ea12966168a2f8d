/-
  PLAIN: a services file.
-/
import Derived.Test.YtabeklpllphiaaaSv
namespace Go.Proofs.Ytabeklpllphiaaa
open Go.RowKit

def pl.svKey (p n : Key) : Key := p ++ [32] ++ n
def pl.svNames (s : Svc) : List Key := s.1 :: s.2.2.2
/-- the names of a protocol, beside what is there already -/
def pl.chkN (p : Key) : List Key → List Key → Option (List Key)
  | [], S => some S
  | n :: ns, S => if pl.plain n = true ∧ pl.low n = n ∧ pl.svKey p n ∉ S then pl.chkN p ns (pl.svKey p n :: S) else none
def pl.svHead (s : Svc) : Bool := decide (1 ≤ s.2.1) && decide (s.2.1 ≤ 65535) && pl.plain s.2.2.1 && decide (s.2.2.2.length ≤ 20)
def pl.chkS : SvcL → List Key → Option (List Key)
  | [], S => some S
  | s :: l, S => if pl.svHead s = true then (pl.chkN s.2.2.1 (pl.svNames s) S).bind (pl.chkS l) else none

theorem pl.chkN_app (p : Key) : ∀ (a b S : List Key), pl.chkN p (a ++ b) S = (pl.chkN p a S).bind (pl.chkN p b)
  | [], b, S => rfl
  | n :: a, b, S => by
    show (if _ then pl.chkN p (a ++ b) _ else none) = _
    by_cases h : pl.plain n = true ∧ pl.low n = n ∧ pl.svKey p n ∉ S
    · rw [if_pos h, pl.chkN_app p a b]
      show _ = (pl.chkN p (n :: a) S).bind _
      unfold pl.chkN
      rw [if_pos h]
      cases a <;> rfl
    · rw [if_neg h]
      show _ = (pl.chkN p (n :: a) S).bind _
      unfold pl.chkN
      rw [if_neg h]
      rfl
theorem pl.chkS_app : ∀ (a b : SvcL) (S : List Key), pl.chkS (a ++ b) S = (pl.chkS a S).bind (pl.chkS b)
  | [], b, S => rfl
  | s :: a, b, S => by
    show (if _ then _ else none) = Option.bind (if _ then _ else none) _
    by_cases h : pl.svHead s = true
    · rw [if_pos h, if_pos h]
      cases hc : pl.chkN s.2.2.1 (pl.svNames s) S with
      | none => rfl
      | some S2 => exact pl.chkS_app a b S2
    · rw [if_neg h, if_neg h]; rfl
theorem pl.chkN_one (p n : Key) (S : List Key) : pl.chkN p [n] S = if pl.plain n = true ∧ pl.low n = n ∧ pl.svKey p n ∉ S then some (pl.svKey p n :: S) else none := rfl
theorem pl.chkN_no (p : Key) (ns S S2 : List Key) (k : Nat) (n : Key) (hk : ns[k]? = some n) (h : pl.chkN p (ns.take k) S = some S2) (hn : ¬ (pl.plain n = true ∧ pl.low n = n ∧ pl.svKey p n ∉ S2)) : pl.chkN p ns S = none := by
  obtain ⟨hl, e⟩ := List.getElem?_eq_some_iff.1 hk
  have hs : ns = ns.take k ++ n :: ns.drop (k + 1) := by
    rw [← e, ← List.drop_eq_getElem_cons hl, List.take_append_drop]
  rw [hs, pl.chkN_app, h]
  show pl.chkN p (n :: ns.drop (k + 1)) S2 = none
  unfold pl.chkN
  rw [if_neg hn]
theorem pl.chkN_take (p : Key) (ns S S2 : List Key) (k : Nat) (n : Key) (hk : ns[k]? = some n) (h : pl.chkN p (ns.take k) S = some S2) (hn : pl.plain n = true ∧ pl.low n = n ∧ pl.svKey p n ∉ S2) : pl.chkN p (ns.take (k + 1)) S = some (pl.svKey p n :: S2) := by
  rw [pl.take_at ns k n hk, pl.chkN_app, h]
  show pl.chkN p [n] S2 = _
  rw [pl.chkN_one, if_pos hn]
theorem pl.chkS_no (l : SvcL) (S : List Key) (k : Nat) (s : Svc) (hk : l[k]? = some s) (h : pl.chkS (l.take k) [] = some S) (hn : pl.svHead s = false ∨ pl.chkN s.2.2.1 (pl.svNames s) S = none) : pl.chkS l [] = none := by
  obtain ⟨hl, e⟩ := List.getElem?_eq_some_iff.1 hk
  have hs : l = l.take k ++ s :: l.drop (k + 1) := by
    rw [← e, ← List.drop_eq_getElem_cons hl, List.take_append_drop]
  rw [hs, pl.chkS_app, h]
  show (if _ then _ else none) = none
  rcases hn with hn | hn
  · rw [if_neg (by rw [hn]; simp)]
  · rw [hn]
    split <;> rfl
theorem pl.chkS_take (l : SvcL) (S S2 : List Key) (k : Nat) (s : Svc) (hk : l[k]? = some s) (h : pl.chkS (l.take k) [] = some S) (hh : pl.svHead s = true) (hn : pl.chkN s.2.2.1 (pl.svNames s) S = some S2) : pl.chkS (l.take (k + 1)) [] = some S2 := by
  rw [pl.take_at l k s hk, pl.chkS_app, h]
  show (if _ then _ else none) = _
  rw [if_pos hh, hn]
  rfl

/-- what a check that went through says of each name -/
theorem pl.chkN_yes (p : Key) : ∀ (ns S S2 : List Key), pl.chkN p ns S = some S2 → (∀ n ∈ ns, pl.plain n = true ∧ pl.low n = n ∧ pl.svKey p n ∈ S2 ∧ pl.svKey p n ∉ S) ∧ (∀ k ∈ S, k ∈ S2)
  | [], S, S2, h => by
    injection h with h
    subst h
    exact ⟨fun n hn => by simp at hn, fun k hk => hk⟩
  | n :: ns, S, S2, h => by
    unfold pl.chkN at h
    by_cases hc : pl.plain n = true ∧ pl.low n = n ∧ pl.svKey p n ∉ S
    · rw [if_pos hc] at h
      obtain ⟨h1, h2⟩ := pl.chkN_yes p ns _ S2 h
      refine ⟨fun m hm => ?_, fun k hk => h2 k (by simp [hk])⟩
      rcases List.mem_cons.1 hm with rfl | hm
      · exact ⟨hc.1, hc.2.1, h2 _ (by simp), hc.2.2⟩
      · obtain ⟨a, b, c, d⟩ := h1 m hm
        exact ⟨a, b, c, fun hx => d (by simp [hx])⟩
    · rw [if_neg hc] at h; cases h
theorem pl.chkS_yes : ∀ (l : SvcL) (S S2 : List Key), pl.chkS l S = some S2 → ∀ s ∈ l, pl.svHead s = true ∧ ∀ n ∈ pl.svNames s, pl.plain n = true ∧ pl.low n = n ∧ pl.svKey s.2.2.1 n ∉ S
  | [], S, S2, h => fun s hs => by simp at hs
  | s :: l, S, S2, h => by
    change (if pl.svHead s = true then (pl.chkN s.2.2.1 (pl.svNames s) S).bind (pl.chkS l) else none) = some S2 at h
    by_cases hh : pl.svHead s = true
    · rw [if_pos hh] at h
      cases hc : pl.chkN s.2.2.1 (pl.svNames s) S with
      | none => rw [hc] at h; cases h
      | some S1 =>
        rw [hc] at h
        obtain ⟨h1, h2⟩ := pl.chkN_yes _ _ _ _ hc
        have ih := pl.chkS_yes l S1 S2 h
        intro t ht
        rcases List.mem_cons.1 ht with rfl | ht
        · exact ⟨hh, fun n hn => ⟨(h1 n hn).1, (h1 n hn).2.1, (h1 n hn).2.2.2⟩⟩
        · obtain ⟨a, b⟩ := ih t ht
          exact ⟨a, fun n hn => ⟨(b n hn).1, (b n hn).2.1, fun hx => (b n hn).2.2 (h2 _ hx)⟩⟩
    · rw [if_neg hh] at h; cases h

/-- the port: the first service that has it -/
def pl.svHit (s : Svc) (p n : Key) : Bool := decide (s.2.2.1 = p) && decide (n ∈ pl.svNames s)
def pl.portOf (l : SvcL) (p n : Key) : Option Int := (l.find? (fun s => pl.svHit s p n)).map (fun s => s.2.1)
/-- the table that the reader fills, line by line -/
def pl.svStep (T : Key → Key → Option Int) (s : Svc) : Key → Key → Option Int := fun p n => if pl.svHit s p n = true then some s.2.1 else T p n
def pl.svTab (l : SvcL) : Key → Key → Option Int := l.foldl pl.svStep (fun _ _ => none)

theorem pl.fold_port (p n : Key) : ∀ (l : SvcL) (T : Key → Key → Option Int) (S S2 : List Key), pl.chkS l S = some S2 → (T p n ≠ none → pl.svKey p n ∈ S) → (l.foldl pl.svStep T) p n = (match pl.portOf l p n with | some v => some v | none => T p n)
  | [], T, S, S2, _, _ => rfl
  | s :: l, T, S, S2, h, hT => by
    have h0 := h
    change (if pl.svHead s = true then (pl.chkN s.2.2.1 (pl.svNames s) S).bind (pl.chkS l) else none) = some S2 at h
    by_cases hh : pl.svHead s = true
    · rw [if_pos hh] at h
      cases hc : pl.chkN s.2.2.1 (pl.svNames s) S with
      | none => rw [hc] at h; cases h
      | some S1 =>
        rw [hc] at h
        obtain ⟨h1, h2⟩ := pl.chkN_yes _ _ _ _ hc
        have hT' : (pl.svStep T s) p n ≠ none → pl.svKey p n ∈ S1 := fun hne => by
          unfold pl.svStep at hne
          by_cases hit : pl.svHit s p n = true
          · unfold pl.svHit at hit
            rw [Bool.and_eq_true, decide_eq_true_eq, decide_eq_true_eq] at hit
            rw [← hit.1]
            exact (h1 n hit.2).2.2.1
          · rw [if_neg hit] at hne
            exact h2 _ (hT hne)
        rw [List.foldl_cons, pl.fold_port p n l (pl.svStep T s) S1 S2 h hT']
        unfold pl.portOf
        by_cases hit : pl.svHit s p n = true
        · have hk : pl.svKey p n ∈ S1 := hT' (by unfold pl.svStep; rw [if_pos hit]; simp)
          have hno : l.find? (fun s => pl.svHit s p n) = none := by
            rw [List.find?_eq_none]
            intro t ht hx
            obtain ⟨_, hy⟩ := pl.chkS_yes l S1 S2 h t ht
            unfold pl.svHit at hx
            rw [Bool.and_eq_true, decide_eq_true_eq, decide_eq_true_eq] at hx
            have := (hy n hx.2).2.2
            rw [hx.1] at this
            exact this hk
          rw [hno, List.find?_cons_of_pos (p := fun s => pl.svHit s p n) hit]
          show pl.svStep T s p n = some s.2.1
          unfold pl.svStep
          rw [if_pos hit]
        · rw [List.find?_cons_of_neg (p := fun s => pl.svHit s p n) hit]
          have : pl.svStep T s p n = T p n := by unfold pl.svStep; rw [if_neg hit]
          rw [this]
    · rw [if_neg hh] at h; cases h
theorem pl.tab_port (l : SvcL) (S : List Key) (h : pl.chkS l [] = some S) (p n : Key) : pl.svTab l p n = pl.portOf l p n := by
  unfold pl.svTab
  rw [pl.fold_port p n l _ [] S h (fun hn => absurd rfl hn)]
  cases pl.portOf l p n <;> rfl

def pl.svCmt : List UInt8 := [9, 35, 32, 99, 111, 109, 109, 101, 110, 116, 10]
def pl.svAl (ns : List Key) : List UInt8 := ns.flatMap (fun n => [32] ++ n)
def pl.svPP (s : Svc) : List UInt8 := pl.num 10 s.2.1.toNat ++ [47] ++ s.2.2.1
def pl.svLine (s : Svc) : List UInt8 := s.1 ++ [9] ++ pl.svPP s ++ pl.svAl s.2.2.2 ++ pl.svCmt
def pl.svTop : List UInt8 := [35, 32, 115, 101, 114, 118, 105, 99, 101, 115, 10]
/-- a services file -/
def pl.svText (l : SvcL) : List UInt8 := pl.svTop ++ l.flatMap pl.svLine
theorem pl.svAl_snoc (l : List Key) (x : Key) : pl.svAl (l ++ [x]) = pl.svAl l ++ ([32] ++ x) := by simp [pl.svAl]

def FitV (l : SvcL) : Prop := ∀ (k : Nat) (p : Svc), l[k]? = some p → p.1.length ≤ 2147483647 ∧ p.2.2.1.length ≤ 2147483647 ∧ ∀ q ∈ p.2.2.2, q.length ≤ 2147483647
theorem FitV.of {l : SvcL} (hf : pl.fits4 l = true) : FitV l := fun k p hp => by
  unfold pl.fits4 at hf
  rw [Bool.and_eq_true, List.all_eq_true] at hf
  have h2 := hf.2 p (List.mem_of_getElem? hp)
  unfold pl.fits5 pl.fits3 at h2
  rw [Bool.and_eq_true, Bool.and_eq_true, Bool.and_eq_true, List.all_eq_true] at h2
  exact ⟨by simpa using h2.1.1, by simpa using h2.1.2, fun q hq => by simpa using h2.2.2 q hq⟩

end Go.Proofs.Ytabeklpllphiaaa
