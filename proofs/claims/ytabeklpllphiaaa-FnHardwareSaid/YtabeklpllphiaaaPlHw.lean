/-
  PLAIN: hexadecimal digits as bytes; the reference's reading of an address of hardware.
-/
import Derived.Test.YtabeklpllphiaaaPlMac3
namespace Go.Proofs.Ytabeklpllphiaaa

/-- pairs of digits as bytes, as far as they go in pairs -/
def pl.prs : List UInt8 → Option (List UInt8)
  | a :: b :: t => (pl.pair a b).bind fun u => (pl.prs t).map (u :: ·)
  | _ => some []

def pl.hexes (l : List UInt8) : List UInt8 × Bool := ((pl.prs l).getD [], (pl.prs l).isSome && l.length % 2 == 0)

theorem pl.pair_val (a b : UInt8) (x y : Nat) (hx : pl.hexv a = some x) (hy : pl.hexv b = some y) : pl.pair a b = some (UInt8.ofNat (x * 16 + y)) := by
  unfold pl.pair; rw [hx, hy]

theorem pl.prs_step (s : List UInt8) (k : Nat) (a b u : UInt8) (acc : List UInt8) (R : Option (List UInt8)) (h : R = (pl.prs (s.drop k)).map (acc ++ ·)) (ha : s[k]? = some a) (hb : s[k + 1]? = some b) (hu : pl.pair a b = some u) :
    R = (pl.prs (s.drop (k + 2))).map ((acc ++ [u]) ++ ·) := by
  have e : s.drop k = a :: b :: s.drop (k + 2) := by
    obtain ⟨h1, h2⟩ := List.getElem?_eq_some_iff.1 ha
    obtain ⟨h3, h4⟩ := List.getElem?_eq_some_iff.1 hb
    rw [List.drop_eq_getElem_cons h1, List.drop_eq_getElem_cons h3, h2, h4]
  rw [h, e, pl.prs, hu, Option.bind_some, Option.map_map]
  congr 1
  funext r
  simp

theorem pl.prs_fail (s : List UInt8) (k : Nat) (a b : UInt8) (acc : List UInt8) (R : Option (List UInt8)) (h : R = (pl.prs (s.drop k)).map (acc ++ ·)) (ha : s[k]? = some a) (hb : s[k + 1]? = some b) (hu : pl.pair a b = none) : R = none := by
  have e : s.drop k = a :: b :: s.drop (k + 2) := by
    obtain ⟨h1, h2⟩ := List.getElem?_eq_some_iff.1 ha
    obtain ⟨h3, h4⟩ := List.getElem?_eq_some_iff.1 hb
    rw [List.drop_eq_getElem_cons h1, List.drop_eq_getElem_cons h3, h2, h4]
  rw [h, e, pl.prs, hu]; rfl

theorem pl.prs_end (s : List UInt8) (k : Nat) (acc : List UInt8) (R : Option (List UInt8)) (h : R = (pl.prs (s.drop k)).map (acc ++ ·)) (hk : s.length ≤ k + 1) : R = some acc := by
  have : (s.drop k).length ≤ 1 := by rw [List.length_drop]; omega
  rw [h]
  match hd : s.drop k with
  | [] => simp [pl.prs]
  | [a] => simp [pl.prs]
  | a :: b :: t => rw [hd] at this; simp at this

theorem pl.prs_len : ∀ (l : List UInt8) (o : List UInt8), pl.prs l = some o → o.length = l.length / 2
  | [], o, h => by simp [pl.prs] at h; subst h; rfl
  | [a], o, h => by simp [pl.prs] at h; subst h; simp
  | a :: b :: t, o, h => by
    rw [pl.prs] at h
    cases hp : pl.pair a b with
    | none => rw [hp] at h; cases h
    | some u =>
      rw [hp, Option.bind_some] at h
      cases hr : pl.prs t with
      | none => rw [hr] at h; cases h
      | some r =>
        rw [hr, Option.map_some] at h
        injection h with h
        subst h
        have := pl.prs_len t r hr
        simp only [List.length_cons]
        omega

end Go.Proofs.Ytabeklpllphiaaa
