/-
  PLAIN: lengths, and the forms one by one.
-/
import Derived.Test.YtabeklpllphiaaaPlHwMain
namespace Go.Proofs.Ytabeklpllphiaaa

def pl.cF : Nat → UInt8 | 0 => 58 | 1 => 45 | _ => 46
def pl.lF : Nat → Nat | 0 => 2 | 1 => 2 | _ => 4

theorem pl.hexes_len (l : List UInt8) : (pl.hexes l).1.length ≤ l.length := by
  unfold pl.hexes
  cases h : pl.prs l with
  | none => simp
  | some o => have := pl.prs_len l o h; simp; omega

def pl.cat (ps : List (List UInt8)) : List UInt8 := ps.flatMap (fun p => (pl.hexes p).1)

theorem pl.cat_len (ps : List (List UInt8)) : (pl.cat ps).length ≤ ps.flatten.length := by
  induction ps with
  | nil => simp [pl.cat]
  | cons p t ih =>
    have := pl.hexes_len p
    have e : pl.cat (p :: t) = (pl.hexes p).1 ++ pl.cat t := by simp [pl.cat]
    rw [e, List.flatten_cons, List.length_append, List.length_append]
    omega

theorem pl.cat_take (ps : List (List UInt8)) (j : Nat) : (pl.cat (ps.take j)).length ≤ ps.flatten.length := by
  have h := pl.cat_len (ps.take j)
  have e : ps.flatten = (ps.take j).flatten ++ (ps.drop j).flatten := by rw [← List.flatten_append, List.take_append_drop]
  rw [e, List.length_append]
  omega

theorem pl.spl_total (c : UInt8) (l : List UInt8) : (pl.spl c l).flatten.length ≤ l.length := by
  induction l with
  | nil => simp [pl.spl]
  | cons b t ih =>
    rw [pl.spl]
    by_cases h : b = c
    · rw [if_pos h]; simp at ih ⊢; omega
    · rw [if_neg h]
      obtain ⟨p, ps, hp⟩ := pl.spl_ne c t
      rw [hp] at ih ⊢
      simp at ih ⊢
      omega

theorem pl.split_total (c : UInt8) (s : List UInt8) (j : Nat) : (pl.cat ((pl.split c.toNat s).take j)).length ≤ s.length := by
  have h := pl.cat_take (pl.split c.toNat s) j
  rw [pl.split_spl] at h ⊢
  have := pl.spl_total c s
  omega

theorem pl.cat_succ (ps : List (List UInt8)) (j : Nat) (p : List UInt8) (h : ps[j]? = some p) : pl.cat (ps.take (j + 1)) = pl.cat (ps.take j) ++ (pl.hexes p).1 := by
  rw [List.take_add_one, h]
  simp [pl.cat]

theorem pl.allF_succ (f : List UInt8 → Bool) (ps : List (List UInt8)) (j : Nat) (p : List UInt8) (h : ps[j]? = some p) : (ps.take (j + 1)).all f = ((ps.take j).all f && f p) := by
  rw [List.take_add_one, h]
  simp

theorem pl.hw_hit (s : List UInt8) (k : Nat) (hk : k < 3) (hn : ∀ j, j < k → pl.formB (pl.cF j) (pl.lF j) s = false) (h : pl.formB (pl.cF k) (pl.lF k) s = true) : pl.hw s = (pl.outB (pl.cF k) s, true, true) := by
  match k, hk with
  | 0, _ =>
    have h' : pl.formB 58 2 s = true := h
    unfold pl.hw; rw [h', if_pos rfl]; rfl
  | 1, _ =>
    have h0 : pl.formB 58 2 s = false := hn 0 (by omega)
    have h' : pl.formB 45 2 s = true := h
    unfold pl.hw; rw [h0, h', if_neg (by simp), if_pos rfl]; rfl
  | 2, _ =>
    have h0 : pl.formB 58 2 s = false := hn 0 (by omega)
    have h1 : pl.formB 45 2 s = false := hn 1 (by omega)
    have h' : pl.formB 46 4 s = true := h
    unfold pl.hw; rw [h0, h1, h', if_neg (by simp), if_neg (by simp), if_pos rfl]; rfl

theorem pl.hw_miss (s : List UInt8) (hn : ∀ j, j < 3 → pl.formB (pl.cF j) (pl.lF j) s = false) :
    pl.hw s = if (pl.hexes s).2 && (pl.hexes s).1.length == 6 then ((pl.hexes s).1, true, true) else ([], false, !(pl.hexes s).2 || ((pl.hexes s).1.length != 8 && (pl.hexes s).1.length != 20)) := by
  have h0 : pl.formB 58 2 s = false := hn 0 (by omega)
  have h1 : pl.formB 45 2 s = false := hn 1 (by omega)
  have h2 : pl.formB 46 4 s = false := hn 2 (by omega)
  unfold pl.hw; rw [h0, h1, h2, if_neg (by simp), if_neg (by simp), if_neg (by simp)]

end Go.Proofs.Ytabeklpllphiaaa
