/-
  BESIDE THE BASE, for the statements over resolv.conf: PlRes, Root, Set12, ResE.
-/
import Derived.Test.YtfkohahlpfejbaaDoorLn
import Derived.Test.YtfkohahlpfejbaaDoorArgs

/- PlRes: PLAIN: names with a point at the end; the suffixes of a machine's name. -/
namespace Go.Proofs.YtfkohahlpfejbaaDoor.pl

def rooted (l : List UInt8) : List UInt8 := if l.getLast? = some 46 then l else l ++ [46]

theorem rooted_nil (s : ByteArray) (h : s.size = 0) : (⟨(rooted s.data.toList).toArray⟩ : ByteArray) = s ++ ⟨#[46]⟩ := by
  apply ba_ext
  rw [nil_of s h]
  simp [rooted, ByteArray.data_append, nil_of s h]
theorem rooted_yes (s : ByteArray) (h : 1 ≤ s.size) (hk : ((s[s.size - 1].toNat : Int) == 46) = true) : (⟨(rooted s.data.toList).toArray⟩ : ByteArray) = s := by
  apply ba_ext
  have h1 := last_get s h
  have h2 : s[s.size - 1] = 46 := UInt8.toNat_inj.1 (by have := of_decide_eq_true hk; have e : (46 : UInt8).toNat = 46 := rfl; omega)
  unfold rooted
  rw [h1, h2, if_pos rfl]
theorem rooted_no (s : ByteArray) (h : 1 ≤ s.size) (hk : ((s[s.size - 1].toNat : Int) == 46) = false) : (⟨(rooted s.data.toList).toArray⟩ : ByteArray) = s ++ ⟨#[46]⟩ := by
  apply ba_ext
  have h1 := last_get s h
  have h2 : ¬ s[s.size - 1] = 46 := by
    intro e
    rw [e] at hk
    exact absurd hk (by decide)
  unfold rooted
  rw [h1, if_neg (by simpa using h2)]
  simp [ByteArray.data_append]

/-- what follows the first point of the machine's name -/
def defS (l : List UInt8) : List (List UInt8) := if (cutS l 46).2.1 = [] then [] else [rooted (cutS l 46).2.1]

theorem cutS_neg (l : List UInt8) (h : idx l 46 < 0) : (cutS l 46).2.1 = [] := by
  unfold cutS
  rw [if_pos h]
theorem cutS_pos (l : List UInt8) (h : 0 ≤ idx l 46) : (cutS l 46).2.1 = l.drop (idx l 46 + 1).toNat := by
  unfold cutS
  rw [if_neg (by omega)]
theorem defS_neg (l : List UInt8) (h : idx l 46 < 0) : defS l = [] := by
  rw [defS, if_pos (cutS_neg l h)]
theorem defS_end (l : List UInt8) (h : 0 ≤ idx l 46) (h2 : (l.length : Int) - 1 ≤ idx l 46) : defS l = [] := by
  rw [defS, if_pos]
  rw [cutS_pos l h]
  exact List.drop_eq_nil_of_le (by omega)
theorem defS_mid (l : List UInt8) (h : 0 ≤ idx l 46) (h2 : idx l 46 < (l.length : Int) - 1) : defS l = [rooted (l.drop (idx l 46 + 1).toNat)] := by
  rw [defS, if_neg]
  · rw [cutS_pos l h]
  · rw [cutS_pos l h]
    intro e
    have := congrArg List.length e
    rw [List.length_drop] at this
    simp at this
    omega

end Go.Proofs.YtfkohahlpfejbaaDoor.pl

/- Root: WALKS: ensureRooted, Rooted, dnsDefaultSearch. -/
namespace Go.Proofs.YtfkohahlpfejbaaDoor
open Go.RowKit

set_option maxHeartbeats 400000 in
theorem root_any (s : ByteArray) (w : World) (hs : s.size ≤ 17592186044416) :
    Calls Tryd.prog 89 #[.string s] w fun e w' => e = .returned (.string ⟨(pl.rooted s.data.toList).toArray⟩) ∧ w = w' := by
  by_cases h0 : s.size = 0
  · rw [pl.rooted_nil s h0]
    go_enter Tryd.func89, Tryd.ntmps89
    go_wp2_with fail
    go_ret
    exact ⟨rfl, rfl⟩
  · have h1 : 1 ≤ s.size := by omega
    rcases hl : ((s[s.size - 1].toNat : Int) == 46) with _ | _
    · rw [pl.rooted_no s h1 hl]
      have h0' : 0 < s.size := by omega
      clear h0
      go_enter Tryd.func89, Tryd.ntmps89
      go_wp2_with fail
      go_ret
      exact ⟨rfl, rfl⟩
    · rw [pl.rooted_yes s h1 hl]
      have h0' : 0 < s.size := by omega
      clear h0
      go_enter Tryd.func89, Tryd.ntmps89
      go_wp2_with fail
      go_ret
      exact ⟨rfl, rfl⟩

set_option maxHeartbeats 400000 in
theorem root_sp (s : ByteArray) (w : World) (hs : s.size ≤ 17592186044416) :
    Calls Tryd.prog 51 #[.string s] w fun e w' => e = .returned (.string ⟨(pl.rooted s.data.toList).toArray⟩) ∧ w = w' := by
  by_cases h0 : s.size = 0
  · have he := pl.emp_of s h0
    rw [pl.rooted_nil s h0]
    go_enter Tryd.func51, Tryd.ntmps51
    go_wp2_with fail
    go_ret
    exact ⟨rfl, rfl⟩
  · have h1 : 1 ≤ s.size := by omega
    have he := pl.ne_empty s h0
    rcases hl : ((s[s.size - 1].toNat : Int) == 46) with _ | _
    · rw [pl.rooted_no s h1 hl]
      have h0' : 0 < s.size := by omega
      clear h0
      go_enter Tryd.func51, Tryd.ntmps51
      go_wp2_with fail
      go_ret
      exact ⟨rfl, rfl⟩
    · rw [pl.rooted_yes s h1 hl]
      have h0' : 0 < s.size := by omega
      clear h0
      go_enter Tryd.func51, Tryd.ntmps51
      go_wp2_with fail
      go_ret
      exact ⟨rfl, rfl⟩

theorem strs_one (wr : World) (B : Nat) (p : List UInt8) (hB : B ≤ wr.heap.size) : Strs (wr.alloc (.cells #[pl.strV p] 9)) B (.slice (some ⟨wr.heap.size, 0, none⟩) 1 1) [p] :=
  by
  have h : StrBlk (wr.alloc (.cells #[pl.strV p] 9)) wr.heap.size 1 [p] := ⟨#[pl.strV p], by show (wr.heap.push _)[wr.heap.size]? = _; simp, rfl, rfl⟩
  exact h.strs B hB (by unfold maxLen; omega) (by simp)

set_option maxHeartbeats 1000000 in
theorem dds_any (s : ByteArray) (w : World) (hs : s.size ≤ 17592186044416) :
    Calls Tryd.prog 92 #[.string s] w fun e w' => ∃ v, e = .returned v ∧ Strs w' w.heap.size v (pl.defS s.data.toList) ∧ Below w.heap.size w w' := by
  have hl : s.data.toList.length = s.size := by simp
  by_cases h0 : pl.idx s.data.toList 46 < 0
  · have E := Lib.hid (pl.defS_neg _ h0)
    go_enter Tryd.func92, Tryd.ntmps92
    go_wp2_with (go_at_call 82; refine (idx_any _ _ _ (by unfold maxLen; omega)).mono ?_; rintro e w' ⟨rfl, rfl⟩)
    go_ret
    exact ⟨_, rfl, by rw [E.out]; exact Strs.nil _ _, Below.refl _ _⟩
  · obtain ⟨k, hk⟩ : ∃ k : Nat, pl.idx s.data.toList 46 = k := ⟨(pl.idx s.data.toList 46).toNat, by omega⟩
    by_cases h1 : (s.size : Int) - 1 ≤ k
    · have E := Lib.hid (pl.defS_end s.data.toList (by omega) (by rw [hl]; omega))
      have HK := Lib.hid hk
      clear hl hk h0
      go_enter Tryd.func92, Tryd.ntmps92
      go_wp2_with (go_at_call 82; refine (idx_val' s 46 k _ HK.out hs).mono ?_; rintro e w' ⟨rfl, rfl⟩)
      go_ret
      exact ⟨_, rfl, by rw [E.out]; exact Strs.nil _ _, Below.refl _ _⟩
    · have E := Lib.hid (pl.defS_mid s.data.toList (by omega) (by rw [hl]; omega))
      have HK := Lib.hid hk
      have hkl : k + 1 < s.size := by omega
      clear hl hk h0
      go_enter Tryd.func92, Tryd.ntmps92
      go_wp2_with (first | (go_at_call 82; refine (idx_val' s 46 k _ HK.out hs).mono ?_; rintro e w' ⟨rfl, rfl⟩) | (go_at_call 89; refine (root_any _ _ (by simp; omega)).mono ?_; rintro e w' ⟨rfl, rfl⟩))
      go_ret
      have hd : List.take (s.size - (k + 1)) (List.drop (k + 1) s.data.toList) = s.data.toList.drop (pl.idx s.data.toList 46 + 1).toNat := by
        rw [HK.out, show ((k : Int) + 1).toNat = k + 1 by omega]
        exact List.take_of_length_le (by simp)
      rw [E.out, ← hd]
      exact ⟨_, rfl, strs_one w _ _ (Nat.le_refl _), (Below.refl _ _).alloc (Nat.le_refl _) _⟩

end Go.Proofs.YtfkohahlpfejbaaDoor

/- Set12: WORDS FOR MEMORY: a struct of twelve cells is stored as a whole. -/
namespace Go.Proofs.YtfkohahlpfejbaaDoor
open Go.RowKit

theorem set12 {V : World} {g : Nat} {ty : TypeId} {x0 x1 x2 x3 x4 x5 x6 x7 x8 x9 x10 x11 y0 y1 y2 y3 y4 y5 y6 y7 y8 y9 y10 y11 : Value} (h : Blk V g #[y0, y1, y2, y3, y4, y5, y6, y7, y8, y9, y10, y11] ty) :
    Blk ((((((((((((V.setCell ⟨g, 0, none⟩ x0).setCell ⟨g, 1, none⟩ x1).setCell ⟨g, 2, none⟩ x2).setCell ⟨g, 3, none⟩ x3).setCell ⟨g, 4, none⟩ x4).setCell ⟨g, 5, none⟩ x5).setCell ⟨g, 6, none⟩ x6).setCell ⟨g, 7, none⟩ x7).setCell ⟨g, 8, none⟩ x8).setCell ⟨g, 9, none⟩ x9).setCell ⟨g, 10, none⟩ x10).setCell ⟨g, 11, none⟩ x11) g #[x0, x1, x2, x3, x4, x5, x6, x7, x8, x9, x10, x11] ty ∧ (∀ B w0, Below B w0 V → B ≤ g → Below B w0 ((((((((((((V.setCell ⟨g, 0, none⟩ x0).setCell ⟨g, 1, none⟩ x1).setCell ⟨g, 2, none⟩ x2).setCell ⟨g, 3, none⟩ x3).setCell ⟨g, 4, none⟩ x4).setCell ⟨g, 5, none⟩ x5).setCell ⟨g, 6, none⟩ x6).setCell ⟨g, 7, none⟩ x7).setCell ⟨g, 8, none⟩ x8).setCell ⟨g, 9, none⟩ x9).setCell ⟨g, 10, none⟩ x10).setCell ⟨g, 11, none⟩ x11)) ∧ (∀ B v l, Strs V B v l → g < B → Strs ((((((((((((V.setCell ⟨g, 0, none⟩ x0).setCell ⟨g, 1, none⟩ x1).setCell ⟨g, 2, none⟩ x2).setCell ⟨g, 3, none⟩ x3).setCell ⟨g, 4, none⟩ x4).setCell ⟨g, 5, none⟩ x5).setCell ⟨g, 6, none⟩ x6).setCell ⟨g, 7, none⟩ x7).setCell ⟨g, 8, none⟩ x8).setCell ⟨g, 9, none⟩ x9).setCell ⟨g, 10, none⟩ x10).setCell ⟨g, 11, none⟩ x11) B v l) := by
  have h1 : Blk (V.setCell ⟨g, 0, none⟩ x0) g #[x0, y1, y2, y3, y4, y5, y6, y7, y8, y9, y10, y11] ty := h.set 0 x0
  have h2 : Blk ((V.setCell ⟨g, 0, none⟩ x0).setCell ⟨g, 1, none⟩ x1) g #[x0, x1, y2, y3, y4, y5, y6, y7, y8, y9, y10, y11] ty := h1.set 1 x1
  have h3 : Blk (((V.setCell ⟨g, 0, none⟩ x0).setCell ⟨g, 1, none⟩ x1).setCell ⟨g, 2, none⟩ x2) g #[x0, x1, x2, y3, y4, y5, y6, y7, y8, y9, y10, y11] ty := h2.set 2 x2
  have h4 : Blk ((((V.setCell ⟨g, 0, none⟩ x0).setCell ⟨g, 1, none⟩ x1).setCell ⟨g, 2, none⟩ x2).setCell ⟨g, 3, none⟩ x3) g #[x0, x1, x2, x3, y4, y5, y6, y7, y8, y9, y10, y11] ty := h3.set 3 x3
  have h5 : Blk (((((V.setCell ⟨g, 0, none⟩ x0).setCell ⟨g, 1, none⟩ x1).setCell ⟨g, 2, none⟩ x2).setCell ⟨g, 3, none⟩ x3).setCell ⟨g, 4, none⟩ x4) g #[x0, x1, x2, x3, x4, y5, y6, y7, y8, y9, y10, y11] ty := h4.set 4 x4
  have h6 : Blk ((((((V.setCell ⟨g, 0, none⟩ x0).setCell ⟨g, 1, none⟩ x1).setCell ⟨g, 2, none⟩ x2).setCell ⟨g, 3, none⟩ x3).setCell ⟨g, 4, none⟩ x4).setCell ⟨g, 5, none⟩ x5) g #[x0, x1, x2, x3, x4, x5, y6, y7, y8, y9, y10, y11] ty := h5.set 5 x5
  have h7 : Blk (((((((V.setCell ⟨g, 0, none⟩ x0).setCell ⟨g, 1, none⟩ x1).setCell ⟨g, 2, none⟩ x2).setCell ⟨g, 3, none⟩ x3).setCell ⟨g, 4, none⟩ x4).setCell ⟨g, 5, none⟩ x5).setCell ⟨g, 6, none⟩ x6) g #[x0, x1, x2, x3, x4, x5, x6, y7, y8, y9, y10, y11] ty := h6.set 6 x6
  have h8 : Blk ((((((((V.setCell ⟨g, 0, none⟩ x0).setCell ⟨g, 1, none⟩ x1).setCell ⟨g, 2, none⟩ x2).setCell ⟨g, 3, none⟩ x3).setCell ⟨g, 4, none⟩ x4).setCell ⟨g, 5, none⟩ x5).setCell ⟨g, 6, none⟩ x6).setCell ⟨g, 7, none⟩ x7) g #[x0, x1, x2, x3, x4, x5, x6, x7, y8, y9, y10, y11] ty := h7.set 7 x7
  have h9 : Blk (((((((((V.setCell ⟨g, 0, none⟩ x0).setCell ⟨g, 1, none⟩ x1).setCell ⟨g, 2, none⟩ x2).setCell ⟨g, 3, none⟩ x3).setCell ⟨g, 4, none⟩ x4).setCell ⟨g, 5, none⟩ x5).setCell ⟨g, 6, none⟩ x6).setCell ⟨g, 7, none⟩ x7).setCell ⟨g, 8, none⟩ x8) g #[x0, x1, x2, x3, x4, x5, x6, x7, x8, y9, y10, y11] ty := h8.set 8 x8
  have h10 : Blk ((((((((((V.setCell ⟨g, 0, none⟩ x0).setCell ⟨g, 1, none⟩ x1).setCell ⟨g, 2, none⟩ x2).setCell ⟨g, 3, none⟩ x3).setCell ⟨g, 4, none⟩ x4).setCell ⟨g, 5, none⟩ x5).setCell ⟨g, 6, none⟩ x6).setCell ⟨g, 7, none⟩ x7).setCell ⟨g, 8, none⟩ x8).setCell ⟨g, 9, none⟩ x9) g #[x0, x1, x2, x3, x4, x5, x6, x7, x8, x9, y10, y11] ty := h9.set 9 x9
  have h11 : Blk (((((((((((V.setCell ⟨g, 0, none⟩ x0).setCell ⟨g, 1, none⟩ x1).setCell ⟨g, 2, none⟩ x2).setCell ⟨g, 3, none⟩ x3).setCell ⟨g, 4, none⟩ x4).setCell ⟨g, 5, none⟩ x5).setCell ⟨g, 6, none⟩ x6).setCell ⟨g, 7, none⟩ x7).setCell ⟨g, 8, none⟩ x8).setCell ⟨g, 9, none⟩ x9).setCell ⟨g, 10, none⟩ x10) g #[x0, x1, x2, x3, x4, x5, x6, x7, x8, x9, x10, y11] ty := h10.set 10 x10
  have h12 : Blk ((((((((((((V.setCell ⟨g, 0, none⟩ x0).setCell ⟨g, 1, none⟩ x1).setCell ⟨g, 2, none⟩ x2).setCell ⟨g, 3, none⟩ x3).setCell ⟨g, 4, none⟩ x4).setCell ⟨g, 5, none⟩ x5).setCell ⟨g, 6, none⟩ x6).setCell ⟨g, 7, none⟩ x7).setCell ⟨g, 8, none⟩ x8).setCell ⟨g, 9, none⟩ x9).setCell ⟨g, 10, none⟩ x10).setCell ⟨g, 11, none⟩ x11) g #[x0, x1, x2, x3, x4, x5, x6, x7, x8, x9, x10, x11] ty := h11.set 11 x11
  refine ⟨h12, ?_, ?_⟩
  · intro B w0 hb hg
    have b1 := hb.setCell (p := ⟨g, 0, none⟩) hg x0
    have b2 := b1.setCell (p := ⟨g, 1, none⟩) hg x1
    have b3 := b2.setCell (p := ⟨g, 2, none⟩) hg x2
    have b4 := b3.setCell (p := ⟨g, 3, none⟩) hg x3
    have b5 := b4.setCell (p := ⟨g, 4, none⟩) hg x4
    have b6 := b5.setCell (p := ⟨g, 5, none⟩) hg x5
    have b7 := b6.setCell (p := ⟨g, 6, none⟩) hg x6
    have b8 := b7.setCell (p := ⟨g, 7, none⟩) hg x7
    have b9 := b8.setCell (p := ⟨g, 8, none⟩) hg x8
    have b10 := b9.setCell (p := ⟨g, 9, none⟩) hg x9
    have b11 := b10.setCell (p := ⟨g, 10, none⟩) hg x10
    have b12 := b11.setCell (p := ⟨g, 11, none⟩) hg x11
    exact b12
  · intro B v l hs hg
    have s1 := hs.far g 0 x0 hg
    have s2 := s1.far g 1 x1 hg
    have s3 := s2.far g 2 x2 hg
    have s4 := s3.far g 3 x3 hg
    have s5 := s4.far g 4 x4 hg
    have s6 := s5.far g 5 x5 hg
    have s7 := s6.far g 6 x6 hg
    have s8 := s7.far g 7 x7 hg
    have s9 := s8.far g 8 x8 hg
    have s10 := s9.far g 9 x9 hg
    have s11 := s10.far g 10 x10 hg
    have s12 := s11.far g 11 x11 hg
    exact s12

end Go.Proofs.YtfkohahlpfejbaaDoor

/- ResE: WALKS: the reading of an empty resolv.conf. -/
namespace Go.Proofs.YtfkohahlpfejbaaDoor
open Go.RowKit

theorem strs_two (wr : World) (B : Nat) (p q : List UInt8) (hB : B ≤ wr.heap.size) : Strs (wr.alloc (.cells #[pl.strV p, pl.strV q] 9)) B (.slice (some ⟨wr.heap.size, 0, none⟩) 2 2) [p, q] := by
  have h : StrBlk (wr.alloc (.cells #[pl.strV p, pl.strV q] 9)) wr.heap.size 2 [p, q] := ⟨#[pl.strV p, pl.strV q], by show (wr.heap.push _)[wr.heap.size]? = _; simp, rfl, rfl⟩
  exact h.strs B hB (by unfold maxLen; omega) (by simp)

def pl.ns1 : List UInt8 := [49, 50, 55, 46, 48, 46, 48, 46, 49, 58, 53, 51]
def pl.ns2 : List UInt8 := [91, 58, 58, 49, 93, 58, 53, 51]

theorem dns_any (w : World) : Calls Tryd.prog 91 #[] w fun e w' => ∃ v, e = .returned v ∧ Strs w' w.heap.size v [pl.ns1, pl.ns2] ∧ Below w.heap.size w w' := by
  go_enter Tryd.func91, Tryd.ntmps91
  go_wp2_with fail
  go_ret
  exact ⟨_, rfl, strs_two w _ pl.ns1 pl.ns2 (Nat.le_refl _), (Below.refl _ _).alloc (Nat.le_refl _) _⟩

end Go.Proofs.YtfkohahlpfejbaaDoor
