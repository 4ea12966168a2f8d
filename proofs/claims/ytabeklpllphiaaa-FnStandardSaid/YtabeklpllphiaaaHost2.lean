/-
  SplitHostPort as one contract; the thin package's; works.
-/
import Derived.Test.YtabeklpllphiaaaHost
namespace Go.Proofs.Ytabeklpllphiaaa
open Go.RowKit

theorem ret_hp {a b c d : ByteArray} {x y : Bool} (h1 : a = c) (h2 : b = d) (h3 : x = y) : Ending.returned (.tuple #[.string a, .string b, .bool x]) = .returned (.tuple #[.string c, .string d, .bool y]) := by rw [h1, h2, h3]

def HPRes (l : List UInt8) (w : World) (e : Ending) (w' : World) : Prop :=
  (pl.splitHP l = none ∧ ErrHP w e w') ∨ ∃ x, pl.splitHP l = some x ∧ OkHP ⟨x.1.toArray⟩ ⟨x.2.toArray⟩ w e w'

theorem shp_any (s : ByteArray) (w : World) (hs : s.size ≤ 17592186044416) :
    Calls Try.prog 36 #[.string s] w (HPRes s.data.toList w) := by
  have hl : s.data.toList.length = s.size := by simp
  have i1 := pl.lidx_lt s.data.toList 58
  by_cases h1 : pl.lidx s.data.toList 58 < 0
  · exact (shp_a s w hs h1).mono fun e w' h => Or.inl ⟨by unfold pl.splitHP; rw [if_pos h1], h⟩
  obtain ⟨i, hi⟩ : ∃ i : Nat, pl.lidx s.data.toList 58 = (i : Int) := ⟨(pl.lidx s.data.toList 58).toNat, by omega⟩
  have hil : i < s.size := by omega
  have hhd : s.data.toList.head? = some (s[0]'(by omega)) := by
    rw [List.head?_eq_getElem?]; exact pl.getElem_data s 0 (by omega)
  have HI := Lib.hid hi
  have q1 := pl.idx_lt s.data.toList 93
  have q2 := pl.idx_ge_neg s.data.toList 93
  rcases hbr : (((s[0]'(by omega)).toNat : Int) == 91) with _ | _
  · have hne : s.data.toList.head? ≠ some 91 := by
      rw [hhd]
      intro e
      injection e with e
      rw [e] at hbr
      exact absurd hbr (by decide)
    have E1 : (s.extract 0 i).data.toList = s.data.toList.take (pl.lidx s.data.toList 58).toNat := by
      rw [hi, pl.ext_take]; rfl
    by_cases k1 : 0 ≤ pl.idx (s.extract 0 i).data.toList 58
    · refine (shp_c1 s w hs i hil HI hbr _ (Lib.hid rfl) k1).mono fun e w' h => Or.inl ⟨?_, h⟩
      unfold pl.splitHP
      rw [if_neg h1, if_neg hne, if_pos (by rw [← E1]; exact k1)]
    by_cases k2 : 0 ≤ pl.idx s.data.toList 91
    · refine (shp_c2 s w hs i hil HI hbr _ (Lib.hid rfl) (by omega) _ (Lib.hid rfl) k2).mono fun e w' h => Or.inl ⟨?_, h⟩
      unfold pl.splitHP
      rw [if_neg h1, if_neg hne, if_neg (by rw [← E1]; exact k1), if_pos k2]
    by_cases k3 : 0 ≤ pl.idx s.data.toList 93
    · refine (shp_c3 s w hs i hil HI hbr _ (Lib.hid rfl) (by omega) _ (Lib.hid rfl) (by omega) _ (Lib.hid rfl) k3).mono fun e w' h => Or.inl ⟨?_, h⟩
      unfold pl.splitHP
      rw [if_neg h1, if_neg hne, if_neg (by rw [← E1]; exact k1), if_neg k2, if_pos k3]
    · refine (shp_c4 s w hs i hil HI hbr _ (Lib.hid rfl) (by omega) _ (Lib.hid rfl) (by omega) _ (Lib.hid rfl) (by omega)).mono fun e w' h => Or.inr ⟨(s.data.toList.take i, s.data.toList.drop (i + 1)), ?_, ?_⟩
      · unfold pl.splitHP
        rw [if_neg h1, if_neg hne, if_neg (by rw [← E1]; exact k1), if_neg k2, if_neg k3, hi]
        rfl
      · rw [pl.ext_take, pl.ext_drop] at h
        exact h
  · have he : s.data.toList.head? = some 91 := by
      rw [hhd]
      congr 1
      apply UInt8.toNat_inj.1
      rw [beq_iff_eq] at hbr
      have : (91 : UInt8).toNat = 91 := rfl
      omega
    by_cases k1 : pl.idx s.data.toList 93 < 0
    · refine (shp_b1 s w hs i hil HI hbr _ k1 (Lib.hid rfl)).mono fun e w' h => Or.inl ⟨?_, h⟩
      unfold pl.splitHP
      rw [if_neg h1, if_pos he, if_pos k1]
    obtain ⟨q, hq⟩ : ∃ q : Nat, pl.idx s.data.toList 93 = (q : Int) := ⟨(pl.idx s.data.toList 93).toNat, by omega⟩
    have HQ := Lib.hid hq
    by_cases k2 : q + 1 = s.size
    · refine (shp_b2 s w hs i hil HI hbr q HQ k2).mono fun e w' h => Or.inl ⟨?_, h⟩
      unfold pl.splitHP
      rw [if_neg h1, if_pos he, if_neg k1, if_pos (by omega)]
    by_cases k3 : q + 1 = i
    · have hqi : (((q : Int) + 1) == (i : Int)) = true := by rw [beq_iff_eq]; omega
      have E2 : (s.extract 1 s.size).data.toList = s.data.toList.drop 1 := by rw [pl.ext_drop]
      have E3 : (s.extract (q + 1) s.size).data.toList = s.data.toList.drop (pl.idx s.data.toList 93 + 1).toNat := by
        rw [hq, pl.ext_drop, show ((q : Int) + 1).toNat = q + 1 by omega]
      by_cases k4 : 0 ≤ pl.idx (s.extract 1 s.size).data.toList 91
      · refine (shp_b4 s w hs i hil HI hbr q HQ (by omega) hqi _ (Lib.hid rfl) k4).mono fun e w' h => Or.inl ⟨?_, h⟩
        unfold pl.splitHP
        rw [if_neg h1, if_pos he, if_neg k1, if_neg (by omega), if_neg (by omega), if_pos (by rw [← E2]; exact k4)]
      by_cases k5 : 0 ≤ pl.idx (s.extract (q + 1) s.size).data.toList 93
      · refine (shp_b5 s w hs i hil HI hbr q HQ (by omega) hqi _ (Lib.hid rfl) (by omega) _ (Lib.hid rfl) k5).mono fun e w' h => Or.inl ⟨?_, h⟩
        unfold pl.splitHP
        rw [if_neg h1, if_pos he, if_neg k1, if_neg (by omega), if_neg (by omega), if_neg (by rw [← E2]; exact k4), if_pos (by rw [← E3]; exact k5)]
      · refine (shp_b6 s w hs i hil HI hbr q HQ (by omega) hqi _ (Lib.hid rfl) (by omega) _ (Lib.hid rfl) (by omega)).mono fun e w' h => Or.inr ⟨((s.data.toList.take q).drop 1, s.data.toList.drop (i + 1)), ?_, ?_⟩
        · unfold pl.splitHP
          rw [if_neg h1, if_pos he, if_neg k1, if_neg (by omega), if_neg (by omega), if_neg (by rw [← E2]; exact k4), if_neg (by rw [← E3]; exact k5), hi, hq]
          rfl
        · rw [pl.ext_mid, pl.ext_drop] at h
          exact h
    · have hqi : (((q : Int) + 1) == (i : Int)) = false := by rw [beq_eq_false_iff_ne]; omega
      refine (shp_b3 s w hs i hil HI hbr q HQ (by omega) hqi).mono fun e w' h => Or.inl ⟨?_, h⟩
      unfold pl.splitHP
      rw [if_neg h1, if_pos he, if_neg k1, if_neg (by omega), if_pos (by omega)]

/-- what the thin package returns -/
def resHP (l : List UInt8) : List UInt8 × List UInt8 × Bool := match pl.splitHP l with | none => ([], [], false) | some x => (x.1, x.2, true)

set_option maxHeartbeats 400000 in
theorem shp_impl (s : ByteArray) (w : World) (hs : s.size ≤ 17592186044416) :
    Calls Try.prog 26 #[.string s] w fun e w' => e = .returned (.tuple #[.string ⟨(resHP s.data.toList).1.toArray⟩, .string ⟨(resHP s.data.toList).2.1.toArray⟩, .bool (resHP s.data.toList).2.2]) ∧ Below w.heap.size w w' := by
  go_enter Try.func26, Try.ntmps26
  go_wp2_with fail
  refine (shp_any s w hs).mono ?_
  rintro e w' (⟨hn, ad, rfl, hb⟩ | ⟨x, hx, rfl, rfl⟩)
  · have HE := Lib.hid (show resHP s.data.toList = ([], [], false) by unfold resHP; rw [hn])
    clear hn
    go_wp2
    go_quiet (fail)
    go_wp2
    go_ret3
    rw [HE.out]
    exact ⟨rfl, below_drewN hb _⟩
  · have HE := Lib.hid (show resHP s.data.toList = (x.1, x.2, true) by unfold resHP; rw [hx])
    clear hx
    go_wp2
    go_quiet (fail)
    go_wp2
    go_ret3
    rw [HE.out]
    exact ⟨rfl, below_drewN (Below.refl _ _) _⟩

theorem bel_d {w w' : World} {n : Nat} (h : Below (w.drewN n).heap.size (w.drewN n) w') : Below w.heap.size w w' :=
  (below_drewN (Below.refl _ _) n).trans (h.mono (by simp))

theorem works_any (w : World) :
    Calls Try.prog 12 #[] w fun e w' => e = .returned (.bool true) ∧ Below w.heap.size w w' := by
  have hc : resHP [97, 58, 49] = ([97], [49], true) := by decide
  go_enter Try.func12, Try.ntmps12
  go_wp2_with (go_at_call 26; refine (shp_impl _ _ (by simp [ByteArray.size])).mono ?_; rintro e w' ⟨rfl, hb⟩)
  go_ret
  exact ⟨rfl, hb⟩

end Go.Proofs.Ytabeklpllphiaaa
