/-
  WALKS: countAnyByte, splitAtBytes, getFields.
-/
import Derived.Test.YtabeklpllphiaaaIdx
import Derived.Test.YtabeklpllphiaaaMem
import Derived.Test.YtabeklpllphiaaaPlWords
namespace Go.Proofs.Ytabeklpllphiaaa
open Go.RowKit

theorem idx_val' (s : ByteArray) (c : Int) (i : Int) (w : World) (h : pl.idx s.data.toList c = i) (hs : s.size ≤ 17592186044416) :
    Calls Try.prog 46 #[.string s, .int .u8 c] w fun e w' => e = .returned (.int .i64 i) ∧ w = w' := by
  rw [← h]; exact idx_any s c w (by unfold maxLen; omega)

/-- is the byte one of the text's? -/
def sepB (t : ByteArray) (b : UInt8) : Bool := t.data.toList.contains b

theorem sep_idx (t : ByteArray) (b : UInt8) : sepB t b = true ↔ 0 ≤ pl.idx t.data.toList b.toNat := by
  rw [pl.idx_ge, sepB, List.contains_iff_mem]

set_option maxHeartbeats 1000000 in
theorem count_any (s t : ByteArray) (w : World) (hs : s.size ≤ 17592186044416) (ht : t.size ≤ 17592186044416) :
    Calls Try.prog 61 #[.string s, .string t] w fun e w' => e = .returned (.int .i64 (pl.cnt (sepB t) s.data.toList)) ∧ w = w' := by
  have hl : s.data.toList.length = s.size := by simp
  go_enter Try.func61, Try.ntmps61
  go_wp2_with fail
  go_loop [5, 6] (fun n i => ∃ k c : Nat, k ≤ s.size ∧ c ≤ k ∧ i = .int .i64 k ∧ n = .int .i64 c ∧ Hid (c = pl.cnt (sepB t) (s.data.toList.take k))) (fun _ i => s.size - (intOf i).toNat)
  case atStart => exact ⟨0, 0, Nat.zero_le _, Nat.le_refl _, rfl, rfl, Lib.hid rfl⟩
  case round =>
    obtain ⟨k, c, hk, hc, rfl, rfl, HC⟩ := hrel
    by_cases hlt : k < s.size
    · obtain ⟨x, hx⟩ : ∃ x, s[k] = x := ⟨_, rfl⟩
      have HS := Lib.hid (pl.cnt_succ (sepB t) s k hlt)
      rw [hx] at HS
      obtain ⟨q, hq⟩ : ∃ q, pl.idx t.data.toList x.toNat = q := ⟨_, rfl⟩
      have hsi := sep_idx t x
      rw [hq] at hsi
      have HQ := Lib.hid hq
      clear hq
      rcases hb : sepB t x with _ | _
      · have hq0 : ¬ 0 ≤ q := fun h => by rw [hsi.2 h] at hb; cases hb
        rw [hb] at HS
        clear hsi hb
        go_wp2_with (go_at_call 46; refine (idx_val' t x.toNat q _ HQ.out ht).mono ?_; rintro e w' ⟨rfl, rfl⟩)
        go_round
        case rel => exact ⟨k + 1, c, by omega, by omega, by go_num, rfl, Lib.hid (by rw [HS.out, ← HC.out]; simp)⟩
        case measure => simp [intOf]; omega
      · have hq0 : 0 ≤ q := hsi.1 hb
        rw [hb] at HS
        clear hsi hb
        go_wp2_with (go_at_call 46; refine (idx_val' t x.toNat q _ HQ.out ht).mono ?_; rintro e w' ⟨rfl, rfl⟩)
        go_round
        case rel => exact ⟨k + 1, c + 1, by omega, by omega, by go_num, by go_num, Lib.hid (by rw [HS.out, ← HC.out]; simp)⟩
        case measure => simp [intOf]; omega
    · rw [pl.take_all s k (by omega)] at HC
      go_wp2_with fail
      go_ret
      exact ⟨ret_int (by rw [HC.out]), rfl⟩

/-- Block g is a row of strings: so many cells, the first ones known. -/
def StrBlk (w : World) (g cap : Nat) (l : List (List UInt8)) : Prop :=
  ∃ cur : Array Value, w.heap[g]? = some (.cells cur 9 (0, 0)) ∧ cur.size = cap ∧ cur.toList.take l.length = l.map pl.strV

theorem StrBlk.cell {w : World} {g cap : Nat} {l : List (List UInt8)} (h : StrBlk w g cap l) (j : Nat) (hj : j < cap) : ∃ v, w.cell? ⟨g, j, none⟩ = some v := by
  obtain ⟨cur, hh, hs, _⟩ := h
  exact ⟨cur[j], by simp [World.cell?, hh, hs, hj]⟩
theorem StrBlk.frozen {w : World} {g cap : Nat} {l : List (List UInt8)} (h : StrBlk w g cap l) (j : Nat) : w.frozen? ⟨g, j, none⟩ = false := by
  obtain ⟨cur, hh, _, _⟩ := h
  simp [World.frozen?, hh]
theorem StrBlk.put {w : World} {g cap : Nat} {l : List (List UInt8)} (h : StrBlk w g cap l) (hj : l.length < cap) (p : List UInt8) : StrBlk (w.setCell ⟨g, l.length, none⟩ (pl.strV p)) g cap (l ++ [p]) := by
  obtain ⟨cur, hh, hs, ht⟩ := h
  refine ⟨cur.setIfInBounds l.length (pl.strV p), ?_, by simpa using hs, ?_⟩
  · simp [World.setCell, Array.getElem?_modify, hh]
  · rw [List.length_append, List.length_singleton, List.map_append, ← ht, Array.toList_setIfInBounds, List.take_succ_eq_append_getElem (by simp; omega), List.take_set, List.set_eq_of_length_le (by simp; omega)]
    simp
theorem StrBlk.strs {w : World} {g cap : Nat} {l : List (List UInt8)} (h : StrBlk w g cap l) (B : Nat) (hB : B ≤ g) (hc : cap ≤ maxLen) (hl : l.length ≤ cap) : Strs w B (.slice (some ⟨g, 0, none⟩) l.length cap) l := by
  obtain ⟨cur, hh, hs, ht⟩ := h
  exact ⟨by simp, Or.inr ⟨g, cap, cur, rfl, hB, hh, hl, hc, by omega, by rw [Nat.mul_one]; exact ht⟩⟩

set_option maxRecDepth 100000 in
set_option maxHeartbeats 1000000 in
theorem split_at (s t : ByteArray) (w : World) (hs : s.size ≤ 4398046511104) (ht : t.size ≤ 17592186044416) :
    Calls Try.prog 55 #[.string s, .string t] w fun e w' => ∃ v, e = .returned v ∧ Strs w' w.heap.size v (pl.words (sepB t) s.data.toList) ∧ Below w.heap.size w w' := by
  have hl : s.data.toList.length = s.size := by simp
  obtain ⟨i0, hi, hz0, hz1, hz2⟩ := info_parts infoStr
  obtain ⟨N, hN⟩ : ∃ N, pl.cnt (sepB t) s.data.toList = N := ⟨_, rfl⟩
  have hNs : N ≤ s.size := by rw [← hN, ← hl]; exact pl.cnt_le _ _
  have HN := Lib.hid hN
  clear hN
  go_enter Try.func55, Try.ntmps55
  go_wp2_with (first | (go_at_call 61; refine (count_any _ _ _ (by omega) ht).mono ?_; rintro e w' ⟨rfl, rfl⟩; rw [HN.out]) | (at_make; (refine wpList_make_full _ rfl _ _ 59 rfl w.heap.size 9 i0 (.string ⟨#[]⟩) 1 Try.underlying59 hi hz0 hz1 _ _ _ _ (N + 1) rfl rfl (by omega) (by omega) (by rw [hz2]; omega) (by unfold maxLen; omega) (Nat.le_refl _) ?_)))
  intro w1 hown1 hg1
  have hb1 : Below w.heap.size w w1 := (Below.refl _ _).grown hg1 (Nat.le_refl _) (fun k hk => by cases hk)
  have hblk : StrBlk w1 w.heap.size (N + 1) [] := by
    rcases hown1.2 with ⟨h, _⟩ | ⟨g, cap, cur, hv, _, hh, _, _, hs, _⟩
    · cases h
    · injection hv with hv1 hv2 hv3
      injection hv1 with hv1
      injection hv1 with hv1
      exact ⟨cur, by rw [hv1]; exact hh, by omega, by simp⟩
  clear hown1 hg1
  go_wp2_with fail
  go_loopw [6, 7, 8] (fun n la i wr => ∃ k f c : Nat, k ≤ s.size ∧ f ≤ k ∧ c ≤ N ∧ i = .int .i64 k ∧ la = .int .i64 f ∧ n = .int .i64 c ∧ Hid (c = (pl.runW (sepB t) (s.data.toList.take k)).1.length) ∧
      Hid ((pl.runW (sepB t) (s.data.toList.take k)).2 = (s.data.toList.take k).drop f) ∧ StrBlk wr w.heap.size (N + 1) (pl.runW (sepB t) (s.data.toList.take k)).1 ∧ Below w.heap.size w wr) (fun _ _ i _ => s.size - (intOf i).toNat)
  case atStart => exact ⟨0, 0, 0, Nat.zero_le _, Nat.le_refl _, Nat.zero_le _, rfl, rfl, rfl, Lib.hid rfl, Lib.hid rfl, hblk, hb1⟩
  case round =>
    obtain ⟨k, f, c, hk, hf, hc, rfl, rfl, rfl, HC, HCur, hblk, hb⟩ := hrel
    by_cases hlt : k < s.size
    · obtain ⟨x, hx⟩ : ∃ x, s[k] = x := ⟨_, rfl⟩
      have HS := pl.runW_succ (sepB t) s k hlt
      rw [hx, pl.stepW] at HS
      obtain ⟨q, hq⟩ : ∃ q, pl.idx t.data.toList x.toNat = q := ⟨_, rfl⟩
      have hsi := sep_idx t x
      rw [hq] at hsi
      have HQ := Lib.hid hq
      clear hq
      rcases hbx : sepB t x with _ | _
      · have hq0 : ¬ 0 ≤ q := fun h => by rw [hsi.2 h] at hbx; cases hbx
        rw [if_neg (by rw [hbx]; simp), HCur.out] at HS
        have HS2 := Lib.hid HS
        clear hsi hbx HS
        go_wp2_with (go_at_call 46; refine (idx_val' t x.toNat q _ HQ.out ht).mono ?_; rintro e w' ⟨rfl, rfl⟩)
        go_roundw
        case rel => exact ⟨k + 1, f, c, by omega, by omega, by omega, by go_num, rfl, rfl, Lib.hid (by rw [HS2.out, HC.out]), Lib.hid (by rw [HS2.out, pl.take_drop_succ s f k hf hlt, hx]), by rw [HS2.out]; exact hblk, hb⟩
        case measure => simp [intOf]; omega
      · have hq0 : 0 ≤ q := hsi.1 hbx
        rw [if_pos hbx, HCur.out] at HS
        have hcnt := pl.cnt_succ (sepB t) s k hlt
        rw [hx, hbx] at hcnt
        have hc1 := pl.runW_cnt (sepB t) (s.data.toList.take k)
        have hc2 := pl.cnt_take (sepB t) s.data.toList (k + 1)
        rw [HN.out, hcnt] at hc2
        rw [← HC.out] at hc1
        simp at hc2
        have hcN : c + 1 ≤ N := by omega
        clear hsi hbx hcnt hc1 hc2
        by_cases hfk : f = k
        · rw [if_pos ((pl.cut_nil s f k hf hk).2 hfk)] at HS
          have HS2 := Lib.hid HS
          have hnn : ¬ (f : Int) < (k : Int) := by omega
          clear HS
          go_wp2_with (go_at_call 46; refine (idx_val' t x.toNat q _ HQ.out ht).mono ?_; rintro e w' ⟨rfl, rfl⟩)
          go_roundw
          case rel => exact ⟨k + 1, k + 1, c, by omega, Nat.le_refl _, by omega, by go_num, by go_num, rfl, Lib.hid (by rw [HS2.out, HC.out]), Lib.hid (by rw [HS2.out]; simp), by rw [HS2.out]; exact hblk, hb⟩
          case measure => simp [intOf]; omega
        · rw [if_neg (fun h => hfk ((pl.cut_nil s f k hf hk).1 h))] at HS
          have HS2 := Lib.hid HS
          have hnn : (f : Int) < (k : Int) := by omega
          clear HS
          obtain ⟨old, hcell⟩ := hblk.cell c (by omega)
          have hfr := hblk.frozen c
          have hput := hblk.put (by rw [← HC.out]; omega) ((s.data.toList.take k).drop f)
          rw [← HC.out, ← pl.extract_strV] at hput
          have HP := Lib.hid hput
          have HB := Lib.hid hblk
          clear hput hblk
          go_wp2_with (go_at_call 46; refine (idx_val' t x.toNat q _ HQ.out ht).mono ?_; rintro e w' ⟨rfl, rfl⟩)
          go_roundw
          case rel => exact ⟨k + 1, k + 1, c + 1, by omega, Nat.le_refl _, by omega, by go_num, by go_num, by go_num, Lib.hid (by rw [HS2.out, HC.out]; simp), Lib.hid (by rw [HS2.out]; simp), by rw [HS2.out]; exact HP.out, hb.setCell (Nat.le_refl _) _⟩
          case measure => simp [intOf]; omega
    · rw [pl.take_all s k (by omega)] at HC HCur hblk
      have hW : pl.words (sepB t) s.data.toList = pl.flush (pl.runW (sepB t) s.data.toList) := rfl
      unfold pl.flush at hW
      have hnil := pl.cut_nil s f k hf (by omega)
      rw [pl.take_all s k (by omega)] at hnil
      by_cases hfk : f = k
      · rw [HCur.out, if_pos (hnil.2 hfk)] at hW
        have HW := Lib.hid hW
        have hnn : ¬ (f : Int) < (s.size : Int) := by omega
        have hs2 := hblk.strs w.heap.size (Nat.le_refl _) (by unfold maxLen; omega) (by rw [← HC.out]; omega)
        rw [← HC.out] at hs2
        clear hW hnil hblk
        go_wp2_with fail
        go_ret
        exact ⟨_, rfl, by rw [HW.out]; exact hs2, hb⟩
      · rw [HCur.out, if_neg (fun h => hfk (hnil.1 h))] at hW
        have HW := Lib.hid hW
        have hnn : (f : Int) < (s.size : Int) := by omega
        obtain ⟨old, hcell⟩ := hblk.cell c (by omega)
        have hfr := hblk.frozen c
        have hput := hblk.put (by rw [← HC.out]; omega) (s.data.toList.drop f)
        have he : Value.string (s.extract f s.size) = pl.strV (s.data.toList.drop f) := by rw [pl.extract_strV, ← hl, List.take_length]
        rw [← HC.out, ← he] at hput
        have hs2 := hput.strs w.heap.size (Nat.le_refl _) (by unfold maxLen; omega) (by rw [List.length_append, ← HC.out, List.length_singleton]; omega)
        rw [List.length_append, ← HC.out, List.length_singleton] at hs2
        have HS2 := Lib.hid hs2
        clear hW hnil hblk hput he hs2
        go_wp2_with fail
        go_ret
        exact ⟨_, rfl, by rw [HW.out]; exact HS2.out, hb.setCell (Nat.le_refl _) _⟩

theorem fields_any (s : ByteArray) (w : World) (hs : s.size ≤ 4398046511104) :
    Calls Try.prog 48 #[.string s] w fun e w' => ∃ v, e = .returned v ∧ Strs w' w.heap.size v (pl.words pl.ws s.data.toList) ∧ Below w.heap.size w w' := by
  go_enter Try.func48, Try.ntmps48
  go_wp2_with (go_at_call 55; refine (split_at _ _ _ hs (by simp [ByteArray.size])).mono ?_; rintro e w' ⟨v, rfl, hS, hb⟩)
  go_ret
  exact ⟨_, rfl, hS, hb⟩

end Go.Proofs.Ytabeklpllphiaaa
