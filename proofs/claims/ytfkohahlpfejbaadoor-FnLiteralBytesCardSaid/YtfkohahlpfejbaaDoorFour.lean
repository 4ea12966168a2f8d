/-
  WALK: the reference's four.
-/
import Derived.Test.YtfkohahlpfejbaaDoorPlIp
import Derived.Test.YtfkohahlpfejbaaDoorNum
import Derived.Test.YtfkohahlpfejbaaDoorSplit
import Derived.Test.YtfkohahlpfejbaaDoorByt
import Derived.Test.YtfkohahlpfejbaaDoorPlIsN
namespace Go.Proofs.YtfkohahlpfejbaaDoor
open Go.RowKit

/-- bytes and whether they are some: what a reader of the reference's returns -/
def BytRes (w w' : World) (e : Ending) (o : Option (List UInt8)) : Prop :=
  Below w.heap.size w w' ∧ ((∃ v l, o = some l ∧ e = .returned (.tuple #[v, .bool true]) ∧ Byts w' w.heap.size v l) ∨ (o = none ∧ ∃ a n c, e = .returned (.tuple #[.slice a n c, .bool false])))

theorem pl.four_ok (s l : List UInt8) (h : pl.octs (pl.split 46 s) = some l) (hl : l.length = 4) : pl.four s = some l := by unfold pl.four; rw [h]; exact if_pos hl
theorem pl.four_len (s l : List UInt8) (h : pl.octs (pl.split 46 s) = some l) (hl : l.length ≠ 4) : pl.four s = none := by unfold pl.four; rw [h]; exact if_neg hl
theorem pl.four_bad (s : List UInt8) (h : pl.octs (pl.split 46 s) = none) : pl.four s = none := by unfold pl.four; rw [h]

theorem pl.octs_at (ps : List (List UInt8)) (k : Nat) (p : List UInt8) (hk : ps[k]? = some p) (h : pl.oct p = none) : pl.octs ps = none := by
  have hlt : k < ps.length := (List.getElem?_eq_some_iff.1 hk).1
  have e : ps = ps.take k ++ p :: ps.drop (k + 1) := by
    have h1 := List.take_append_drop k ps
    have h2 : ps.drop k = p :: ps.drop (k + 1) := by
      rw [List.drop_eq_getElem_cons hlt]
      congr 1
      exact (List.getElem?_eq_some_iff.1 hk).2
    rw [h2] at h1
    exact h1.symm
  rw [e]
  exact pl.octs_bad _ _ p h

theorem pl.octs_next (ps : List (List UInt8)) (k : Nat) (p l : List UInt8) (b : UInt8) (hk : ps[k]? = some p) (h : pl.octs (ps.take k) = some l) (hb : pl.oct p = some b) : pl.octs (ps.take (k + 1)) = some (l ++ [b]) := by
  rw [List.take_add_one, hk]
  exact pl.octs_snoc _ p l b h hb

theorem pl.head_is (s : ByteArray) (h : 0 < s.size) (hh : s.data.toList.head? = some 48) : ((s[0].toNat : Int) == 48) = true := by
  have h1 := pl.getElem_data s 0 h
  rw [← List.head?_eq_getElem?, hh] at h1
  injection h1 with h1
  rw [← h1]
  rfl
theorem pl.head_not (s : ByteArray) (h : 0 < s.size) (hh : s.data.toList.head? ≠ some 48) : ((s[0].toNat : Int) == 48) = false := by
  have h1 := pl.getElem_data s 0 h
  rw [← List.head?_eq_getElem?] at h1
  rw [beq_eq_false_iff_ne]
  intro e
  apply hh
  rw [h1]
  congr 1
  exact UInt8.toNat_inj.1 (by have : (48 : UInt8).toNat = 48 := rfl; omega)

theorem dec_val (s : ByteArray) (n : Nat) (w : World) (hs : s.size ≤ 17592186044416) (h : pl.decimal s.data.toList = some n) :
    Calls Tryd.prog 53 #[.string s] w fun e w' => e = .returned (.tuple #[.int .i64 n, .bool true]) ∧ w = w' := by
  refine (dec_sp s w hs).mono fun e w' ⟨he, hw⟩ => ⟨?_, hw⟩
  rcases he with ⟨v, hv, he⟩ | ⟨hn, _⟩
  · rw [h] at hv
    injection hv with hv
    rw [he, hv]
  · rw [h] at hn
    cases hn

theorem dec_no (s : ByteArray) (w : World) (hs : s.size ≤ 17592186044416) (h : pl.decimal s.data.toList = none) :
    Calls Tryd.prog 53 #[.string s] w fun e w' => (∃ n : Int, e = .returned (.tuple #[.int .i64 n, .bool false])) ∧ w = w' := by
  refine (dec_sp s w hs).mono fun e w' ⟨he, hw⟩ => ⟨?_, hw⟩
  rcases he with ⟨v, hv, he⟩ | ⟨_, he⟩
  · rw [h] at hv
    cases hv
  · exact he

set_option maxRecDepth 100000 in
set_option maxHeartbeats 2000000 in
theorem four_sp (s : ByteArray) (w : World) (hs : s.size ≤ 2147483648) :
    Calls Tryd.prog 43 #[.string s] w fun e w' => BytRes w w' e (pl.four s.data.toList) := by
  have hl : s.data.toList.length = s.size := by simp
  have hpl := pl.split_len 46 s
  obtain ⟨F, hF⟩ : ∃ F, pl.four s.data.toList = F := ⟨_, rfl⟩
  rw [hF]
  obtain ⟨L, hL⟩ : ∃ L, pl.split 46 s.data.toList = L := ⟨_, rfl⟩
  have hpart := pl.split_size 46 s
  have hok := pl.four_ok s.data.toList
  have hfl := pl.four_len s.data.toList
  have hbad := pl.four_bad s.data.toList
  have hsp := split_sp s 46 w (by omega)
  rw [hL] at hpl hpart hok hfl hbad hsp
  rw [hF] at hok hfl hbad
  have HO := Lib.hid hok
  have HFL := Lib.hid hfl
  have HB := Lib.hid hbad
  have HP := Lib.hid hpart
  have HS := Lib.hid hsp
  clear hok hfl hbad hpart hsp hL hF hl
  go_enter Tryd.func43, Tryd.ntmps43
  go_wp2_with (go_at_call 61; refine HS.out.mono ?_; rintro e w1 ⟨vl, rfl, hS, hb1⟩; obtain ⟨a1, k1, rfl, hcell⟩ := hS.form)
  have HC := Lib.hid hcell
  clear hcell
  go_loopw [4, 12] (fun v iv wr => ∃ (k : Nat) (acc : List UInt8), k ≤ L.length ∧ iv = .int .i64 k ∧ Hid (pl.octs (L.take k) = some acc) ∧ Hid (acc.length = k) ∧ Byts wr w1.heap.size v acc ∧ Below w1.heap.size w1 wr) (fun _ iv _ => L.length - (intOf iv).toNat)
  case atStart => exact ⟨0, [], Nat.zero_le _, rfl, Lib.hid rfl, Lib.hid rfl, Byts.nil _ _, Below.refl _ _⟩
  case round =>
    obtain ⟨k, acc, hk, rfl, HK, HAL, hown, hbel⟩ := hrel
    by_cases hlt : k < L.length
    · obtain ⟨P, hp⟩ : ∃ P : ByteArray, L[k]? = some P.data.toList := ⟨⟨(L[k]).toArray⟩, by rw [List.getElem?_eq_getElem hlt]⟩
      obtain ⟨g, rfl, hg, hB, hc⟩ := HC.out k _ hp
      have hc' : wr.cell? ⟨g, k, none⟩ = some (.string P) := by rw [below_cell hbel _ _ hg]; exact hc
      have hps := HP.out k P hp
      have hpll : P.data.toList.length = P.size := by simp
      have hoc := pl.oct_cases P.data.toList
      have hat := pl.octs_at L k _ hp
      have hnext := fun b => pl.octs_next L k _ acc b hp HK.out
      rw [hpll] at hoc
      have HP0 := Lib.hid hp
      clear hc hp hpll
      rcases hoc with ⟨hd, ho⟩ | ⟨n, hd, h1, ho⟩ | ⟨n, hd, h1, h2, h3, ho⟩ | ⟨n, hd, h1, h2, ho⟩
      · have hn := HB.out (hat ho)
        have HN := Lib.hid hn
        have HD := Lib.hid hd
        clear hn hd ho hat hnext
        go_wp2_with (go_at_call 53; refine (dec_no P _ (by omega) HD.out).mono ?_; rintro e w' ⟨⟨n, rfl⟩, rfl⟩)
        go_ret2
        exact ⟨hb1.trans (hbel.mono hb1.size), .inr ⟨HN.out, _, _, _, rfl⟩⟩
      · have hn := HB.out (hat ho)
        have HN := Lib.hid hn
        have HD := Lib.hid hd
        have h1' : (255 : Int) < (n : Int) := by omega
        clear hn hd ho hat hnext
        go_wp2_with (go_at_call 53; refine (dec_val P n _ (by omega) HD.out).mono ?_; rintro e w' ⟨rfl, rfl⟩)
        go_ret2
        exact ⟨hb1.trans (hbel.mono hb1.size), .inr ⟨HN.out, _, _, _, rfl⟩⟩
      · have hn := HB.out (hat ho)
        have HN := Lib.hid hn
        have HD := Lib.hid hd
        have h1' : ¬ (255 : Int) < (n : Int) := by omega
        have h0 : 0 < P.size := by omega
        have h0v : ((P[0].toNat : Int) == 48) = true := pl.head_is P h0 h3
        clear hn hd ho hat hnext h3
        go_wp2_with (go_at_call 53; refine (dec_val P n _ (by omega) HD.out).mono ?_; rintro e w' ⟨rfl, rfl⟩)
        go_ret2
        exact ⟨hb1.trans (hbel.mono hb1.size), .inr ⟨HN.out, _, _, _, rfl⟩⟩
      · have hn := hnext _ ho
        have hal := HAL.out
        have HN := Lib.hid hn
        have HD := Lib.hid hd
        have h1' : ¬ (255 : Int) < (n : Int) := by omega
        have hu : Value.int IntKind.u8 (n : Int) = pl.byteV (UInt8.ofNat n) := by
          unfold pl.byteV
          rw [UInt8.toNat_ofNat_of_lt' (by show n < 256; omega)]
        obtain ⟨u, hU⟩ : ∃ u, UInt8.ofNat n = u := ⟨_, rfl⟩
        rw [hU] at hu HN
        have HU := Lib.hid hu
        have hkb : acc.length < 70368744177664 := by omega
        clear hn hd ho hat hnext hU hu hal
        by_cases hbig : 1 < P.size
        · have h0 : 0 < P.size := by omega
          have h0v : ((P[0].toNat : Int) == 48) = false := pl.head_not P h0 (by
            rcases h2 with h | h
            · exact absurd hbig h
            · exact h)
          have hbig' : (1 : Int) < (P.size : Int) := by omega
          clear h2
          go_wp2_with (first | (go_at_call 53; refine (dec_val P n _ (by omega) HD.out).mono ?_; rintro e w' ⟨rfl, rfl⟩) | (at_builtin; refine app_byte (w := w1) u 26 Tryd.underlying26 rfl _ _ rfl rfl w1.heap.size hown rfl HU.out hkb hbel (Nat.le_refl _) ?_))
          intro v1 w2 hown1 hbel1
          go_wp2_with fail
          go_roundw
          case rel => exact ⟨k + 1, _, by omega, by go_num, HN, Lib.hid (by rw [List.length_append, List.length_singleton, HAL.out]), hown1, hbel1⟩
          case measure => simp [intOf]; omega
        · have hbig' : ¬ (1 : Int) < (P.size : Int) := by omega
          clear h2
          go_wp2_with (first | (go_at_call 53; refine (dec_val P n _ (by omega) HD.out).mono ?_; rintro e w' ⟨rfl, rfl⟩) | (at_builtin; refine app_byte (w := w1) u 26 Tryd.underlying26 rfl _ _ rfl rfl w1.heap.size hown rfl HU.out hkb hbel (Nat.le_refl _) ?_))
          intro v1 w2 hown1 hbel1
          go_wp2_with fail
          go_roundw
          case rel => exact ⟨k + 1, _, by omega, by go_num, HN, Lib.hid (by rw [List.length_append, List.length_singleton, HAL.out]), hown1, hbel1⟩
          case measure => simp [intOf]; omega
    · have hke : k = L.length := by omega
      have hka : pl.octs L = some acc := by rw [← HK.out, hke, List.take_length]
      obtain ⟨a2, k2, rfl, _⟩ := hown.reads
      have HKA := Lib.hid hka
      clear hka hke
      by_cases h4 : acc.length = 4
      · have hf := HO.out acc HKA.out h4
        have HF4 := Lib.hid hf
        have h4' : ((acc.length : Int) == 4) = true := by rw [h4]; rfl
        clear hf h4
        go_wp2_with fail
        go_ret2
        exact ⟨hb1.trans (hbel.mono hb1.size), .inl ⟨_, acc, HF4.out, rfl, hown.mono hb1.size⟩⟩
      · have hf := HFL.out acc HKA.out h4
        have HF4 := Lib.hid hf
        have h4' : ((acc.length : Int) == 4) = false := by rw [beq_eq_false_iff_ne]; omega
        clear hf h4
        go_wp2_with fail
        go_ret2
        exact ⟨hb1.trans (hbel.mono hb1.size), .inr ⟨HF4.out, _, _, _, rfl⟩⟩

end Go.Proofs.YtfkohahlpfejbaaDoor
