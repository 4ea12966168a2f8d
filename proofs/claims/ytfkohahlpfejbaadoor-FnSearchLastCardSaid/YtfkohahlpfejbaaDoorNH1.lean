/-
  BESIDE THE BASE, for the statements over files: Low, Plain, Lab, Map, Abs, PlWords, Words, Fields, Line, Same.
-/
import Derived.Test.YtfkohahlpfejbaaDoorNB6
import Derived.Deep.DeepCutAuto
import Derived.Deep.DeepMust
import Derived.Laws.RangeAny
import Derived.Maps.Own
import Derived.Maps.OwnOps
import Derived.Maps.Views

/- Low: WALKS: Lower. -/
namespace Go.Proofs.YtfkohahlpfejbaaDoor
open Go.RowKit

set_option maxHeartbeats 400000 in
theorem low_sp (s : ByteArray) (w : World) (hs : s.size ≤ 17592186044416) :
    Calls Tryd.prog 48 #[.string s] w fun e w' => e = .returned (.string ⟨(pl.low s.data.toList).toArray⟩) ∧ Below w.heap.size w w' := by
  have hconv := run_bytes_of_string (P := Tryd.prog) w 9 26 5 s Tryd.underlying9 Tryd.underlying26 Tryd.underlying5
  have h0 := ByteRow.of_string w s (grownCap w s.size 0 5)
  obtain ⟨cap, hcap⟩ : ∃ cap, cap = grownCap w s.size 0 5 := ⟨_, rfl⟩
  obtain ⟨W1, hW1⟩ : ∃ W1, W1 = (w.drew.alloc (.cells (bytesRow s (grownCap w s.size 0 5)) 5 ((bytesRow s (grownCap w s.size 0 5)).size, (bytesRow s (grownCap w s.size 0 5)).size + 1))) := ⟨_, rfl⟩
  have hb1 : Below w.heap.size w W1 := by rw [hW1]; exact (Below.refl _ _).drew.alloc (Nat.le_refl _) _
  rw [← hW1] at hconv h0
  rw [← hcap] at hconv
  clear hW1 hcap
  go_enter Tryd.func48, Tryd.ntmps48
  go_wp2_with fail
  clear hconv
  go_loopw [10] (fun i wr => ∃ k : Nat, k ≤ s.size ∧ i = .int .i64 k ∧ ByteRow wr w.heap.size (pl.part pl.lowB s.data.toList k) ∧ Below w.heap.size w wr) (fun i _ => s.size - (intOf i).toNat)
  case atStart => exact ⟨0, Nat.zero_le _, rfl, by rw [pl.part_zero]; exact h0, hb1⟩
  case round =>
    obtain ⟨k, hk, rfl, hr, hb⟩ := hrel
    by_cases hlt : k < s.size
    · have hcell := hr.cell k _ (pl.part_at pl.lowB s k hlt)
      have hlen : k < (pl.part pl.lowB s.data.toList k).length := by rw [pl.part_len]; simpa using hlt
      have hfr := hr.frozen k hlen
      have hby := UInt8.toNat_lt s[k]
      have HR := Lib.hid hr
      have HL := Lib.hid hlen
      clear hr hlen
      go_wp2
      · have h1 : 65 ≤ (s[k].toNat : Int) := by assumption
        have h2 : (s[k].toNat : Int) ≤ 90 := by assumption
        have e := pl.lowB_yes s[k] h1 h2
        rw [← e]
        go_roundw
        case rel => exact ⟨k + 1, by omega, by go_num, by rw [← pl.part_succ pl.lowB s k hlt]; exact HR.out.set k _ HL.out, hb.setCell (Nat.le_refl _) _⟩
        case measure => simp [intOf]; omega
      all_goals
        have e : pl.lowB s[k] = s[k] := pl.lowB_no s[k] (by omega)
        go_roundw
        case rel => exact ⟨k + 1, by omega, by go_num, by rw [← pl.part_same pl.lowB s k hlt e]; exact HR.out, hb⟩
        case measure => simp [intOf]; omega
    · have hl : s.size = (pl.part pl.lowB s.data.toList k).length := by rw [pl.part_len]; simp
      have hback := run_convert_bytes_back (P := Tryd.prog) wr 26 9 5 ⟨w.heap.size, 0, none⟩ cap (pl.part pl.lowB s.data.toList k) Tryd.underlying26 Tryd.underlying5 Tryd.underlying9 (fun j hj => by
        rw [Addr.add_lit, Nat.zero_add]
        exact hr.cell j _ (List.getElem?_eq_getElem hj))
      rw [← hl, pl.part_all _ _ _ (by simpa using hlt)] at hback
      clear hl
      go_wp2
      go_ret
      exact ⟨rfl, hb⟩

end Go.Proofs.YtfkohahlpfejbaaDoor

/- Plain: WALK: spec.Plain. -/
namespace Go.Proofs.YtfkohahlpfejbaaDoor
open Go.RowKit

def pl.alnB (x : UInt8) : Bool := (decide (97 ≤ x.toNat) && decide (x.toNat ≤ 122)) || (decide (48 ≤ x.toNat) && decide (x.toNat ≤ 57))
def pl.plB (n k : Nat) (x : UInt8) : Bool := pl.alnB x || (decide (x.toNat = 45 ∨ x.toNat = 46) && decide (k ≠ 0) && decide (k + 1 ≠ n))
/-- a plain name -/
def pl.plain (l : List UInt8) : Bool := decide (l ≠ []) && (List.range l.length).all (fun k => pl.plB l.length k (pl.lowB (l.getD k 0)))

theorem pl.aln_cases (x : UInt8) :
    (Hid (pl.alnB x = true) ∧ 97 ≤ (x.toNat : Int) ∧ (x.toNat : Int) ≤ 122) ∨ (Hid (pl.alnB x = true) ∧ ¬ (97 ≤ (x.toNat : Int)) ∧ 48 ≤ (x.toNat : Int) ∧ (x.toNat : Int) ≤ 57) ∨
    (Hid (pl.alnB x = false) ∧ 97 ≤ (x.toNat : Int) ∧ ¬ ((x.toNat : Int) ≤ 122) ∧ 48 ≤ (x.toNat : Int) ∧ ¬ ((x.toNat : Int) ≤ 57)) ∨ (Hid (pl.alnB x = false) ∧ ¬ (97 ≤ (x.toNat : Int)) ∧ ¬ (48 ≤ (x.toNat : Int))) ∨ (Hid (pl.alnB x = false) ∧ ¬ (97 ≤ (x.toNat : Int)) ∧ 48 ≤ (x.toNat : Int) ∧ ¬ ((x.toNat : Int) ≤ 57)) := by
  by_cases h1 : 97 ≤ x.toNat
  · by_cases h2 : x.toNat ≤ 122
    · exact .inl ⟨Lib.hid (by simp [pl.alnB, h1, h2]), by omega, by omega⟩
    · exact .inr (.inr (.inl ⟨Lib.hid (by simp [pl.alnB, h2]; omega), by omega, by omega, by omega, by omega⟩))
  · by_cases h3 : 48 ≤ x.toNat
    · by_cases h4 : x.toNat ≤ 57
      · exact .inr (.inl ⟨Lib.hid (by simp [pl.alnB, h3, h4]), by omega, by omega, by omega⟩)
      · exact .inr (.inr (.inr (.inr ⟨Lib.hid (by simp [pl.alnB, h1, h4]), by omega, by omega, by omega⟩)))
    · exact .inr (.inr (.inr (.inl ⟨Lib.hid (by simp [pl.alnB, h1, h3]), by omega, by omega⟩)))

theorem pl.plain_no (l : List UInt8) (k : Nat) (hk : k < l.length) (h : pl.plB l.length k (pl.lowB l[k]) = false) : pl.plain l = false := by
  unfold pl.plain
  have : (List.range l.length).all (fun k => pl.plB l.length k (pl.lowB (l.getD k 0))) = false := by
    rw [List.all_eq_false]
    refine ⟨k, List.mem_range.2 hk, ?_⟩
    rw [List.getD_eq_getElem?_getD, List.getElem?_eq_getElem hk]
    simp [h]
  rw [this, Bool.and_false]
theorem pl.plain_not (s : ByteArray) (k : Nat) (x : UInt8) (hk : k < s.size) (hx : pl.lowB s[k] = x) (h : pl.plB s.size k x = false) : pl.plain s.data.toList = false := by
  have hl : s.data.toList.length = s.size := by simp
  subst hx
  rw [← hl] at h
  exact pl.plain_no s.data.toList k (by omega) h
theorem pl.plain_yes (l : List UInt8) (hn : l ≠ []) (h : ∀ k (hk : k < l.length), pl.plB l.length k (pl.lowB l[k]) = true) : pl.plain l = true := by
  unfold pl.plain
  rw [Bool.and_eq_true, List.all_eq_true]
  refine ⟨by simpa using hn, fun k hk => ?_⟩
  have hk := List.mem_range.1 hk
  rw [List.getD_eq_getElem?_getD, List.getElem?_eq_getElem hk]
  exact h k hk

set_option maxHeartbeats 2000000 in
theorem plain_sp (s : ByteArray) (w : World) (hs : s.size ≤ 17592186044416) :
    Calls Tryd.prog 20 #[.string s] w fun e w' => e = .returned (.bool (pl.plain s.data.toList)) ∧ Below w.heap.size w w' := by
  have hl : s.data.toList.length = s.size := by simp
  have HLEN := Lib.hid hl
  clear hl
  go_enter Tryd.func20, Tryd.ntmps20
  go_wp2_with fail
  go_loopw [8] (fun i wr => ∃ k : Nat, k ≤ s.size ∧ i = .int .i64 k ∧ Hid (∀ j (h : j < s.size), j < k → pl.plB s.size j (pl.lowB s[j]) = true) ∧ Below w.heap.size w wr) (fun i _ => s.size - (intOf i).toNat)
  case atStart => exact ⟨0, Nat.zero_le _, rfl, Lib.hid (fun j _ h => by omega), Below.refl _ _⟩
  case round =>
    obtain ⟨k, hk, rfl, HA, hb⟩ := hrel
    by_cases hlt : k < s.size
    · obtain ⟨x, hx⟩ : ∃ x, pl.lowB s[k] = x := ⟨_, rfl⟩
      have hlow := pl.low_one s k hlt
      rw [hx] at hlow
      have HX := Lib.hid hx
      have hsz : (s.extract k (k + 1)).size ≤ 17592186044416 := by simp; omega
      clear hx
      have hx0 : ∀ h, (⟨#[x]⟩ : ByteArray)[0]'h = x := fun _ => rfl
      go_upto_region 5 with (go_at_call 48; go_must (refine (low_sp _ _ hsz).mono ?_); rintro e w2 ⟨rfl, hb2⟩; rw [hlow])
      clear hlow hx0
      have hby := UInt8.toNat_lt x
      go_cut [5] (fun v wx => ∃ E : Bool, v = .bool E ∧ w2 = wx ∧ Hid (E = pl.alnB x))
      case first =>
        rcases pl.aln_cases x with ⟨hs, _, _⟩ | ⟨hs, _, _, _⟩ | ⟨hs, _, _, _, _⟩ | ⟨hs, _, _⟩ | ⟨hs, _, _, _⟩
        all_goals go_wp2
        all_goals go_meet
        all_goals exact ⟨_, rfl, rfl, Lib.hid (by rw [hs.out])⟩
      case rest =>
        obtain ⟨E, rfl, rfl, HE⟩ := hcut
        have hb3 := hb.trans (hb2.mono hb.size)
        have HYES : pl.plB s.size k x = true → ∀ j (h : j < s.size), j < k + 1 → pl.plB s.size j (pl.lowB s[j]) = true := fun hp j h hj => by
          by_cases hjk : j = k
          · subst hjk; rw [HX.out]; exact hp
          · exact HA.out j h (by omega)
        have HNO : pl.plB s.size k x = false → pl.plain s.data.toList = false := pl.plain_not s k x hlt HX.out
        have HY := Lib.hid HYES
        have HN := Lib.hid HNO
        clear HYES HNO
        rcases E with _ | _
        · have HP : pl.plB s.size k x = (decide (x.toNat = 45 ∨ x.toNat = 46) && decide (k ≠ 0) && decide (k + 1 ≠ s.size)) := by unfold pl.plB; rw [← HE.out]; rfl
          have HPH := Lib.hid HP
          clear HP
          rcases e1 : ((x.toNat : Int) != 45) with _ | _
          · have hx45 : x.toNat = 45 := by simp at e1; omega
            have HX45 := Lib.hid hx45
            clear hx45
            rcases e3 : ((k : Int) == 0) with _ | _
            · rcases e4 : ((k : Int) == (s.size : Int) - 1) with _ | _
              · have hp : pl.plB s.size k x = true := by
                  rw [HPH.out]; simp at e3 e4; simp [HX45.out, e3]; omega
                have HPT := Lib.hid hp
                clear hp
                go_wp2
                go_roundw
                case rel => exact ⟨k + 1, by omega, by go_num, Lib.hid (HY.out HPT.out), hb3⟩
                case measure => simp [intOf]; omega
              · have hp : pl.plB s.size k x = false := by
                  rw [HPH.out]; simp at e4; simp; omega
                have hr := HN.out hp
                have HR := Lib.hid hr
                clear hp hr
                go_wp2
                go_ret
                exact ⟨by rw [HR.out]; rfl, hb3⟩
            · have hp : pl.plB s.size k x = false := by
                rw [HPH.out]; simp at e3; simp; omega
              have hr := HN.out hp
              have HR := Lib.hid hr
              clear hp hr
              go_wp2
              go_ret
              exact ⟨by rw [HR.out]; rfl, hb3⟩
          · rcases e2 : ((x.toNat : Int) != 46) with _ | _
            · have hx46 : x.toNat = 46 := by simp at e2; omega
              have HX46 := Lib.hid hx46
              clear hx46
              rcases e3 : ((k : Int) == 0) with _ | _
              · rcases e4 : ((k : Int) == (s.size : Int) - 1) with _ | _
                · have hp : pl.plB s.size k x = true := by
                    rw [HPH.out]; simp at e3 e4; simp [HX46.out, e3]; omega
                  have HPT := Lib.hid hp
                  clear hp
                  go_wp2
                  go_roundw
                  case rel => exact ⟨k + 1, by omega, by go_num, Lib.hid (HY.out HPT.out), hb3⟩
                  case measure => simp [intOf]; omega
                · have hp : pl.plB s.size k x = false := by
                    rw [HPH.out]; simp at e4; simp; omega
                  have hr := HN.out hp
                  have HR := Lib.hid hr
                  clear hp hr
                  go_wp2
                  go_ret
                  exact ⟨by rw [HR.out]; rfl, hb3⟩
              · have hp : pl.plB s.size k x = false := by
                  rw [HPH.out]; simp at e3; simp; omega
                have hr := HN.out hp
                have HR := Lib.hid hr
                clear hp hr
                go_wp2
                go_ret
                exact ⟨by rw [HR.out]; rfl, hb3⟩
            · have hp : pl.plB s.size k x = false := by
                rw [HPH.out]; simp at e1 e2; simp; omega
              have hr := HN.out hp
              have HR := Lib.hid hr
              clear hp hr
              go_wp2
              go_ret
              exact ⟨by rw [HR.out]; rfl, hb3⟩
        · go_wp2
          go_roundw
          case rel => exact ⟨k + 1, by omega, by go_num, Lib.hid (HY.out (by unfold pl.plB; rw [← HE.out]; rfl)), hb3⟩
          case measure => simp [intOf]; omega
    · have hfin : pl.plain s.data.toList = !s.toList.isEmpty := by
        rw [Lib.toList_data]
        by_cases h0 : s.data.toList = []
        · rw [h0]; rfl
        · rw [pl.plain_yes s.data.toList h0 (fun j hj => by
            have hj' : j < s.size := by rw [← HLEN.out]; exact hj
            have h := HA.out j hj' (by omega)
            rw [← HLEN.out] at h
            exact h)]
          cases hd : s.data.toList with
          | nil => exact absurd hd h0
          | cons a l => rfl
      have HF := Lib.hid hfin
      clear hfin
      go_wp2
      go_ret
      exact ⟨by rw [HF.out]; rfl, hb⟩

end Go.Proofs.YtfkohahlpfejbaaDoor

/- Lab: WALKS: lowerASCIIBytes; hasUpperCase at a string of plain letters. -/
namespace Go.Proofs.YtfkohahlpfejbaaDoor
open Go.RowKit

theorem pl.lowB_32 (b : UInt8) (h1 : 65 ≤ (b.toNat : Int)) (h2 : (b.toNat : Int) ≤ 90) : ((pl.lowB b).toNat : Int) = (b.toNat : Int) + 32 := by
  have := pl.lowB_yes b h1 h2
  omega

set_option maxHeartbeats 1000000 in
theorem lab_sp (g cap : Nat) (s : ByteArray) (w : World) (hs : s.size ≤ 17592186044416) (h0 : ByteRow w g s.data.toList) :
    Calls Tryd.prog 86 #[.slice (some ⟨g, 0, none⟩) s.size cap] w fun e w' => e = .returned (.tuple #[]) ∧ ByteRow w' g (pl.low s.data.toList) ∧ Below g w w' := by
  go_enter Tryd.func86, Tryd.ntmps86
  go_wp2_with fail
  go_loopw [6] (fun i wr => ∃ k : Nat, k ≤ s.size ∧ i = .int .i64 k ∧ ByteRow wr g (pl.part pl.lowB s.data.toList k) ∧ Below g w wr) (fun i _ => s.size - (intOf i).toNat)
  case atStart => exact ⟨0, Nat.zero_le _, rfl, by rw [pl.part_zero]; exact h0, Below.refl _ _⟩
  case round =>
    obtain ⟨k, hk, rfl, hr, hb⟩ := hrel
    by_cases hlt : k < s.size
    · have hcell := hr.cell k _ (pl.part_at pl.lowB s k hlt)
      have hlen : k < (pl.part pl.lowB s.data.toList k).length := by rw [pl.part_len]; simpa using hlt
      have hfr := hr.frozen k hlen
      have hby := UInt8.toNat_lt s[k]
      have HR := Lib.hid hr
      have HL := Lib.hid hlen
      clear hr hlen
      go_wp2
      · have h1 : 65 ≤ (s[k].toNat : Int) := by assumption
        have h2 : (s[k].toNat : Int) ≤ 90 := by assumption
        have e := pl.lowB_32 s[k] h1 h2
        rw [← e]
        go_roundw
        case rel => exact ⟨k + 1, by omega, by go_num, by rw [← pl.part_succ pl.lowB s k hlt]; exact HR.out.set k _ HL.out, hb.setCell (Nat.le_refl _) _⟩
        case measure => simp [intOf]; omega
      all_goals
        have e : pl.lowB s[k] = s[k] := pl.lowB_no s[k] (by omega)
        go_roundw
        case rel => exact ⟨k + 1, by omega, by go_num, by rw [← pl.part_same pl.lowB s k hlt e]; exact HR.out, hb⟩
        case measure => simp [intOf]; omega
    · have he : pl.part pl.lowB s.data.toList k = pl.low s.data.toList := by rw [pl.part_all _ _ _ (by simpa using hlt)]; rfl
      rw [he] at hr
      go_wp2
      go_end0
      exact ⟨rfl, hr, hb⟩

def pl.upB (b : UInt8) : Bool := decide (65 ≤ b.toNat) && decide (b.toNat ≤ 90)
theorem pl.upB_low (l : List UInt8) (h : l.any pl.upB = false) : pl.low l = l := by
  unfold pl.low
  rw [List.any_eq_false] at h
  conv => rhs; rw [← List.map_id l]
  refine List.map_congr_left fun x hx => ?_
  have := h x hx
  unfold pl.upB at this
  unfold pl.lowB
  rw [if_neg (by simpa using this)]
  rfl

set_option maxHeartbeats 1000000 in
theorem hup_sp (s : ByteArray) (w : World) (hs : s.size ≤ 17592186044416) (ha : ∀ b ∈ s.data.toList, b.toNat < 128) :
    Calls Tryd.prog 87 #[.string s] w fun e w' => e = .returned (.bool (s.data.toList.any pl.upB)) ∧ Below w.heap.size w w' := by
  have HA := Lib.hid ha
  clear ha
  go_enter Tryd.func87, Tryd.ntmps87
  go_wp2_with fail
  go_loopw [3] (fun _ wr => ∃ pos : Nat, wr = w.iter s pos ∧ pos ≤ s.size ∧ Hid ((s.data.toList.take pos).any pl.upB = false)) (fun _ wr => s.size - wr.iterPos w.heap.size)
  case atStart => exact ⟨0, rfl, Nat.zero_le _, Lib.hid rfl⟩
  case round =>
    obtain ⟨pos, rfl, hp, HP⟩ := hrel
    by_cases hlt : pos < s.size
    · obtain ⟨x, hx⟩ : ∃ x, s[pos] = x := ⟨_, rfl⟩
      have hby := UInt8.toNat_lt x
      have hasc : x.toNat < 128 := HA.out x (by rw [← hx]; exact List.mem_of_getElem? (pl.getElem_data s pos hlt))
      have hnx : ∀ ty, (Instr.next (.pointer (some ⟨w.heap.size, 0, none⟩)) true ty).run Tryd.prog (w.iter s pos) = .ok (.tuple #[.bool true, .int .i64 pos, .int .i32 x.toNat]) (w.iter s (pos + 1)) := fun ty => by
        rw [← hx]; exact run_next_ascii w s pos ty hlt (by rw [hx]; exact hasc)
      have HX := Lib.hid hx
      clear hasc
      by_cases h1 : 65 ≤ (x.toNat : Int)
      · by_cases h2 : (x.toNat : Int) ≤ 90
        · have hu : s.data.toList.any pl.upB = true := by
            rw [List.any_eq_true]
            exact ⟨x, by rw [← hx]; exact List.mem_of_getElem? (pl.getElem_data s pos hlt), by unfold pl.upB; simp; omega⟩
          have HU := Lib.hid hu
          clear hu
          go_wp2
          go_ret
          exact ⟨by rw [HU.out]; rfl, (Below.refl _ _).alloc (Nat.le_refl _) _⟩
        · have hn : (s.data.toList.take (pos + 1)).any pl.upB = false := by
            rw [pl.take_succ s pos hlt, List.any_append, HP.out, hx]; simp [pl.upB]; omega
          have HN := Lib.hid hn
          clear hn
          go_wp2
          go_roundw
          case rel => exact ⟨pos + 1, rfl, by omega, HN⟩
          case measure => simp; omega
      · have hn : (s.data.toList.take (pos + 1)).any pl.upB = false := by
          rw [pl.take_succ s pos hlt, List.any_append, HP.out, hx]; simp [pl.upB]; omega
        have HN := Lib.hid hn
        clear hn
        go_wp2
        go_roundw
        case rel => exact ⟨pos + 1, rfl, by omega, HN⟩
        case measure => simp; omega
    · have hnx : ∀ ty, (Instr.next (.pointer (some ⟨w.heap.size, 0, none⟩)) true ty).run Tryd.prog (w.iter s pos) = _ := fun ty => run_next_end w s pos ty hlt
      rw [pl.take_all s pos (by omega)] at HP
      go_wp2
      go_ret
      exact ⟨by rw [HP.out]; rfl, (Below.refl _ _).alloc (Nat.le_refl _) _⟩

end Go.Proofs.YtfkohahlpfejbaaDoor

/- Map: WORDS FOR MAPS that the call has made, with strings as keys and any values: what stands at each key. -/
namespace Go.Proofs.YtfkohahlpfejbaaDoor
open Go.RowKit Go.ChangeMaps
open Go.Maps (Keyed)

/-- an element is read as itself -/
def exa (v : Value) : Option (DataW Value × List MemPlace) := some (.held v, [])
/-- the map as a function -/
def AtF (D : DataW Value) (f : List UInt8 → Option Value) : Prop :=
  Maps.IsMap D ∧ ∀ k, (∀ v, f k = some v → ∀ z, D.atKey (.string k) z = .held v) ∧ (f k = none → ∀ z, D.atKey (.string k) z = z)
/-- Block b is a map of at most n entries that holds f. -/
def MapF (P : Program) (k : TypeId) (w : World) (b n : Nat) (f : List UInt8 → Option Value) : Prop := ∃ D, w.ownsMap P k exa b n D ∧ AtF D f

theorem AtF.put {D : DataW Value} {f : List UInt8 → Option Value} (h : AtF D f) (k : List UInt8) (v : Value) : AtF (D.put (.string k) (.held v)) (fun x => if x = k then some v else f x) := by
  refine ⟨h.1.put _ _, fun x => ?_⟩
  by_cases hx : x = k
  · subst hx
    simp only [if_pos]
    refine ⟨fun u hu z => ?_, fun hu => by cases hu⟩
    injection hu with hu
    subst hu
    exact Maps.atKey_put_same h.1 (by trivial) _ z
  · simp only [if_neg hx]
    have hne : Lit.string x ≠ Lit.string k := fun e => hx (by injection e)
    exact ⟨fun u hu z => by rw [Maps.atKey_put_other hne]; exact (h.2 x).1 u hu z, fun hu z => by rw [Maps.atKey_put_other hne]; exact (h.2 x).2 hu z⟩

theorem MapF.lt {P : Program} {k : TypeId} {w : World} {b n : Nat} {f : List UInt8 → Option Value} (h : MapF P k w b n f) : b < w.heap.size := let ⟨_, h1, _⟩ := h; h1.lt
theorem MapF.made (P : Program) (k : TypeId) (w : World) : MapF P k (w.alloc (.map #[] 0)) w.heap.size 0 (fun _ => none) :=
  ⟨.map [], World.ownsMap_made w P k exa, Maps.isMap_empty, fun _ => ⟨fun _ h => (by cases h), fun _ _ => rfl⟩⟩
theorem MapF.keep {P : Program} {k : TypeId} {w w' : World} {b n : Nat} {f : List UInt8 → Option Value} (h : MapF P k w b n f) (hk : w'.heap[b]? = w.heap[b]?) : MapF P k w' b n f := by
  obtain ⟨D, ⟨es, clock, hb, h1⟩, h2⟩ := h
  exact ⟨D, ⟨es, clock, hk.trans hb, h1⟩, h2⟩
theorem MapF.below {P : Program} {k : TypeId} {w w' : World} {b n B : Nat} {f : List UInt8 → Option Value} (h : MapF P k w b n f) (hb : Below B w w') (hB : b < B) : MapF P k w' b n f := h.keep (hb.block b hB)
theorem MapF.grown {P : Program} {k : TypeId} {w w' : World} {b n : Nat} {row : Option Nat} {f : List UInt8 → Option Value} (h : MapF P k w b n f) (hg : w.grownBy w' row) (hne : some b ≠ row) : MapF P k w' b n f := h.keep (hg.block b h.lt hne)
theorem MapF.mono {P : Program} {k : TypeId} {w : World} {b n n' : Nat} {f : List UInt8 → Option Value} (h : MapF P k w b n f) (hn : n ≤ n') : MapF P k w b n' f := let ⟨D, h1, h2⟩ := h; ⟨D, h1.mono hn, h2⟩
theorem MapF.congr {P : Program} {k : TypeId} {w : World} {b n : Nat} {f g : List UInt8 → Option Value} (h : MapF P k w b n f) (hfg : ∀ x, f x = g x) : MapF P k w b n g := by rw [← funext hfg]; exact h

/-- 'm[k]' and 'v, ok := m[k]' -/
theorem MapF.look {P : Program} {k t e : TypeId} {w : World} {b n : Nat} {f : List UInt8 → Option Value} (h : MapF P k w b n f) (hk : P.underlying k = some .string) (ht : P.underlying t = some (.map k e)) {z : Value} (hz : (zeroValue e).run P w = .ok z w)
    (s : ByteArray) (hs : s.size ≤ maxLen) (c : Bool) (r : Option Value) (hr : f s.data.toList = r) :
    (Instr.lookup t (.map (some b)) (.string s) c).run P w = .ok (if c then .tuple #[r.getD z, .bool r.isSome] else r.getD z) w := by
  obtain ⟨D, ⟨es, clock, hb, F, _, rfl⟩, _, h2⟩ := h
  have h3 := h2 s.data.toList
  rcases Maps.fit_look c (Maps.string_keyed hk) ht hz hb F (WideMaps.keyOf_string_mk hk hs) with ⟨hrun, _, hat⟩ | ⟨e0, y, _, _, hrun, hRv, hat, _⟩
  · cases hf : f s.data.toList with
    | some v =>
      have := h3.1 v hf .nil
      rw [hat] at this
      cases this
    | none => rw [hf] at hr; subst hr; exact hrun
  · injection hRv with hRv
    cases hf : f s.data.toList with
    | none =>
      have := h3.2 hf .nil
      rw [hat, ← hRv] at this
      cases this
    | some v =>
      have := h3.1 v hf .nil
      rw [hat, ← hRv] at this
      injection this with this
      rw [hf] at hr
      subst hr
      rw [← this]
      exact hrun

/-- 'm[k] = v' -/
theorem MapF.put {P : Program} {k t e : TypeId} {w : World} {b n : Nat} {f : List UInt8 → Option Value} (h : MapF P k w b n f) (hk : P.underlying k = some .string) (ht : P.underlying t = some (.map k e)) (hn : n < maxLen) (s : ByteArray) (hs : s.size ≤ maxLen) (v : Value) :
    ∃ w', (Instr.mapUpdate t (.map (some b)) (.string s) v).run P w = .ok () w' ∧ MapF P k w' b (n + 1) (fun x => if x = s.data.toList then some v else f x) ∧ w.grownBy w' (some b) := by
  obtain ⟨D, h1, h2⟩ := h
  obtain ⟨w', hrun, hown, hg⟩ := h1.update (Maps.string_keyed hk) ht hn (WideMaps.keyOf_string_mk hk hs) (val := v) (d := .held v) (ps := []) rfl
  exact ⟨w', hrun, ⟨_, hown, h2.put _ v⟩, hg⟩

/-- .. at the operation, for the walk -/
theorem wpList_put {P : Program} (w : World) {ops : Array Oper} {rest : List Oper} {o : Oper} {a : Act} {Q : Exit → Act → World → Prop}
    (hg : o.guard = none) (m x v : Operand) (t : TypeId) (hop : o.op = Op.mapUpdate t m x v) (k e : TypeId) (hk : P.underlying k = some .string) (ht : P.underlying t = some (.map k e)) (b n : Nat) (f : List UInt8 → Option Value)
    (hm : a.eval m = .map (some b)) (hown : MapF P k w b n f) (hn : n < maxLen) (s : ByteArray) (hs : s.size ≤ maxLen) (val : Value) (hx : a.eval x = .string s) (hv : a.eval v = val)
    (hK : ∀ w', MapF P k w' b (n + 1) (fun x => if x = s.data.toList then some val else f x) → w.grownBy w' (some b) → wpList P ops Q rest (a.put o.dst undef) w') :
    wpList P ops Q (o :: rest) a w := by
  refine wpList_plain hg fun K' hK' => ?_
  obtain ⟨w', hrun, r1, r2⟩ := hown.put hk ht hn s hs val
  unfold Oper.wp
  simp [execOp, hop, hm, hx, hv, hrun, Result.andThen]
  exact hK' _ _ (hK w' r1 r2)

/-- 'm[k]', 'v, ok := m[k]' at the operation, for the walk -/
theorem wpList_look {P : Program} (w : World) {ops : Array Oper} {rest : List Oper} {o : Oper} {a : Act} {Q : Exit → Act → World → Prop}
    (hg : o.guard = none) (m x : Operand) (t : TypeId) (c : Bool) (hop : o.op = Op.lookup t m x c) (k e : TypeId) (hk : P.underlying k = some .string) (ht : P.underlying t = some (.map k e)) (b n : Nat) (f : List UInt8 → Option Value) (z : Value) (hz : (zeroValue e).run P w = .ok z w)
    (hm : a.eval m = .map (some b)) (hown : MapF P k w b n f) (s : ByteArray) (hs : s.size ≤ maxLen) (hx : a.eval x = .string s) (r : Option Value) (hr : f s.data.toList = r)
    (hK : wpList P ops Q rest (a.put o.dst (if c then .tuple #[r.getD z, .bool r.isSome] else r.getD z)) w) :
    wpList P ops Q (o :: rest) a w := by
  refine wpList_plain hg fun K' hK' => ?_
  have hrun := hown.look hk ht hz s hs c r hr
  unfold Oper.wp
  simp [execOp, hop, hm, hx, hrun, Result.andThen]
  exact hK' _ _ hK

end Go.Proofs.YtfkohahlpfejbaaDoor

/- Abs: WALKS: absDomainName, Absolute, the law FnAbsolute. -/
namespace Go.Proofs.YtfkohahlpfejbaaDoor
open Go.RowKit

set_option maxHeartbeats 400000 in
theorem abs_any (s : ByteArray) (w : World) (hs : s.size ≤ 17592186044416) :
    Calls Tryd.prog 85 #[.string s] w fun e w' => e = .returned (.string ⟨(pl.absN s.data.toList).toArray⟩) ∧ w = w' := by
  have hi := pl.idx_ne s.data.toList 46 46 rfl
  rcases hh : pl.has s.data.toList [46] with _ | _
  · rw [hh] at hi
    have E := Lib.hid (pl.absN_no _ hh)
    clear hh
    go_enter Tryd.func85, Tryd.ntmps85
    go_wp2_with (go_at_call 82; refine (idx_any _ _ _ (by unfold maxLen; omega)).mono ?_; rintro e w' ⟨rfl, rfl⟩)
    go_ret
    exact ⟨ret_str (pl.ba_ext (by rw [E.out])), rfl⟩
  · rw [hh] at hi
    have h1 := pl.has_size s 46 hh
    rcases hl : ((s[s.size - 1].toNat : Int) != 46) with _ | _
    · have E := Lib.hid (pl.absN_dot s h1 hl)
      clear hh
      go_enter Tryd.func85, Tryd.ntmps85
      go_wp2_with (go_at_call 82; refine (idx_any _ _ _ (by unfold maxLen; omega)).mono ?_; rintro e w' ⟨rfl, rfl⟩)
      go_ret
      exact ⟨ret_str (pl.ba_ext (by rw [E.out])), rfl⟩
    · have E := Lib.hid (pl.absN_yes s h1 hh hl)
      clear hh
      go_enter Tryd.func85, Tryd.ntmps85
      go_wp2_with (go_at_call 82; refine (idx_any _ _ _ (by unfold maxLen; omega)).mono ?_; rintro e w' ⟨rfl, rfl⟩)
      go_ret
      exact ⟨ret_str (pl.ba_ext (by rw [E.out]; simp [ByteArray.data_append])), rfl⟩

set_option maxHeartbeats 400000 in
theorem abs_sp (s : ByteArray) (w : World) (hs : s.size ≤ 17592186044416) :
    Calls Tryd.prog 47 #[.string s] w fun e w' => e = .returned (.string ⟨(pl.absN s.data.toList).toArray⟩) ∧ ∃ n, w' = w.drewN n := by
  rcases hh : pl.has s.data.toList [46] with _ | _
  · have E := Lib.hid (pl.absN_no _ hh)
    go_enter Tryd.func47, Tryd.ntmps47
    go_wp2_with (go_at_call 35; refine (has_any _ _ _ hs (by simp [ByteArray.size])).mono ?_; rintro e w' ⟨rfl, n, rfl⟩)
    go_ret
    exact ⟨ret_str (pl.ba_ext (by rw [E.out])), _, rfl⟩
  · have h1 := pl.has_size s 46 hh
    rcases hl : ((s[s.size - 1].toNat : Int) != 46) with _ | _
    · have E := Lib.hid (pl.absN_dot s h1 hl)
      go_enter Tryd.func47, Tryd.ntmps47
      go_wp2_with (go_at_call 35; refine (has_any _ _ _ hs (by simp [ByteArray.size])).mono ?_; rintro e w' ⟨rfl, n, rfl⟩)
      go_ret
      exact ⟨ret_str (pl.ba_ext (by rw [E.out])), _, rfl⟩
    · have E := Lib.hid (pl.absN_yes s h1 hh hl)
      go_enter Tryd.func47, Tryd.ntmps47
      go_wp2_with (go_at_call 35; refine (has_any _ _ _ hs (by simp [ByteArray.size])).mono ?_; rintro e w' ⟨rfl, n, rfl⟩)
      go_ret
      exact ⟨ret_str (pl.ba_ext (by rw [E.out]; simp [ByteArray.data_append])), _, rfl⟩

end Go.Proofs.YtfkohahlpfejbaaDoor

/- PlWords: PLAIN: the words of a text. -/
namespace Go.Proofs.YtfkohahlpfejbaaDoor.pl

/-- one byte: the words so far, and the one that is being read -/
def stepW (p : UInt8 → Bool) (a : List (List UInt8) × List UInt8) (b : UInt8) : List (List UInt8) × List UInt8 :=
  if p b = true then (if a.2 = [] then (a.1, []) else (a.1 ++ [a.2], [])) else (a.1, a.2 ++ [b])
def runW (p : UInt8 → Bool) (l : List UInt8) : List (List UInt8) × List UInt8 := l.foldl (stepW p) ([], [])
/-- what a last word adds -/
def flush (a : List (List UInt8) × List UInt8) : List (List UInt8) := if a.2 = [] then a.1 else a.1 ++ [a.2]
/-- the words between bytes of a kind -/
def words (p : UInt8 → Bool) (l : List UInt8) : List (List UInt8) := flush (runW p l)

theorem runW_snoc (p : UInt8 → Bool) (l : List UInt8) (b : UInt8) : runW p (l ++ [b]) = stepW p (runW p l) b := by simp [runW]
theorem runW_succ (p : UInt8 → Bool) (s : ByteArray) (k : Nat) (h : k < s.size) : runW p (s.data.toList.take (k + 1)) = stepW p (runW p (s.data.toList.take k)) s[k] := by
  rw [take_succ s k h, runW_snoc]

def cnt (p : UInt8 → Bool) (l : List UInt8) : Nat := (l.filter p).length
theorem cnt_snoc (p : UInt8 → Bool) (l : List UInt8) (b : UInt8) : cnt p (l ++ [b]) = cnt p l + if p b = true then 1 else 0 := by
  unfold cnt
  rw [List.filter_append, List.length_append]
  by_cases h : p b = true <;> simp [h]
theorem cnt_succ (p : UInt8 → Bool) (s : ByteArray) (k : Nat) (h : k < s.size) : cnt p (s.data.toList.take (k + 1)) = cnt p (s.data.toList.take k) + if p s[k] = true then 1 else 0 := by
  rw [take_succ s k h, cnt_snoc]
theorem cnt_le (p : UInt8 → Bool) (l : List UInt8) : cnt p l ≤ l.length := List.length_filter_le _ _
theorem cnt_take (p : UInt8 → Bool) (l : List UInt8) (k : Nat) : cnt p (l.take k) ≤ cnt p l := by
  unfold cnt
  exact List.Sublist.length_le ((List.take_sublist k l).filter p)

theorem runW_cnt (p : UInt8 → Bool) (l : List UInt8) : (runW p l).1.length ≤ cnt p l := by
  refine snoc_ind (P := fun l => (runW p l).1.length ≤ cnt p l) (by simp [runW, cnt]) ?_ l
  intro l b ih
  rw [runW_snoc, cnt_snoc, stepW]
  split
  · split <;> simp <;> omega
  · simp; omega

theorem runW_len (p : UInt8 → Bool) (l : List UInt8) : (runW p l).1.length ≤ l.length := Nat.le_trans (runW_cnt p l) (cnt_le p l)
theorem words_len (p : UInt8 → Bool) (l : List UInt8) : (words p l).length ≤ l.length + 1 := by
  have := runW_len p l
  unfold words flush
  split
  · omega
  · simp; omega

/-- every word is at most as long as the text -/
theorem runW_part (p : UInt8 → Bool) (l : List UInt8) : (∀ q ∈ (runW p l).1, q.length ≤ l.length) ∧ (runW p l).2.length ≤ l.length := by
  refine snoc_ind (P := fun l => (∀ q ∈ (runW p l).1, q.length ≤ l.length) ∧ (runW p l).2.length ≤ l.length) (by simp [runW]) ?_ l
  intro l b ih
  rw [runW_snoc, stepW]
  split
  · split
    · exact ⟨fun q hq => by have := ih.1 q hq; simp; omega, by simp⟩
    · refine ⟨?_, by simp⟩
      intro q hq
      rw [List.mem_append, List.mem_singleton] at hq
      rcases hq with h | h
      · have := ih.1 q h; simp; omega
      · rw [h]; have := ih.2; simp; omega
  · exact ⟨fun q hq => by have := ih.1 q hq; simp; omega, by have := ih.2; simp; omega⟩
theorem words_part (p : UInt8 → Bool) (l q : List UInt8) (h : q ∈ words p l) : q.length ≤ l.length := by
  unfold words flush at h
  split at h
  · exact (runW_part p l).1 q h
  · rw [List.mem_append, List.mem_singleton] at h
    rcases h with h | h
    · exact (runW_part p l).1 q h
    · rw [h]; exact (runW_part p l).2

/-- blanks, tabs, carriage returns and line ends -/
def ws (b : UInt8) : Bool := [32, 13, 9, 10].contains b
theorem ws_has (L : ByteArray) (k : Nat) (h : k < L.size) : has (L.extract k (k + 1)).data.toList [32, 9, 13, 10] = ws L[k] := by
  have hl : L.data.toList.length = L.size := by simp
  rw [Lib.extract_data]
  have hd : L.data.toList.drop k = L[k] :: L.data.toList.drop (k + 1) := by
    rw [List.drop_eq_getElem_cons (by omega)]; rfl
  rw [hd, show k + 1 - k = 1 by omega]
  unfold has ws
  simp only [List.take_succ_cons, List.take_zero, List.any_cons, List.any_nil, Bool.or_false]
  rw [Bool.eq_iff_iff]
  simp
  constructor
  · rintro (h | h | h | h) <;> simp [h]
  · rintro (h | h | h | h) <;> simp [h]

theorem cut_nil (s : ByteArray) (la k : Nat) (h1 : la ≤ k) (h2 : k ≤ s.size) : (s.data.toList.take k).drop la = [] ↔ la = k := by
  have hl : s.data.toList.length = s.size := by simp
  rw [List.drop_eq_nil_iff, List.length_take]
  omega

end Go.Proofs.YtfkohahlpfejbaaDoor.pl

/- Words: WALKS: Words of the reference; the statements' same. -/
namespace Go.Proofs.YtfkohahlpfejbaaDoor
open Go.RowKit

theorem has_val' (s t : ByteArray) (b : Bool) (w : World) (hs : s.size ≤ 17592186044416) (ht : t.size ≤ 17592186044416) (h : pl.has s.data.toList t.data.toList = b) :
    Calls Tryd.prog 35 #[.string s, .string t] w fun e w' => e = .returned (.bool b) ∧ ∃ n, w' = w.drewN n := by
  rw [← h]; exact has_any s t w hs ht

theorem Strs.drewN {w : World} {B : Nat} {v : Value} {l : List (List UInt8)} (h : Strs w B v l) (n : Nat) : Strs (w.drewN n) B v l := h.below (below_drewN (Below.refl _ _) _)

end Go.Proofs.YtfkohahlpfejbaaDoor

/- Fields: WALKS: countAnyByte, splitAtBytes, getFields. -/
namespace Go.Proofs.YtfkohahlpfejbaaDoor
open Go.RowKit

theorem idx_val' (s : ByteArray) (c : Int) (i : Int) (w : World) (h : pl.idx s.data.toList c = i) (hs : s.size ≤ 17592186044416) :
    Calls Tryd.prog 82 #[.string s, .int .u8 c] w fun e w' => e = .returned (.int .i64 i) ∧ w = w' := by
  rw [← h]; exact idx_any s c w (by unfold maxLen; omega)

/-- is the byte one of the text's? -/
def sepB (t : ByteArray) (b : UInt8) : Bool := t.data.toList.contains b

theorem sep_idx (t : ByteArray) (b : UInt8) : sepB t b = true ↔ 0 ≤ pl.idx t.data.toList b.toNat := by
  rw [pl.idx_ge, sepB, List.contains_iff_mem]

set_option maxHeartbeats 1000000 in
theorem count_any (s t : ByteArray) (w : World) (hs : s.size ≤ 17592186044416) (ht : t.size ≤ 17592186044416) :
    Calls Tryd.prog 105 #[.string s, .string t] w fun e w' => e = .returned (.int .i64 (pl.cnt (sepB t) s.data.toList)) ∧ w = w' := by
  have hl : s.data.toList.length = s.size := by simp
  go_enter Tryd.func105, Tryd.ntmps105
  go_wp2_with fail
  go_loop [5, 6] (fun n i => ∃ k c : Nat, k ≤ s.size ∧ c ≤ k ∧ i = .int .i64 k ∧ n = .int .i64 c ∧ Hid (c = pl.cnt (sepB t) (s.data.toList.take k))) (fun _ i => s.size - (intOf i).toNat)
  case atStart => exact ⟨0, 0, Nat.zero_le _, Nat.le_refl _, rfl, rfl, Lib.hid rfl⟩
  case round =>
    obtain ⟨k, c, hk, hc, rfl, rfl, HC⟩ := hrel
    by_cases hlt : k < s.size
    · obtain ⟨x, hx⟩ : ∃ x, s[k] = x := ⟨_, rfl⟩
      have HS := Lib.hid (pl.cnt_succ (sepB t) s k hlt)
      rw [hx] at HS
      obtain ⟨q, hq⟩ : ∃ q, pl.idx t.data.toList x.toNat = q := ⟨_, rfl⟩
      have hsi := sep_idx t x
      rw [hq] at hsi
      have HQ := Lib.hid hq
      clear hq
      rcases hb : sepB t x with _ | _
      · have hq0 : ¬ 0 ≤ q := fun h => by rw [hsi.2 h] at hb; cases hb
        rw [hb] at HS
        clear hsi hb
        go_wp2_with (go_at_call 82; refine (idx_val' t x.toNat q _ HQ.out ht).mono ?_; rintro e w' ⟨rfl, rfl⟩)
        go_round
        case rel => exact ⟨k + 1, c, by omega, by omega, by go_num, rfl, Lib.hid (by rw [HS.out, ← HC.out]; simp)⟩
        case measure => simp [intOf]; omega
      · have hq0 : 0 ≤ q := hsi.1 hb
        rw [hb] at HS
        clear hsi hb
        go_wp2_with (go_at_call 82; refine (idx_val' t x.toNat q _ HQ.out ht).mono ?_; rintro e w' ⟨rfl, rfl⟩)
        go_round
        case rel => exact ⟨k + 1, c + 1, by omega, by omega, by go_num, by go_num, Lib.hid (by rw [HS.out, ← HC.out]; simp)⟩
        case measure => simp [intOf]; omega
    · rw [pl.take_all s k (by omega)] at HC
      go_wp2_with fail
      go_ret
      exact ⟨ret_int (by rw [HC.out]), rfl⟩

/-- Block g is a row of strings: so many cells, the first ones known. -/
def StrBlk (w : World) (g cap : Nat) (l : List (List UInt8)) : Prop :=
  ∃ cur : Array Value, w.heap[g]? = some (.cells cur 9 (0, 0)) ∧ cur.size = cap ∧ cur.toList.take l.length = l.map pl.strV

theorem StrBlk.cell {w : World} {g cap : Nat} {l : List (List UInt8)} (h : StrBlk w g cap l) (j : Nat) (hj : j < cap) : ∃ v, w.cell? ⟨g, j, none⟩ = some v := by
  obtain ⟨cur, hh, hs, _⟩ := h
  exact ⟨cur[j], by simp [World.cell?, hh, hs, hj]⟩
theorem StrBlk.frozen {w : World} {g cap : Nat} {l : List (List UInt8)} (h : StrBlk w g cap l) (j : Nat) : w.frozen? ⟨g, j, none⟩ = false := by
  obtain ⟨cur, hh, _, _⟩ := h
  simp [World.frozen?, hh]
theorem StrBlk.put {w : World} {g cap : Nat} {l : List (List UInt8)} (h : StrBlk w g cap l) (hj : l.length < cap) (p : List UInt8) : StrBlk (w.setCell ⟨g, l.length, none⟩ (pl.strV p)) g cap (l ++ [p]) := by
  obtain ⟨cur, hh, hs, ht⟩ := h
  refine ⟨cur.setIfInBounds l.length (pl.strV p), ?_, by simpa using hs, ?_⟩
  · simp [World.setCell, Array.getElem?_modify, hh]
  · rw [List.length_append, List.length_singleton, List.map_append, ← ht, Array.toList_setIfInBounds, List.take_succ_eq_append_getElem (by simp; omega), List.take_set, List.set_eq_of_length_le (by simp; omega)]
    simp
theorem StrBlk.strs {w : World} {g cap : Nat} {l : List (List UInt8)} (h : StrBlk w g cap l) (B : Nat) (hB : B ≤ g) (hc : cap ≤ maxLen) (hl : l.length ≤ cap) : Strs w B (.slice (some ⟨g, 0, none⟩) l.length cap) l := by
  obtain ⟨cur, hh, hs, ht⟩ := h
  exact ⟨by simp, Or.inr ⟨g, cap, cur, rfl, hB, hh, hl, hc, by omega, by rw [Nat.mul_one]; exact ht⟩⟩

set_option maxRecDepth 100000 in
set_option maxHeartbeats 1000000 in
theorem split_at (s t : ByteArray) (w : World) (hs : s.size ≤ 4398046511104) (ht : t.size ≤ 17592186044416) :
    Calls Tryd.prog 97 #[.string s, .string t] w fun e w' => ∃ v, e = .returned v ∧ Strs w' w.heap.size v (pl.words (sepB t) s.data.toList) ∧ Below w.heap.size w w' := by
  have hl : s.data.toList.length = s.size := by simp
  obtain ⟨i0, hi, hz0, hz1, hz2⟩ := info_parts infoStr
  obtain ⟨N, hN⟩ : ∃ N, pl.cnt (sepB t) s.data.toList = N := ⟨_, rfl⟩
  have hNs : N ≤ s.size := by rw [← hN, ← hl]; exact pl.cnt_le _ _
  have HN := Lib.hid hN
  clear hN
  go_enter Tryd.func97, Tryd.ntmps97
  go_wp2_with (first | (go_at_call 105; refine (count_any _ _ _ (by omega) ht).mono ?_; rintro e w' ⟨rfl, rfl⟩; rw [HN.out]) | (at_make; (refine wpList_make_full _ rfl _ _ 31 rfl w.heap.size 9 i0 (.string ⟨#[]⟩) 1 Tryd.underlying31 hi hz0 hz1 _ _ _ _ (N + 1) rfl rfl (by omega) (by omega) (by rw [hz2]; omega) (by unfold maxLen; omega) (Nat.le_refl _) ?_)))
  intro w1 hown1 hg1
  have hb1 : Below w.heap.size w w1 := (Below.refl _ _).grown hg1 (Nat.le_refl _) (fun k hk => by cases hk)
  have hblk : StrBlk w1 w.heap.size (N + 1) [] := by
    rcases hown1.2 with ⟨h, _⟩ | ⟨g, cap, cur, hv, _, hh, _, _, hs, _⟩
    · cases h
    · injection hv with hv1 hv2 hv3
      injection hv1 with hv1
      injection hv1 with hv1
      exact ⟨cur, by rw [hv1]; exact hh, by omega, by simp⟩
  clear hown1 hg1
  go_wp2_with fail
  go_loopw [6, 7, 8] (fun n la i wr => ∃ k f c : Nat, k ≤ s.size ∧ f ≤ k ∧ c ≤ N ∧ i = .int .i64 k ∧ la = .int .i64 f ∧ n = .int .i64 c ∧ Hid (c = (pl.runW (sepB t) (s.data.toList.take k)).1.length) ∧
      Hid ((pl.runW (sepB t) (s.data.toList.take k)).2 = (s.data.toList.take k).drop f) ∧ StrBlk wr w.heap.size (N + 1) (pl.runW (sepB t) (s.data.toList.take k)).1 ∧ Below w.heap.size w wr) (fun _ _ i _ => s.size - (intOf i).toNat)
  case atStart => exact ⟨0, 0, 0, Nat.zero_le _, Nat.le_refl _, Nat.zero_le _, rfl, rfl, rfl, Lib.hid rfl, Lib.hid rfl, hblk, hb1⟩
  case round =>
    obtain ⟨k, f, c, hk, hf, hc, rfl, rfl, rfl, HC, HCur, hblk, hb⟩ := hrel
    by_cases hlt : k < s.size
    · obtain ⟨x, hx⟩ : ∃ x, s[k] = x := ⟨_, rfl⟩
      have HS := pl.runW_succ (sepB t) s k hlt
      rw [hx, pl.stepW] at HS
      obtain ⟨q, hq⟩ : ∃ q, pl.idx t.data.toList x.toNat = q := ⟨_, rfl⟩
      have hsi := sep_idx t x
      rw [hq] at hsi
      have HQ := Lib.hid hq
      clear hq
      rcases hbx : sepB t x with _ | _
      · have hq0 : ¬ 0 ≤ q := fun h => by rw [hsi.2 h] at hbx; cases hbx
        rw [if_neg (by rw [hbx]; simp), HCur.out] at HS
        have HS2 := Lib.hid HS
        clear hsi hbx HS
        go_wp2_with (go_at_call 82; refine (idx_val' t x.toNat q _ HQ.out ht).mono ?_; rintro e w' ⟨rfl, rfl⟩)
        go_roundw
        case rel => exact ⟨k + 1, f, c, by omega, by omega, by omega, by go_num, rfl, rfl, Lib.hid (by rw [HS2.out, HC.out]), Lib.hid (by rw [HS2.out, pl.take_drop_succ s f k hf hlt, hx]), by rw [HS2.out]; exact hblk, hb⟩
        case measure => simp [intOf]; omega
      · have hq0 : 0 ≤ q := hsi.1 hbx
        rw [if_pos hbx, HCur.out] at HS
        have hcnt := pl.cnt_succ (sepB t) s k hlt
        rw [hx, hbx] at hcnt
        have hc1 := pl.runW_cnt (sepB t) (s.data.toList.take k)
        have hc2 := pl.cnt_take (sepB t) s.data.toList (k + 1)
        rw [HN.out, hcnt] at hc2
        rw [← HC.out] at hc1
        simp at hc2
        have hcN : c + 1 ≤ N := by omega
        clear hsi hbx hcnt hc1 hc2
        by_cases hfk : f = k
        · rw [if_pos ((pl.cut_nil s f k hf hk).2 hfk)] at HS
          have HS2 := Lib.hid HS
          have hnn : ¬ (f : Int) < (k : Int) := by omega
          clear HS
          go_wp2_with (go_at_call 82; refine (idx_val' t x.toNat q _ HQ.out ht).mono ?_; rintro e w' ⟨rfl, rfl⟩)
          go_roundw
          case rel => exact ⟨k + 1, k + 1, c, by omega, Nat.le_refl _, by omega, by go_num, by go_num, rfl, Lib.hid (by rw [HS2.out, HC.out]), Lib.hid (by rw [HS2.out]; simp), by rw [HS2.out]; exact hblk, hb⟩
          case measure => simp [intOf]; omega
        · rw [if_neg (fun h => hfk ((pl.cut_nil s f k hf hk).1 h))] at HS
          have HS2 := Lib.hid HS
          have hnn : (f : Int) < (k : Int) := by omega
          clear HS
          obtain ⟨old, hcell⟩ := hblk.cell c (by omega)
          have hfr := hblk.frozen c
          have hput := hblk.put (by rw [← HC.out]; omega) ((s.data.toList.take k).drop f)
          rw [← HC.out, ← pl.extract_strV] at hput
          have HP := Lib.hid hput
          have HB := Lib.hid hblk
          clear hput hblk
          go_wp2_with (go_at_call 82; refine (idx_val' t x.toNat q _ HQ.out ht).mono ?_; rintro e w' ⟨rfl, rfl⟩)
          go_roundw
          case rel => exact ⟨k + 1, k + 1, c + 1, by omega, Nat.le_refl _, by omega, by go_num, by go_num, by go_num, Lib.hid (by rw [HS2.out, HC.out]; simp), Lib.hid (by rw [HS2.out]; simp), by rw [HS2.out]; exact HP.out, hb.setCell (Nat.le_refl _) _⟩
          case measure => simp [intOf]; omega
    · rw [pl.take_all s k (by omega)] at HC HCur hblk
      have hW : pl.words (sepB t) s.data.toList = pl.flush (pl.runW (sepB t) s.data.toList) := rfl
      unfold pl.flush at hW
      have hnil := pl.cut_nil s f k hf (by omega)
      rw [pl.take_all s k (by omega)] at hnil
      by_cases hfk : f = k
      · rw [HCur.out, if_pos (hnil.2 hfk)] at hW
        have HW := Lib.hid hW
        have hnn : ¬ (f : Int) < (s.size : Int) := by omega
        have hs2 := hblk.strs w.heap.size (Nat.le_refl _) (by unfold maxLen; omega) (by rw [← HC.out]; omega)
        rw [← HC.out] at hs2
        clear hW hnil hblk
        go_wp2_with fail
        go_ret
        exact ⟨_, rfl, by rw [HW.out]; exact hs2, hb⟩
      · rw [HCur.out, if_neg (fun h => hfk (hnil.1 h))] at hW
        have HW := Lib.hid hW
        have hnn : (f : Int) < (s.size : Int) := by omega
        obtain ⟨old, hcell⟩ := hblk.cell c (by omega)
        have hfr := hblk.frozen c
        have hput := hblk.put (by rw [← HC.out]; omega) (s.data.toList.drop f)
        have he : Value.string (s.extract f s.size) = pl.strV (s.data.toList.drop f) := by rw [pl.extract_strV, ← hl, List.take_length]
        rw [← HC.out, ← he] at hput
        have hs2 := hput.strs w.heap.size (Nat.le_refl _) (by unfold maxLen; omega) (by rw [List.length_append, ← HC.out, List.length_singleton]; omega)
        rw [List.length_append, ← HC.out, List.length_singleton] at hs2
        have HS2 := Lib.hid hs2
        clear hW hnil hblk hput he hs2
        go_wp2_with fail
        go_ret
        exact ⟨_, rfl, by rw [HW.out]; exact HS2.out, hb.setCell (Nat.le_refl _) _⟩

theorem fields_any (s : ByteArray) (w : World) (hs : s.size ≤ 4398046511104) :
    Calls Tryd.prog 84 #[.string s] w fun e w' => ∃ v, e = .returned v ∧ Strs w' w.heap.size v (pl.words pl.ws s.data.toList) ∧ Below w.heap.size w w' := by
  go_enter Tryd.func84, Tryd.ntmps84
  go_wp2_with (go_at_call 97; refine (split_at _ _ _ hs (by simp [ByteArray.size])).mono ?_; rintro e w' ⟨v, rfl, hS, hb⟩)
  go_ret
  exact ⟨_, rfl, hS, hb⟩

end Go.Proofs.YtfkohahlpfejbaaDoor

/- Line: WALK: readLine. -/
namespace Go.Proofs.YtfkohahlpfejbaaDoor
open Go.RowKit

def pl.lineK (l : List UInt8) : Nat := if pl.idx l 10 < 0 then l.length else (pl.idx l 10).toNat

theorem ret_sb {a b : ByteArray} {c : Bool} (h1 : a = b) : Ending.returned (.tuple #[.string a, .bool c]) = .returned (.tuple #[.string b, .bool c]) := by rw [h1]

set_option maxHeartbeats 400000 in
theorem rl_empty (g : Nat) (s : ByteArray) (w : World) (h : s.size = 0) (hc : w.cell? ⟨g, 0, none⟩ = some (.string s)) :
    Calls Tryd.prog 83 #[.pointer (some ⟨g, 0, none⟩)] w fun e w' => e = .returned (.tuple #[.string ⟨#[]⟩, .bool false]) ∧ w = w' := by
  go_enter Tryd.func83, Tryd.ntmps83
  go_wp2_with fail
  go_ret2
  exact ⟨rfl, rfl⟩

set_option maxHeartbeats 400000 in
theorem rl_any (g : Nat) (s : ByteArray) (w : World) (h : 0 < s.size) (hs : s.size ≤ 17592186044416) (hc : w.cell? ⟨g, 0, none⟩ = some (.string s)) (hf : w.frozen? ⟨g, 0, none⟩ = false) :
    Calls Tryd.prog 83 #[.pointer (some ⟨g, 0, none⟩)] w fun e w' =>
      e = .returned (.tuple #[.string ⟨(s.data.toList.take (pl.lineK s.data.toList)).toArray⟩, .bool true]) ∧ ∃ n, w' = (w.setCell ⟨g, 0, none⟩ (.string ⟨(s.data.toList.drop (pl.lineK s.data.toList + 1)).toArray⟩)).drewN n := by
  have hl : s.data.toList.length = s.size := by simp
  have h0 : ((s.size : Int) == 0) = false := by rw [beq_eq_false_iff_ne]; omega
  obtain ⟨I, hI⟩ : ∃ I, pl.idx s.data.toList 10 = I := ⟨_, rfl⟩
  by_cases h1 : I < 0
  · have hk : pl.lineK s.data.toList = s.size := by unfold pl.lineK; rw [hI, if_pos h1, hl]
    have HK := Lib.hid hk
    have HI := Lib.hid hI
    clear hk hl hI
    go_enter Tryd.func83, Tryd.ntmps83
    go_wp2_with (go_at_call 82; refine (idx_val' s 10 _ _ HI.out hs).mono ?_; rintro e w' ⟨rfl, rfl⟩)
    go_ret2
    have e1 : (⟨(List.take s.size s.data.toList).toArray⟩ : ByteArray) = s := pl.ba_ext (List.take_of_length_le (by simp))
    have e2 : (⟨(List.drop (s.size + 1) s.data.toList).toArray⟩ : ByteArray) = ⟨#[]⟩ := pl.ba_ext (by simp)
    rw [HK.out, e1, e2]
    exact ⟨rfl, 0, rfl⟩
  · obtain ⟨k, rfl⟩ : ∃ k : Nat, I = k := ⟨I.toNat, by omega⟩
    have hk : pl.lineK s.data.toList = k := by unfold pl.lineK; rw [hI, if_neg h1]; simp
    have hks := pl.idx_lt s.data.toList 10
    rw [hI, hl] at hks
    have hks' : (k : Int) < s.size := by omega
    have HK := Lib.hid hk
    have HI := Lib.hid hI
    clear hk hl hI h1 hks
    go_enter Tryd.func83, Tryd.ntmps83
    go_wp2_with (go_at_call 82; refine (idx_val' s 10 _ _ HI.out hs).mono ?_; rintro e w' ⟨rfl, rfl⟩)
    go_region
    go_wp2_with fail
    go_ret2
    rw [HK.out, ← pl.ext_take s k, ← pl.ext_drop s (k + 1)]
    exact ⟨rfl, 1, rfl⟩

end Go.Proofs.YtfkohahlpfejbaaDoor

/- Same: WALKS: the statements' same; the law FnFields. -/
namespace Go.Proofs.YtfkohahlpfejbaaDoor
open Go.RowKit

set_option maxHeartbeats 1000000 in
theorem same_any (va vb : Value) (la lb : List (List UInt8)) (B1 B2 : Nat) (w : World) (ha : Strs w B1 va la) (hb : Strs w B2 vb lb) (h1 : la.length ≤ 8796093022208) (h2 : lb.length ≤ 8796093022208) :
    Calls Tryd.prog 17 #[va, vb] w fun e w' => e = .returned (.bool (decide (la = lb))) ∧ ∃ n, w' = w.drewN n := by
  obtain ⟨a, ca, rfl, hca⟩ := ha.form
  obtain ⟨b, cb, rfl, hcb⟩ := hb.form
  by_cases hne : la.length = lb.length
  · have hb1 : ((la.length : Int) != (lb.length : Int)) = false := by rw [bne_eq_false_iff_eq]; omega
    have HNE := Lib.hid hne
    have h2' : lb.length ≤ 8796093022208 := h2
    clear hne
    have HA := Lib.hid hca
    have HB := Lib.hid hcb
    clear hca hcb ha hb
    go_enter Tryd.func17, Tryd.ntmps17
    go_wp2_with fail
    go_loopw [13] (fun i wr => ∃ k n : Nat, k ≤ la.length ∧ i = .int .i64 k ∧ wr = w.drewN n ∧ Hid (la.take k = lb.take k)) (fun i _ => la.length - (intOf i).toNat)
    case atStart => exact ⟨0, 0, Nat.zero_le _, rfl, rfl, Lib.hid rfl⟩
    case round =>
      obtain ⟨k, n, hk, rfl, rfl, HT⟩ := hrel
      by_cases hlt : k < la.length
      · have hlt2 : k < lb.length := by rw [← HNE.out]; exact hlt
        obtain ⟨L, hL⟩ : ∃ L : ByteArray, L.data.toList = la[k] := ⟨⟨la[k].toArray⟩, rfl⟩
        obtain ⟨M, hM⟩ : ∃ M : ByteArray, M.data.toList = lb[k] := ⟨⟨lb[k].toArray⟩, rfl⟩
        have hLk : la[k]? = some L.data.toList := by rw [hL]; exact List.getElem?_eq_getElem hlt
        have hMk : lb[k]? = some M.data.toList := by rw [hM]; exact List.getElem?_eq_getElem hlt2
        obtain ⟨g1, rfl, hg1, _, hc1⟩ := HA.out k _ hLk
        obtain ⟨g2, rfl, hg2, _, hc2⟩ := HB.out k _ hMk
        rw [pl.strV_of] at hc1 hc2
        have HLk := Lib.hid hLk
        have HMk := Lib.hid hMk
        have hi1 : (0 : Int) ≤ (k : Int) ∧ (k : Int) < (la.length : Int) := by omega
        have hi2 : (0 : Int) ≤ (k : Int) ∧ (k : Int) < (lb.length : Int) := by omega
        clear hL hM hLk hMk
        go_wp2_with fail
        go_quiet (fail)
        go_wp2
        · have h : (!L.toList == M.toList) = true := by assumption
          have hd : la ≠ lb := by
            intro e
            rw [e] at HLk
            have h3 := HLk.out.symm.trans HMk.out
            injection h3 with h3
            rw [Lib.toList_data, Lib.toList_data, h3] at h
            simp at h
          go_ret
          exact ⟨ret_bool (decide_eq_false hd).symm, _, World.drewN_drewN ..⟩
        · have h : (!L.toList == M.toList) = false := by assumption
          have hd : L.data.toList = M.data.toList := by
            rw [Lib.toList_data, Lib.toList_data] at h
            simpa using h
          go_roundw
          case rel => exact ⟨k + 1, _, by omega, by go_num, rfl, Lib.hid (by rw [pl.take_snoc_of la k _ HLk.out, pl.take_snoc_of lb k _ HMk.out, HT.out, hd])⟩
          case measure => simp [intOf]; omega
      · have hd : la = lb := by
          have := HT.out
          rwa [List.take_of_length_le (by omega), List.take_of_length_le (by rw [← HNE.out]; omega)] at this
        have HD := Lib.hid hd
        clear hd
        go_wp2_with fail
        go_ret
        exact ⟨ret_bool (decide_eq_true HD.out).symm, _, rfl⟩
  · have hb1 : ((la.length : Int) != (lb.length : Int)) = true := by rw [bne_iff_ne]; omega
    have hd : la ≠ lb := fun e => hne (by rw [e])
    have HD := Lib.hid hd
    clear hne hd hca hcb ha hb
    go_enter Tryd.func17, Tryd.ntmps17
    go_wp2_with fail
    go_ret
    exact ⟨ret_bool (decide_eq_false HD.out).symm, 0, rfl⟩

end Go.Proofs.YtfkohahlpfejbaaDoor
