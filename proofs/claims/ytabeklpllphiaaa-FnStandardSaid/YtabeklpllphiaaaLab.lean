/-
  WALKS: lowerASCIIBytes; hasUpperCase at a string of plain letters.
-/
import Derived.Test.YtabeklpllphiaaaLow
import Derived.Test.YtabeklpllphiaaaPlain
import Derived.Laws.RangeAny
namespace Go.Proofs.Ytabeklpllphiaaa
open Go.RowKit

theorem pl.lowB_32 (b : UInt8) (h1 : 65 ≤ (b.toNat : Int)) (h2 : (b.toNat : Int) ≤ 90) : ((pl.lowB b).toNat : Int) = (b.toNat : Int) + 32 := by
  have := pl.lowB_yes b h1 h2
  omega

set_option maxHeartbeats 1000000 in
theorem lab_sp (g cap : Nat) (s : ByteArray) (w : World) (hs : s.size ≤ 17592186044416) (h0 : ByteRow w g s.data.toList) :
    Calls Try.prog 60 #[.slice (some ⟨g, 0, none⟩) s.size cap] w fun e w' => e = .returned (.tuple #[]) ∧ ByteRow w' g (pl.low s.data.toList) ∧ Below g w w' := by
  go_enter Try.func60, Try.ntmps60
  go_wp2_with fail
  go_loopw [6] (fun i wr => ∃ k : Nat, k ≤ s.size ∧ i = .int .i64 k ∧ ByteRow wr g (pl.part pl.lowB s.data.toList k) ∧ Below g w wr) (fun i _ => s.size - (intOf i).toNat)
  case atStart => exact ⟨0, Nat.zero_le _, rfl, by rw [pl.part_zero]; exact h0, Below.refl _ _⟩
  case round =>
    obtain ⟨k, hk, rfl, hr, hb⟩ := hrel
    by_cases hlt : k < s.size
    · have hcell := hr.cell k _ (pl.part_at pl.lowB s k hlt)
      have hlen : k < (pl.part pl.lowB s.data.toList k).length := by rw [pl.part_len]; simpa using hlt
      have hfr := hr.frozen k hlen
      have hby := UInt8.toNat_lt s[k]
      have HR := Lib.hid hr
      have HL := Lib.hid hlen
      clear hr hlen
      go_wp2
      · have h1 : 65 ≤ (s[k].toNat : Int) := by assumption
        have h2 : (s[k].toNat : Int) ≤ 90 := by assumption
        have e := pl.lowB_32 s[k] h1 h2
        rw [← e]
        go_roundw
        case rel => exact ⟨k + 1, by omega, by go_num, by rw [← pl.part_succ pl.lowB s k hlt]; exact HR.out.set k _ HL.out, hb.setCell (Nat.le_refl _) _⟩
        case measure => simp [intOf]; omega
      all_goals
        have e : pl.lowB s[k] = s[k] := pl.lowB_no s[k] (by omega)
        go_roundw
        case rel => exact ⟨k + 1, by omega, by go_num, by rw [← pl.part_same pl.lowB s k hlt e]; exact HR.out, hb⟩
        case measure => simp [intOf]; omega
    · have he : pl.part pl.lowB s.data.toList k = pl.low s.data.toList := by rw [pl.part_all _ _ _ (by simpa using hlt)]; rfl
      rw [he] at hr
      go_wp2
      go_end0
      exact ⟨rfl, hr, hb⟩

def pl.upB (b : UInt8) : Bool := decide (65 ≤ b.toNat) && decide (b.toNat ≤ 90)
theorem pl.upB_low (l : List UInt8) (h : l.any pl.upB = false) : pl.low l = l := by
  unfold pl.low
  rw [List.any_eq_false] at h
  conv => rhs; rw [← List.map_id l]
  refine List.map_congr_left fun x hx => ?_
  have := h x hx
  unfold pl.upB at this
  unfold pl.lowB
  rw [if_neg (by simpa using this)]
  rfl

set_option maxHeartbeats 1000000 in
theorem hup_sp (s : ByteArray) (w : World) (hs : s.size ≤ 17592186044416) (ha : ∀ b ∈ s.data.toList, b.toNat < 128) :
    Calls Try.prog 59 #[.string s] w fun e w' => e = .returned (.bool (s.data.toList.any pl.upB)) ∧ Below w.heap.size w w' := by
  have HA := Lib.hid ha
  clear ha
  go_enter Try.func59, Try.ntmps59
  go_wp2_with fail
  go_loopw [3] (fun _ wr => ∃ pos : Nat, wr = w.iter s pos ∧ pos ≤ s.size ∧ Hid ((s.data.toList.take pos).any pl.upB = false)) (fun _ wr => s.size - wr.iterPos w.heap.size)
  case atStart => exact ⟨0, rfl, Nat.zero_le _, Lib.hid rfl⟩
  case round =>
    obtain ⟨pos, rfl, hp, HP⟩ := hrel
    by_cases hlt : pos < s.size
    · obtain ⟨x, hx⟩ : ∃ x, s[pos] = x := ⟨_, rfl⟩
      have hby := UInt8.toNat_lt x
      have hasc : x.toNat < 128 := HA.out x (by rw [← hx]; exact List.mem_of_getElem? (pl.getElem_data s pos hlt))
      have hnx : ∀ ty, (Instr.next (.pointer (some ⟨w.heap.size, 0, none⟩)) true ty).run Try.prog (w.iter s pos) = .ok (.tuple #[.bool true, .int .i64 pos, .int .i32 x.toNat]) (w.iter s (pos + 1)) := fun ty => by
        rw [← hx]; exact run_next_ascii w s pos ty hlt (by rw [hx]; exact hasc)
      have HX := Lib.hid hx
      clear hasc
      by_cases h1 : 65 ≤ (x.toNat : Int)
      · by_cases h2 : (x.toNat : Int) ≤ 90
        · have hu : s.data.toList.any pl.upB = true := by
            rw [List.any_eq_true]
            exact ⟨x, by rw [← hx]; exact List.mem_of_getElem? (pl.getElem_data s pos hlt), by unfold pl.upB; simp; omega⟩
          have HU := Lib.hid hu
          clear hu
          go_wp2
          go_ret
          exact ⟨by rw [HU.out]; rfl, (Below.refl _ _).alloc (Nat.le_refl _) _⟩
        · have hn : (s.data.toList.take (pos + 1)).any pl.upB = false := by
            rw [pl.take_succ s pos hlt, List.any_append, HP.out, hx]; simp [pl.upB]; omega
          have HN := Lib.hid hn
          clear hn
          go_wp2
          go_roundw
          case rel => exact ⟨pos + 1, rfl, by omega, HN⟩
          case measure => simp; omega
      · have hn : (s.data.toList.take (pos + 1)).any pl.upB = false := by
          rw [pl.take_succ s pos hlt, List.any_append, HP.out, hx]; simp [pl.upB]; omega
        have HN := Lib.hid hn
        clear hn
        go_wp2
        go_roundw
        case rel => exact ⟨pos + 1, rfl, by omega, HN⟩
        case measure => simp; omega
    · have hnx : ∀ ty, (Instr.next (.pointer (some ⟨w.heap.size, 0, none⟩)) true ty).run Try.prog (w.iter s pos) = _ := fun ty => run_next_end w s pos ty hlt
      rw [pl.take_all s pos (by omega)] at HP
      go_wp2
      go_ret
      exact ⟨by rw [HP.out]; rfl, (Below.refl _ _).alloc (Nat.le_refl _) _⟩

end Go.Proofs.Ytabeklpllphiaaa
