/-
  WALKS: Lower.
-/
import Derived.Test.YtabeklpllphiaaaIdx
import Derived.Test.YtabeklpllphiaaaMem
namespace Go.Proofs.Ytabeklpllphiaaa
open Go.RowKit

set_option maxHeartbeats 400000 in
theorem low_sp (s : ByteArray) (w : World) (hs : s.size ≤ 17592186044416) :
    Calls Try.prog 11 #[.string s] w fun e w' => e = .returned (.string ⟨(pl.low s.data.toList).toArray⟩) ∧ Below w.heap.size w w' := by
  have hconv := run_bytes_of_string (P := Try.prog) w 9 33 5 s Try.underlying9 Try.underlying33 Try.underlying5
  have h0 := ByteRow.of_string w s (grownCap w s.size 0 5)
  obtain ⟨cap, hcap⟩ : ∃ cap, cap = grownCap w s.size 0 5 := ⟨_, rfl⟩
  obtain ⟨W1, hW1⟩ : ∃ W1, W1 = (w.drew.alloc (.cells (bytesRow s (grownCap w s.size 0 5)) 5 ((bytesRow s (grownCap w s.size 0 5)).size, (bytesRow s (grownCap w s.size 0 5)).size + 1))) := ⟨_, rfl⟩
  have hb1 : Below w.heap.size w W1 := by rw [hW1]; exact (Below.refl _ _).drew.alloc (Nat.le_refl _) _
  rw [← hW1] at hconv h0
  rw [← hcap] at hconv
  clear hW1 hcap
  go_enter Try.func11, Try.ntmps11
  go_wp2_with fail
  clear hconv
  go_loopw [10] (fun i wr => ∃ k : Nat, k ≤ s.size ∧ i = .int .i64 k ∧ ByteRow wr w.heap.size (pl.part pl.lowB s.data.toList k) ∧ Below w.heap.size w wr) (fun i _ => s.size - (intOf i).toNat)
  case atStart => exact ⟨0, Nat.zero_le _, rfl, by rw [pl.part_zero]; exact h0, hb1⟩
  case round =>
    obtain ⟨k, hk, rfl, hr, hb⟩ := hrel
    by_cases hlt : k < s.size
    · have hcell := hr.cell k _ (pl.part_at pl.lowB s k hlt)
      have hlen : k < (pl.part pl.lowB s.data.toList k).length := by rw [pl.part_len]; simpa using hlt
      have hfr := hr.frozen k hlen
      have hby := UInt8.toNat_lt s[k]
      have HR := Lib.hid hr
      have HL := Lib.hid hlen
      clear hr hlen
      go_wp2
      · have h1 : 65 ≤ (s[k].toNat : Int) := by assumption
        have h2 : (s[k].toNat : Int) ≤ 90 := by assumption
        have e := pl.lowB_yes s[k] h1 h2
        rw [← e]
        go_roundw
        case rel => exact ⟨k + 1, by omega, by go_num, by rw [← pl.part_succ pl.lowB s k hlt]; exact HR.out.set k _ HL.out, hb.setCell (Nat.le_refl _) _⟩
        case measure => simp [intOf]; omega
      all_goals
        have e : pl.lowB s[k] = s[k] := pl.lowB_no s[k] (by omega)
        go_roundw
        case rel => exact ⟨k + 1, by omega, by go_num, by rw [← pl.part_same pl.lowB s k hlt e]; exact HR.out, hb⟩
        case measure => simp [intOf]; omega
    · have hl : s.size = (pl.part pl.lowB s.data.toList k).length := by rw [pl.part_len]; simp
      have hback := run_convert_bytes_back (P := Try.prog) wr 33 9 5 ⟨w.heap.size, 0, none⟩ cap (pl.part pl.lowB s.data.toList k) Try.underlying33 Try.underlying5 Try.underlying9 (fun j hj => by
        rw [Addr.add_lit, Nat.zero_add]
        exact hr.cell j _ (List.getElem?_eq_getElem hj))
      rw [← hl, pl.part_all _ _ _ (by simpa using hlt)] at hback
      clear hl
      go_wp2
      go_ret
      exact ⟨rfl, hb⟩

end Go.Proofs.Ytabeklpllphiaaa
