/-
  WALKS: HardwareText of the reference; String of a hardware address.
-/
import Derived.Test.YtabeklpllphiaaaByt
import Derived.Test.YtabeklpllphiaaaIdx
import Derived.Test.YtabeklpllphiaaaPlMac
namespace Go.Proofs.Ytabeklpllphiaaa
open Go.RowKit

set_option maxHeartbeats 1000000 in
theorem hwt_sp (v : Value) (l : List UInt8) (w : World) (hv : Reads w v l) (hl : l.length ≤ 4294967296) :
    Calls Try.prog 18 #[v] w fun e w' => e = .returned (.string ⟨(pl.macT l).toArray⟩) ∧ ∃ n, w' = w.drewN n := by
  obtain ⟨a, cap, rfl, h1, h2, h0, h3⟩ := hv
  have H3 := Lib.hid h3
  clear h3 h0
  go_enter Try.func18, Try.ntmps18
  go_wp2_with fail
  go_loopw [3, 8] (fun s i wr => ∃ (k n : Nat) (S : ByteArray), k ≤ l.length ∧ i = .int .i64 k ∧ s = .string S ∧ wr = w.drewN n ∧ Hid (S.data.toList = pl.macT (l.take k))) (fun _ i _ => l.length - (intOf i).toNat)
  case atStart => exact ⟨0, 0, _, Nat.zero_le _, rfl, rfl, rfl, Lib.hid rfl⟩
  case round =>
    obtain ⟨k, n, S, hk, rfl, rfl, rfl, HS⟩ := hrel
    have hsz : S.size ≤ 3 * k := by
      have := pl.macT_len (l.take k)
      rw [← HS.out, List.length_take] at this
      have e : S.data.toList.length = S.size := by simp
      omega
    by_cases hlt : k < l.length
    · obtain ⟨b, hb⟩ : ∃ b, l[k]? = some b := ⟨_, List.getElem?_eq_getElem hlt⟩
      obtain ⟨g, o, rfl, hg, hc⟩ := H3.out k b hb
      have HB := Lib.hid hb
      have hby := UInt8.toNat_lt b
      clear hb
      unfold pl.byteV at hc
      go_wp2_with fail
      · go_quiet (fail)
        have h0 : 0 < k := by assumption
        go_wp2_with fail
        go_roundw
        case rel => exact ⟨k + 1, _, _, by omega, by go_num, rfl, rfl, Lib.hid (by rw [pl.macT_succ l k b HB.out h0]; exact pl.hwt_step _ b _ (pl.colon S _ HS.out))⟩
        case measure => simp [intOf]; omega
      · go_quiet (fail)
        have h0 : k = 0 := by omega
        go_wp2_with fail
        go_roundw
        case rel => exact ⟨k + 1, _, _, by omega, by go_num, rfl, rfl, Lib.hid (by subst h0; rw [pl.macT_first l b HB.out]; exact pl.hwt_step _ b _ HS.out)⟩
        case measure => simp [intOf]; omega
    · have hd : S.data.toList = pl.macT l := by
        have := HS.out
        rwa [List.take_of_length_le (by omega)] at this
      have HD := Lib.hid hd
      clear hd
      go_wp2_with fail
      go_ret
      exact ⟨ret_str (by rw [← HD.out]), _, rfl⟩

theorem hxv (n : Nat) (h : n < pl.hexd.size) : Value.int .u8 ((pl.hexd[n]'h).toNat : Int) = pl.byteV (pl.hx n) := by
  rw [pl.hx_at]; rfl

set_option maxRecDepth 100000 in
set_option maxHeartbeats 1000000 in
theorem mac_str (v : Value) (l : List UInt8) (w : World) (hv : Reads w v l) (hl : l.length ≤ 4294967296) :
    Calls Try.prog 32 #[v] w fun e w' => e = .returned (.string ⟨(pl.macT l).toArray⟩) ∧ Below w.heap.size w w' := by
  have hv0 := hv
  obtain ⟨a, cap, rfl, h1, h2, h0, h3⟩ := hv
  have H3 := Lib.hid h3
  clear h3 h0
  obtain ⟨i0, hi, hz0, hz1, hz2⟩ := info_parts infoByte
  by_cases hne : l = []
  · subst hne
    go_enter Try.func32, Try.ntmps32
    go_wp2_with fail
    go_ret
    exact ⟨rfl, Below.refl _ _⟩
  · have hl0 : 0 < l.length := List.length_pos_iff.2 hne
    have hz : ((l.length : Int) == 0) = false := by simpa using hne
    obtain ⟨m, hm⟩ : ∃ m : Nat, (l.length : Int) * 3 - 1 = (m : Int) ∧ m ≤ 12884901888 := ⟨l.length * 3 - 1, by omega, by omega⟩
    have hm1 := hm.1
    have hm2 := hm.2
    clear hm hne
    go_enter Try.func32, Try.ntmps32
    go_wp2_with (at_make; refine wpList_make_own _ rfl _ _ 33 rfl w.heap.size 5 i0 (.int .u8 0) 1 Try.underlying33 hi hz0 hz1 _ _ _ m rfl rfl (by first | rfl | exact hm1) (by rw [hz2]; omega) (by unfold maxLen; omega) (Nat.le_refl _) ?_)
    intro w1 hown1 hg1
    have hbel1 : Below w.heap.size w w1 := (Below.refl _ _).grown hg1 (Nat.le_refl _) (fun k hk => by simp at hk)
    have hby1 : Byts w1 w.heap.size (.slice (some ⟨w.heap.size, 0, none⟩) 0 m) [] := hown1
    clear hown1 hg1
    go_wp2_with fail
    go_loopw [3, 16] (fun v i wr => ∃ k : Nat, k ≤ l.length ∧ i = .int .i64 k ∧ Byts wr w.heap.size v (pl.macT (l.take k)) ∧ Below w.heap.size w wr) (fun _ i _ => l.length - (intOf i).toNat)
    case atStart => exact ⟨0, Nat.zero_le _, rfl, hby1, hbel1⟩
    case round =>
      obtain ⟨k, hk, rfl, hown, hbel⟩ := hrel
      have hsz : (pl.macT (l.take k)).length ≤ 3 * k := by
        have := pl.macT_len (l.take k)
        rw [List.length_take] at this
        omega
      by_cases hlt : k < l.length
      · obtain ⟨b, hb⟩ : ∃ b, l[k]? = some b := ⟨_, List.getElem?_eq_getElem hlt⟩
        obtain ⟨g, o, rfl, hg, hc0⟩ := H3.out k b hb
        have hc : wr.cell? ⟨g, o + k, none⟩ = some (.int .u8 b.toNat) := by rw [below_cell hbel g _ hg]; exact hc0
        have HB := Lib.hid hb
        have hby := UInt8.toNat_lt b
        clear hb hc0
        by_cases h0 : 0 < k
        · go_wp2_with (at_builtin; refine app_byte (w := w) 58 33 Try.underlying33 rfl _ _ rfl rfl w.heap.size hown rfl rfl (by omega) hbel (Nat.le_refl _) ?_)
          intro v1 w2 hown1 hbel1
          have hE1 := pl.macT_len (l.take k)
          clear hown hbel
          go_wp2_with (at_builtin; (refine app_byte (w := w) (pl.hx (b.toNat / 16)) 33 Try.underlying33 rfl _ _ rfl rfl w.heap.size hown1 rfl (hxv _ _) (by simp; omega) hbel1 (Nat.le_refl _) ?_))
          intro v2 w3 hown2 hbel2
          clear hown1 hbel1
          go_wp2_with (at_builtin; (refine app_byte (w := w) (pl.hx (b.toNat % 16)) 33 Try.underlying33 rfl _ _ rfl rfl w.heap.size hown2 rfl (hxv _ _) (by simp; omega) hbel2 (Nat.le_refl _) ?_))
          intro v3 w4 hown3 hbel3
          clear hown2 hbel2
          go_wp2_with fail
          go_roundw
          case rel => exact ⟨k + 1, by omega, by go_num, by rw [pl.macT_succ l k b HB.out h0]; simpa [pl.macP] using hown3, hbel3⟩
          case measure => simp [intOf]; omega
        · go_wp2_with (at_builtin; (refine app_byte (w := w) (pl.hx (b.toNat / 16)) 33 Try.underlying33 rfl _ _ rfl rfl w.heap.size hown rfl (hxv _ _) (by omega) hbel (Nat.le_refl _) ?_))
          intro v2 w3 hown2 hbel2
          clear hown hbel
          go_wp2_with (at_builtin; (refine app_byte (w := w) (pl.hx (b.toNat % 16)) 33 Try.underlying33 rfl _ _ rfl rfl w.heap.size hown2 rfl (hxv _ _) (by simp; omega) hbel2 (Nat.le_refl _) ?_))
          intro v3 w4 hown3 hbel3
          clear hown2 hbel2
          go_wp2_with fail
          go_roundw
          case rel => exact ⟨k + 1, by omega, by go_num, by
            obtain rfl : k = 0 := by omega
            rw [pl.macT_first l b HB.out]; simpa [pl.macP, pl.macT] using hown3, hbel3⟩
          case measure => simp [intOf]; omega
      · have hconv := conv_back (P := Try.prog) 33 9 5 Try.underlying33 Try.underlying5 Try.underlying9 hown.reads
        rw [List.take_of_length_le (by omega)] at hconv
        go_wp2_with fail
        go_ret
        exact ⟨rfl, hbel⟩

end Go.Proofs.Ytabeklpllphiaaa
