/-
  CONTRACT: net.ParseCIDR.
-/
import Derived.Test.YtfkohahlpfejbaaDoorCid3
import Derived.Test.YtfkohahlpfejbaaDoorCidM
import Derived.Test.YtfkohahlpfejbaaDoorNB6
namespace Go.Proofs.YtfkohahlpfejbaaDoor
open Go.RowKit

/-- what ParseCIDR answers -/
def CidRes (l : List UInt8) (w : World) (e : Ending) (w' : World) : Prop :=
  (pl.cidr l = none ∧ ErrC w e w') ∨ ∃ b n, pl.cidr l = some (b, n) ∧ (b.length = 4 ∨ b.length = 16) ∧ n ≤ 8 * b.length ∧ OkC b (pl.mask n b.length) w e w'

theorem pl.cut_sub (s : ByteArray) (c : Int) (x : UInt8) : (x ∈ (pl.cutS s.data.toList c).1 ∨ x ∈ (pl.cutS s.data.toList c).2.1) → x ∈ s.data.toList := by
  rcases pl.cut_cases s c with ⟨_, h⟩ | ⟨k, _, _, h⟩
  · rw [h]; rintro (h | h)
    · exact h
    · cases h
  · rw [h]; rintro (h | h)
    · exact List.mem_of_mem_take h
    · exact List.mem_of_mem_drop h
theorem pl.cut_len (s : ByteArray) (c : Int) : (pl.cutS s.data.toList c).1.length ≤ s.size ∧ (pl.cutS s.data.toList c).2.1.length ≤ s.size := by
  have hl : s.data.toList.length = s.size := by simp
  rcases pl.cut_cases s c with ⟨_, h⟩ | ⟨k, _, _, h⟩
  · rw [h]; exact ⟨by show s.data.toList.length ≤ _; omega, by simp⟩
  · rw [h]
    exact ⟨by show (s.data.toList.take k).length ≤ _; rw [List.length_take]; omega, by show (s.data.toList.drop (k + 1)).length ≤ _; rw [List.length_drop]; omega⟩

set_option maxHeartbeats 4000000 in
theorem pcidr_sp (g4 o4 g6 o6 : Nat) (s : ByteArray) (w : World) (hs : s.size ≤ 2147483648) (hI : IpVars w g4 o4 g6 o6) (h37 : (37 : UInt8) ∉ s.data.toList) (h7 : (pl.cutS s.data.toList 47).2.1.length < 7) :
    Calls Tryd.prog 54 #[.string s] w (CidRes s.data.toList w) := by
  have hcut := fun W => pcut_sp s 47 W (by omega)
  have hsub := fun x => pl.cut_sub s 47 x
  have hlen := pl.cut_len s 47
  have hcc := pl.cidr_cases s.data.toList
  unfold CidRes
  obtain ⟨A, hA⟩ : ∃ A : ByteArray, A.data.toList = (pl.cutS s.data.toList 47).1 := ⟨⟨(pl.cutS s.data.toList 47).1.toArray⟩, rfl⟩
  obtain ⟨B, hB⟩ : ∃ B : ByteArray, B.data.toList = (pl.cutS s.data.toList 47).2.1 := ⟨⟨(pl.cutS s.data.toList 47).2.1.toArray⟩, rfl⟩
  have eA : (⟨(pl.cutS s.data.toList 47).1.toArray⟩ : ByteArray) = A := by rw [← hA]
  have eB : (⟨(pl.cutS s.data.toList 47).2.1.toArray⟩ : ByteArray) = B := by rw [← hB]
  rw [eA, eB] at hcut
  rw [← hA, ← hB] at hlen hcc
  rw [← hA] at hsub
  rw [← hB] at h7
  have hAs : A.size ≤ 2147483648 := by have : A.data.toList.length = A.size := by simp
                                       omega
  have hBs : B.data.toList.length = B.size := by simp
  have hA37 : (37 : UInt8) ∉ A.data.toList := fun h => h37 (hsub 37 (.inl h))
  rcases hcc with ⟨hf, hc⟩ | ⟨hf, hcc⟩
  · rw [hf] at hcut
    exact (pc_a s A B w (Lib.hid hcut)).mono fun e w' h => .inl ⟨hc, h⟩
  rw [hf] at hcut
  have HC := Lib.hid hcut
  have hpar := fun n => par_sp g4 o4 g6 o6 A (w.drewN n) hAs (hI.below (below_drewN (Below.refl w.heap.size _) n) (Nat.le_refl _)) hA37
  rcases hcc with ⟨ha, hc⟩ | ⟨b, ha, hcc⟩
  · refine (pc_b s A B w HC (Lib.hid fun n => (hpar n).mono fun e w' ⟨hb, hr⟩ => ?_)).mono fun e w' h => .inl ⟨hc, h⟩
    rcases hr with ⟨_, t, x, h⟩ | ⟨b, h, _⟩
    · exact ⟨⟨t, x, h⟩, Lib.hid (bel_d hb)⟩
    · rw [ha] at h; cases h
  have hbl : b.length = 4 ∨ b.length = 16 := by
    have := pl.addr_len _ _ ha
    exact this
  have hdt := fun W => dtoi_any B W (by omega)
  -- the cells of the address
  obtain ⟨hi, lo, gz, oz, L, b16, hadr, hL, hb16, hhi, hlo, hlong, hz, hbit, hcm, him⟩ : ∃ (hi lo gz oz L : Nat) (b16 : List UInt8), adr g4 o4 g6 o6 b = .agg #[.int .u64 (hi : Int), .int .u64 (lo : Int), .pointer (some ⟨gz, oz, none⟩)] ∧ L = 8 * b.length ∧ b16.length = 16 ∧ hi = pl.be (b16.take 8) ∧ lo = pl.be (b16.drop 8) ∧ pl.long b = b16 ∧
      (∀ W, Below w.heap.size w W → Calls Tryd.prog 71 #[.agg #[.int .u64 (hi : Int), .int .u64 (lo : Int), .pointer (some ⟨gz, oz, none⟩)]] W fun e w' => e = .returned (.string ⟨#[]⟩) ∧ Below W.heap.size W w') ∧
      (∀ W, Below w.heap.size w W → Calls Tryd.prog 73 #[.agg #[.int .u64 (hi : Int), .int .u64 (lo : Int), .pointer (some ⟨gz, oz, none⟩)]] W fun e w' => e = .returned (.int .i64 (L : Int)) ∧ Below W.heap.size W w') ∧
      (∀ (n : Nat) (W : World), n ≤ L → Calls Tryd.prog 74 #[.int .i64 (n : Int), .int .i64 (L : Int)] W fun e w' => ∃ v, e = .returned v ∧ Hid (Byts w' W.heap.size v (pl.mask n b.length)) ∧ Below W.heap.size W w') ∧
      (∀ (m : List UInt8) (W : World) (g : Nat) (vm : Value), m.length = b.length → Reads W (.slice (some ⟨g, 0, none⟩) 16 16) (pl.long b) → Reads W vm m → Calls Tryd.prog 56 #[.slice (some ⟨g, 0, none⟩) 16 16, vm] W fun e w' => ∃ v, e = .returned v ∧ Hid (Byts w' W.heap.size v (pl.and b m)) ∧ Below W.heap.size W w') := by
    rcases hbl with hb | hb
    · have hm : pl.mapped (pl.pre12 ++ b) = true := by unfold pl.mapped; rw [show (pl.pre12 ++ b).take 12 = pl.pre12 from rfl]; decide
      have hl16 : (pl.pre12 ++ b).length = 16 := by rw [List.length_append, hb]; rfl
      obtain ⟨x, y, z, u, hd, h0, hl⟩ := pl.mapped_be (pl.pre12 ++ b) hl16 hm
      rw [show (pl.pre12 ++ b).drop 12 = b from rfl] at hd
      rw [← hd] at hl
      refine ⟨0, 281470681743360 + pl.be b, g4, o4, 32, pl.pre12 ++ b, by unfold adr; rw [if_pos hb]; rfl, by omega, hl16, h0.symm, hl.symm, by unfold pl.long; rw [if_pos hb], fun W hW => ?_, fun W hW => ?_, fun n W hn => ?_, fun m W g vm hm hr hv => ?_⟩
      · have hIW := hI.below hW (Nat.le_refl _)
        exact zone_sp g4 o4 g6 o6 _ _ g4 o4 _ W hIW hIW.b4 hIW.a4
      · exact bl4_sp g4 o4 g6 o6 _ _ W (hI.below hW (Nat.le_refl _))
      · rw [hb]
        exact (cm_4 n W hn).mono fun e w' ⟨v, h1, h2, h3⟩ => ⟨v, h1, Lib.hid h2, h3⟩
      · unfold pl.long at hr
        rw [if_pos hb] at hr
        exact (ipm_64 g vm b m W hr hv hb (by omega)).mono fun e w' ⟨v, h1, h2, h3⟩ => ⟨v, h1, Lib.hid h2, h3⟩
    · refine ⟨pl.be (b.take 8), pl.be (b.drop 8), g6, o6, 128, b, by unfold adr; rw [if_neg (by omega)]; rfl, by omega, hb, rfl, rfl, by unfold pl.long; rw [if_neg (by omega)], fun W hW => ?_, fun W hW => ?_, fun n W hn => ?_, fun m W g vm hm hr hv => ?_⟩
      · have hIW := hI.below hW (Nat.le_refl _)
        exact zone_sp g4 o4 g6 o6 _ _ g6 o6 _ W hIW hIW.b6 hIW.a6
      · exact bl6_sp g4 o4 g6 o6 _ _ W (hI.below hW (Nat.le_refl _))
      · rw [hb]
        exact (cm_16 n W hn).mono fun e w' ⟨v, h1, h2, h3⟩ => ⟨v, h1, Lib.hid h2, h3⟩
      · unfold pl.long at hr
        rw [if_neg (by omega)] at hr
        exact (ipm_16 _ vm b m W hr hv hb (by omega)).mono fun e w' ⟨v, h1, h2, h3⟩ => ⟨v, h1, Lib.hid h2, h3⟩
  have HP : Hid (∀ n, Calls Tryd.prog 70 #[.string A] (w.drewN n) fun e w' => e = .returned (.tuple #[.agg #[.int .u64 (hi : Int), .int .u64 (lo : Int), .pointer (some ⟨gz, oz, none⟩)], .nilIface]) ∧ Hid (Below w.heap.size w w')) := Lib.hid fun n => (hpar n).mono fun e w' ⟨hb, hr⟩ => by
    rcases hr with ⟨h, _⟩ | ⟨b', h, _, he⟩
    · rw [ha] at h; cases h
    · rw [ha] at h
      injection h with h
      subst h
      rw [hadr] at he
      exact ⟨he, Lib.hid (bel_d hb)⟩
  have HZ := Lib.hid hz
  have HBIT := Lib.hid hbit
  rcases hcc with ⟨hd, hc⟩ | ⟨n, hd, ⟨hn, hc⟩ | ⟨hn, hc⟩⟩
  · have hno := pl.dt_no B.data.toList hd h7
    refine (pc_c s A B hi lo gz oz L _ _ _ w HC HP HZ HBIT (Lib.hid hdt) ?_).mono fun e w' h => .inl ⟨hc, h⟩
    cases hk : (pl.dt B.data.toList 0 0).2.2 with
    | false => exact .inl rfl
    | true =>
      right; left
      refine ⟨rfl, ?_⟩
      rcases hno with h | h
      · rw [hk] at h; cases h
      · rw [hBs] at h
        simpa using (by omega : ¬ (((pl.dt B.data.toList 0 0).2.1 : Int) = (B.size : Int)))
  · have hy := pl.dt_yes B.data.toList n hd h7
    rw [hy, hBs] at hdt
    refine (pc_c s A B hi lo gz oz L n B.size true w HC HP HZ HBIT (Lib.hid hdt) ?_).mono fun e w' h => .inl ⟨hc, h⟩
    exact .inr (.inr ⟨rfl, by simp, by omega⟩)
  · have hy := pl.dt_yes B.data.toList n hd h7
    rw [hy, hBs] at hdt
    obtain ⟨b0, b1, b2, b3, b4, b5, b6, b7, b8, b9, b10, b11, b12, b13, b14, b15, he16⟩ := pl.list16 b16 hb16
    have has : ∀ W, Calls Tryd.prog 75 #[.agg #[.int .u64 (hi : Int), .int .u64 (lo : Int), .pointer (some ⟨gz, oz, none⟩)]] W fun e w' => e = .returned (.agg #[.int .u8 (b0.toNat : Int), .int .u8 (b1.toNat : Int), .int .u8 (b2.toNat : Int), .int .u8 (b3.toNat : Int), .int .u8 (b4.toNat : Int), .int .u8 (b5.toNat : Int), .int .u8 (b6.toNat : Int), .int .u8 (b7.toNat : Int), .int .u8 (b8.toNat : Int), .int .u8 (b9.toNat : Int), .int .u8 (b10.toNat : Int), .int .u8 (b11.toNat : Int), .int .u8 (b12.toNat : Int), .int .u8 (b13.toNat : Int), .int .u8 (b14.toNat : Int), .int .u8 (b15.toNat : Int)]) ∧ Below W.heap.size W w' := fun W => by
      have h := as16_sp b16 hb16 gz oz hi lo hhi hlo W
      rw [he16] at h
      exact h
    exact (pc_d s A B hi lo gz oz L n b (pl.mask n b.length) b0 b1 b2 b3 b4 b5 b6 b7 b8 b9 b10 b11 b12 b13 b14 b15 w HC HP HZ HBIT (Lib.hid has) (Lib.hid hdt) (Lib.hid fun W => hcm n W (by omega)) (Lib.hid fun W g vm => him _ W g vm (pl.mask_len _ _)) (Lib.hid (hlong.trans he16)) (by omega)).mono fun e w' h => .inr ⟨b, n, hc, hbl, hn, h⟩

end Go.Proofs.YtfkohahlpfejbaaDoor
