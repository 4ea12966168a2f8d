/-
  THE BASE of the statements over net/netip, part 4 of 6: V6.
-/
import Derived.Test.YtfkohahlpfejbaaDoorNB3
import Derived.Deep.CutBlock
import Derived.Deep.DeepCutAuto
import Derived.Deep.LoopGhost
import Derived.Deep.MidRow

/- V6: WALKS: parseIPv6. -/
namespace Go.Proofs.YtfkohahlpfejbaaDoor
open Go.RowKit

set_option maxRecDepth 100000 in
set_option maxHeartbeats 40000000 in
theorem v6_sp (g4 o4 g6 o6 : Nat) (s : ByteArray) (w : World) (hs : s.size ≤ 2147483648) (hI : IpVars w g4 o4 g6 o6) (h37 : (37 : UInt8) ∉ s.data.toList) (h58 : (58 : UInt8) ∈ s.data.toList) :
    Calls Tryd.prog 99 #[.string s] w fun e w' => IpRes g4 o4 g6 o6 w w' e (pl.addr s.data.toList) := by
  obtain ⟨g, hg⟩ : ∃ g, w.heap.size = g := ⟨_, rfl⟩
  obtain ⟨W0, hW0⟩ : ∃ W0, w.alloc (Obj.cells #[Value.int IntKind.u64 0, Value.int IntKind.u64 0, Value.pointer none] 119) = W0 := ⟨_, rfl⟩
  have hs0 : W0.heap.size = g + 1 := by rw [← hW0, ← hg]; simp
  obtain ⟨W1, hW1⟩ : ∃ W1, W0.alloc (Obj.cells (List.replicate 16 (Value.int IntKind.u8 0)).toArray 127) = W1 := ⟨_, rfl⟩
  have hW1' : W0.alloc (Obj.cells #[Value.int IntKind.u8 0, Value.int IntKind.u8 0, Value.int IntKind.u8 0, Value.int IntKind.u8 0, Value.int IntKind.u8 0, Value.int IntKind.u8 0, Value.int IntKind.u8 0, Value.int IntKind.u8 0, Value.int IntKind.u8 0, Value.int IntKind.u8 0, Value.int IntKind.u8 0, Value.int IntKind.u8 0, Value.int IntKind.u8 0, Value.int IntKind.u8 0, Value.int IntKind.u8 0, Value.int IntKind.u8 0] 127) = W1 := hW1
  clear hW1
  have hix := fun W => pc_run s W h37
  obtain ⟨F, hF⟩ : ∃ F, pl.addr s.data.toList = F := ⟨_, rfl⟩
  have hF0 : F = pl.rest6 [] none s.data.toList := by rw [← hF, pl.rest6_all _ (pl.four_colon _ h58)]
  rw [hF]
  have HF0 := Lib.hid hF0
  have hgs1 : W1.heap.size = g + 2 := by rw [← hW1', World.size_alloc, hs0]
  have hb1 : Below g w W1 := by rw [← hW1', ← hW0, ← hg]; exact ((Below.refl _ _).alloc (Nat.le_refl _) _).alloc (by simp) _
  have hR1 : Blk W1 g #[Value.int IntKind.u64 0, Value.int IntKind.u64 0, Value.pointer none] 119 := by
    rw [← hW1', ← hW0, ← hg]; exact (Blk.new w _ _).alloc _
  have hV1 : V6W g w W1 W1 [] := ⟨Below.refl _ _, hgs1, by simp, by rw [← hW1', ← hs0]; exact Blk.new W0 _ _⟩
  have HV1 := Lib.hid hV1
  have HR1 := Lib.hid hR1
  have HB1 := Lib.hid hb1
  have hs0' : 0 < s.size := by
    rcases Nat.eq_zero_or_pos s.size with h | h
    · rw [pl.nil_of s h] at h58; simp at h58
    · exact h
  clear h37 hF0 hV1 hR1 hb1 hF h58
  go_enter Tryd.func99, Tryd.ntmps99
  go_upto_region 10 with fail
  go_cut [46] from 34 to 46 (fun c wx => ∃ b : Bool, c = .bool b ∧ Hid (b = true → ∃ r, s.data.toList = 58 :: 58 :: r) ∧ Hid (b = false → ∀ r, s.data.toList ≠ 58 :: 58 :: r) ∧ wx = W1)
  case first =>
   as_aux_lemma =>
     by_cases h2 : s.size < 2
     · have HNB : Hid (∀ r, s.data.toList ≠ 58 :: 58 :: r) := Lib.hid (fun r h => by have := congrArg List.length h; simp at this; omega)
       go_wp2_with fail
       go_meet
       case rel => exact ⟨false, rfl, Lib.hid (fun h => by cases h), Lib.hid (fun _ => HNB.out), rfl⟩
     · obtain ⟨x, hx⟩ : ∃ x, s[0] = x := ⟨_, rfl⟩
       obtain ⟨y, hy⟩ : ∃ y, s[1] = y := ⟨_, rfl⟩
       have hxy : s.data.toList = x :: y :: s.data.toList.drop 2 := by
         have h1 := pl.drop_cons' s 0 (by omega)
         have h3 := pl.drop_cons' s 1 (by omega)
         rw [List.drop_zero, h3, hx, hy] at h1
         exact h1
       have HXY := Lib.hid hxy
       clear hxy
       by_cases hx58 : x = 58
       · by_cases hy58 : y = 58
         · subst hx58
           subst hy58
           go_wp2_with fail
           go_meet
           case rel => exact ⟨true, rfl, Lib.hid (fun _ => ⟨_, HXY.out⟩), Lib.hid (fun h => by cases h), rfl⟩
         · have hyi := (pl.no58 y hy58).1
           have HNB : Hid (∀ r, s.data.toList ≠ 58 :: 58 :: r) := Lib.hid (fun r h => by
             rw [HXY.out] at h; injection h with _ h; injection h with h _; exact hy58 h)
           subst hx58
           go_wp2_with fail
           go_meet
           case rel => exact ⟨false, rfl, Lib.hid (fun h => by cases h), Lib.hid (fun _ => HNB.out), rfl⟩
       · have hxi := (pl.no58 x hx58).1
         have HNB : Hid (∀ r, s.data.toList ≠ 58 :: 58 :: r) := Lib.hid (fun r h => by
           rw [HXY.out] at h; injection h with h _; exact hx58 h)
         go_wp2_with fail
         go_meet
         case rel => exact ⟨false, rfl, Lib.hid (fun h => by cases h), Lib.hid (fun _ => HNB.out), rfl⟩
  case rest =>
   as_aux_lemma =>
     obtain ⟨b, rfl, HBT, HBF, hwc⟩ := hcut
     replace hwc := hwc.symm
     subst hwc
     go_upto_if 46 with fail
     go_cut [4, 8] (fun sv ev wx => ∃ (S0 : ByteArray) (ell0 : Option Nat), sv = .string S0 ∧ ev = .int .i64 (ellI ell0) ∧ 0 < S0.size ∧ S0.size ≤ 2147483648 ∧ Hid (F = pl.rest6 [] ell0 S0.data.toList) ∧ Hid (∀ e, ell0 = some e → e ≤ 0) ∧ Hid (∃ q, s.data.toList = q ++ S0.data.toList) ∧ Hid (ell0 ≠ none ∨ ∀ r, S0.data.toList ≠ 58 :: 58 :: r) ∧ wx = W1)
     case first =>
      as_aux_lemma =>
        rcases b with _ | _
        · go_wp2_with fail
          go_meet
          case rel => exact ⟨s, none, rfl, rfl, hs0', hs, HF0, Lib.hid (fun e h => by cases h), Lib.hid ⟨[], rfl⟩, Lib.hid (.inr (HBF.out (by first | rfl | trivial))), rfl⟩
        · obtain ⟨r, hr⟩ := HBT.out rfl
          have hsz : s.size = r.length + 2 := by
            have := congrArg List.length hr
            simpa using this
          obtain ⟨S0, hS0⟩ : ∃ S0, s.extract 2 s.size = S0 := ⟨_, rfl⟩
          have hSd : S0.data.toList = r := by rw [← hS0, pl.ext_drop, hr]; rfl
          have hSs : S0.size = s.size - 2 := by rw [← hS0, pl.ext_size]
          have HSD := Lib.hid hSd
          have HR := Lib.hid hr
          have HSS := Lib.hid hSs
          have h2s : 2 ≤ s.size := by omega
          by_cases h0 : S0.size = 0
          · have hfin : F = some (List.replicate 16 0) := by
              have : r = [] := List.eq_nil_of_length_eq_zero (by omega)
              rw [HF0.out, hr, this]; exact pl.rest6_only
            have HFIN := Lib.hid hfin
            obtain ⟨c0, c1, c2, f0, f1, f2⟩ := blk3 HR1.out
            have hI1 := hI.below HB1.out (by omega)
            have hun := un_sp g4 o4 g6 o6 W1 hI1
            have hwz : ∀ W, Below W1.heap.size W1 W → Calls Tryd.prog 110 #[ipV 0 0 g6 o6, .string ⟨#[]⟩] W fun e w' => e = .returned (ipV 0 0 g6 o6) ∧ Below W.heap.size W w' := fun W hb => wz_sp g4 o4 g6 o6 0 0 W (hI1.below hb (Nat.le_refl _))
            have hip : ipV 0 0 g6 o6 = .agg #[.int .u64 0, .int .u64 0, .pointer (some ⟨g6, o6, none⟩)] := rfl
            rw [hip] at hun hwz
            have HUN := Lib.hid hun
            have HWZ := Lib.hid hwz
            have hgle : g < W1.heap.size := by omega
            clear hun hwz hI1 hfin hSd hr hSs hsz hip
            go_wp2_with (first
              | (go_at_call 109; refine HUN.out.mono ?_; rintro e w3 ⟨rfl, hb3⟩)
              | (go_at_call 110; refine (HWZ.out _ hb3).mono ?_; rintro e w4 ⟨rfl, hb4⟩; have hR4 := (HR1.out.below hb3 hgle).below hb4 (Nat.lt_of_lt_of_le hgle hb3.size); have hb5 := (HB1.out.trans (hb3.mono (Nat.le_of_lt hgle))).trans (hb4.mono (Nat.le_trans (Nat.le_of_lt hgle) hb3.size)); obtain ⟨d0, d1, d2, k0, k1, k2⟩ := blk3 hR4; have HST := Lib.hid (set3 (.int .u64 0) (.int .u64 0) (.pointer (some ⟨g6, o6, none⟩)) hR4); clear hR4))
            obtain ⟨hR5, hB5, _⟩ := HST.out
            refine bodyPost_ret (results_cell_tmp_row rfl _ _ g _ _ _ _ rfl rfl hR5 Tryd.underlying119 rfl (by kernel_rfl)) rfl ?_
            exact ⟨hg ▸ hB5 g w hb5 (Nat.le_refl _), .inr ⟨_, HFIN.out, .inr rfl, rfl⟩⟩
          · have hnx : F = pl.rest6 [] (some 0) S0.data.toList := by
              rw [HF0.out, hr, hSd]
              exact pl.rest6_lead r (fun e => h0 (by rw [hSs, hsz, e]; rfl))
            have HNX := Lib.hid hnx
            have hS31 : S0.size ≤ 2147483648 := by omega
            clear hnx hSd hr hSs hsz
            go_wp2_with fail
            go_meet
            case rel => exact ⟨S0, some 0, rfl, rfl, by omega, hS31, HNX, Lib.hid (fun e h => by injection h with h; omega), Lib.hid ⟨[58, 58], by rw [HR.out, HSD.out]; rfl⟩, Lib.hid (.inl (by simp)), rfl⟩
     case rest =>
      as_aux_lemma =>
       obtain ⟨S0, ell0, rfl, rfl, hS00, hS031, HF00, HEL0, HSF0, HSC0, hwc⟩ := hcut
       replace hwc := hwc.symm
       subst hwc
       go_upto_block 0 with fail
       go_cut [4, 6, 8, 9, 10, 11, 12, 13] (fun sv iv ev z9 z10 z11 z12 z13 wc => ∃ (S : ByteArray) (i : Nat) (acc : List UInt8) (ell : Option Nat), sv = .string S ∧ iv = .int .i64 (i : Int) ∧ ev = .int .i64 (ellI ell) ∧ i ≤ 16 ∧ Hid (acc.length = i) ∧ Hid (F = if S.size = 0 then pl.fin6 acc ell else none) ∧ Hid (∀ e, ell = some e → e ≤ i) ∧ Hid (V6W g w W1 wc acc))
       case first =>
        as_aux_lemma =>
          go_wp2_with fail
          go_loopw [4, 6, 8] (fun sv iv ev wr => ∃ (S : ByteArray) (i : Nat) (acc : List UInt8) (ell : Option Nat), sv = .string S ∧ iv = .int .i64 (i : Int) ∧ ev = .int .i64 (ellI ell) ∧ i ≤ 16 ∧ 0 < S.size ∧ S.size ≤ 2147483648 ∧ Hid (acc.length = i) ∧ Hid (i % 2 = 0) ∧ Hid (F = pl.rest6 acc ell S.data.toList) ∧ Hid (∀ e, ell = some e → e ≤ i) ∧ Hid (∃ q, s.data.toList = q ++ S.data.toList) ∧ Hid (ell ≠ none ∨ ∀ r, S.data.toList ≠ 58 :: 58 :: r) ∧ Hid (V6W g w W1 wr acc)) (fun sv _ _ _ => match sv with | .string S => S.size | _ => 0)
          case atStart => exact ⟨S0, 0, [], ell0, rfl, rfl, rfl, by omega, hS00, hS031, Lib.hid rfl, Lib.hid rfl, HF00, HEL0, HSF0, HSC0, HV1⟩
          case round =>
            obtain ⟨S, i, acc, ell, rfl, rfl, rfl, hi, hS0, hSs, HAL, HEV, HF, HEL, HSF, HSC, HV⟩ := hrel
            by_cases h16 : i < 16
            · have HRr : Hid (Blk wr g #[Value.int IntKind.u64 0, Value.int IntKind.u64 0, Value.pointer none] 119) := Lib.hid (HR1.out.below HV.out.bel (by omega))
              have HBr : Hid (Below g w wr) := Lib.hid (HB1.out.trans (HV.out.bel.mono (by omega)))
              obtain ⟨c0, c1, c2, f0, f1, f2⟩ := blk3 HRr.out
              have hd16 : decide ((i : Int) < 16) = true := decide_eq_true (by omega)
              go_upto_block 2 with fail
              clear hd16
              go_cut [9, 10, 11] (fun ov av cv wc => ∃ (k m : Nat), ov = .int .i64 (k : Int) ∧ av = .int .u32 (m : Int) ∧ k ≤ 4 ∧ k ≤ S.size ∧ Hid ((S.data.toList.take k).all pl.isHex = true) ∧ Hid (m = pl.hexV 0 (S.data.toList.take k)) ∧ Hid (∀ h : k < S.size, pl.isHex S[k] = false) ∧ wc = wr)
              case first =>
               as_aux_lemma =>
                 go_wp2_with fail
                 go_loopg [9, 10] S.size (fun n ov av wi => ∃ (k m : Nat), ov = .int .i64 (k : Int) ∧ av = .int .u32 (m : Int) ∧ k ≤ 4 ∧ k ≤ S.size ∧ Hid (n + k = S.size) ∧ Hid ((S.data.toList.take k).all pl.isHex = true) ∧ Hid (m = pl.hexV 0 (S.data.toList.take k)) ∧ wi = wr)
                 case atStart => exact ⟨0, 0, rfl, rfl, by omega, by omega, Lib.hid rfl, Lib.hid rfl, Lib.hid rfl, rfl⟩
                 case round =>
                   obtain ⟨k, m, rfl, rfl, hk4', hk, HGK, HA, HM, hwi⟩ := hrel
                   replace hwi := hwi.symm
                   subst hwi
                   have hm : m < 65536 := by
                     rw [HM.out]; exact pl.hexV_le (S.data.toList.take k) 4 (by rw [List.length_take]; omega)
                   by_cases hlt : k < S.size
                   · obtain ⟨x, hx⟩ : ∃ x, S[k] = x := ⟨_, rfl⟩
                     rcases pl.hexv_cases x with ⟨⟨HD, HI⟩, hx1, hx2⟩ | ⟨⟨HD, HI⟩, hx1, hx2⟩ | ⟨⟨HD, HI⟩, hx1, hx2⟩ | ⟨⟨HD, HI⟩, hx1⟩ | ⟨⟨HD, HI⟩, hx1, hx2⟩ | ⟨⟨HD, HI⟩, hx1, hx2⟩ | ⟨⟨HD, HI⟩, hx1⟩
                     · as_aux_lemma =>
                        skip
                        have hd := HD.out
                        obtain ⟨d, hdd⟩ : ∃ d, (pl.hexv x).getD 0 = d := ⟨_, rfl⟩
                        rw [hdd] at hd
                        have hall := pl.all_hex_succ S k hlt HA.out (by rw [hx]; exact HI.out)
                        by_cases hk4 : k = 4
                        · have hno : F = none := by
                            rw [HF.out, ← List.take_append_drop 5 S.data.toList]
                            exact pl.rest6_long acc ell _ _ (by rw [hk4] at hall; exact hall) (by rw [List.length_take]; simp; omega)
                          have HNO := Lib.hid hno
                          clear hno hall
                          subst hk4
                          go_wp2_with fail
                          exact v6_err HNO.out HRr.out HBr.out hg rfl rfl rfl
                        · have hm3 : m < 4096 := by
                            rw [HM.out]; exact pl.hexV_le (S.data.toList.take k) 3 (by rw [List.length_take]; omega)
                          have HALL := Lib.hid hall
                          have hm2 : m * 16 + d = pl.hexV 0 (S.data.toList.take (k + 1)) := by
                            rw [pl.take_succ S k hlt, pl.hexV_snoc, ← HM.out, hx, hdd]
                          have HM2 := Lib.hid hm2
                          clear hall hm2 hdd HD
                          go_wp2_with fail
                          go_roundg (gk - 1)
                          case rel => exact ⟨k + 1, m * 16 + d, by go_num, by go_num, by omega, by omega, Lib.hid (by have := HGK.out; omega), HALL, HM2, by first | rfl | trivial⟩
                          case measure => have := HGK.out; omega
                     · as_aux_lemma =>
                        skip
                        have hd := HD.out
                        obtain ⟨d, hdd⟩ : ∃ d, (pl.hexv x).getD 0 = d := ⟨_, rfl⟩
                        rw [hdd] at hd
                        have hall := pl.all_hex_succ S k hlt HA.out (by rw [hx]; exact HI.out)
                        by_cases hk4 : k = 4
                        · have hno : F = none := by
                            rw [HF.out, ← List.take_append_drop 5 S.data.toList]
                            exact pl.rest6_long acc ell _ _ (by rw [hk4] at hall; exact hall) (by rw [List.length_take]; simp; omega)
                          have HNO := Lib.hid hno
                          clear hno hall
                          subst hk4
                          go_wp2_with fail
                          exact v6_err HNO.out HRr.out HBr.out hg rfl rfl rfl
                        · have hm3 : m < 4096 := by
                            rw [HM.out]; exact pl.hexV_le (S.data.toList.take k) 3 (by rw [List.length_take]; omega)
                          have HALL := Lib.hid hall
                          have hm2 : m * 16 + d = pl.hexV 0 (S.data.toList.take (k + 1)) := by
                            rw [pl.take_succ S k hlt, pl.hexV_snoc, ← HM.out, hx, hdd]
                          have HM2 := Lib.hid hm2
                          clear hall hm2 hdd HD
                          go_wp2_with fail
                          go_roundg (gk - 1)
                          case rel => exact ⟨k + 1, m * 16 + d, by go_num, by go_num, by omega, by omega, Lib.hid (by have := HGK.out; omega), HALL, HM2, by first | rfl | trivial⟩
                          case measure => have := HGK.out; omega
                     · as_aux_lemma =>
                        skip
                        have hd := HD.out
                        obtain ⟨d, hdd⟩ : ∃ d, (pl.hexv x).getD 0 = d := ⟨_, rfl⟩
                        rw [hdd] at hd
                        have hall := pl.all_hex_succ S k hlt HA.out (by rw [hx]; exact HI.out)
                        by_cases hk4 : k = 4
                        · have hno : F = none := by
                            rw [HF.out, ← List.take_append_drop 5 S.data.toList]
                            exact pl.rest6_long acc ell _ _ (by rw [hk4] at hall; exact hall) (by rw [List.length_take]; simp; omega)
                          have HNO := Lib.hid hno
                          clear hno hall
                          subst hk4
                          go_wp2_with fail
                          exact v6_err HNO.out HRr.out HBr.out hg rfl rfl rfl
                        · have hm3 : m < 4096 := by
                            rw [HM.out]; exact pl.hexV_le (S.data.toList.take k) 3 (by rw [List.length_take]; omega)
                          have HALL := Lib.hid hall
                          have hm2 : m * 16 + d = pl.hexV 0 (S.data.toList.take (k + 1)) := by
                            rw [pl.take_succ S k hlt, pl.hexV_snoc, ← HM.out, hx, hdd]
                          have HM2 := Lib.hid hm2
                          clear hall hm2 hdd HD
                          go_wp2_with fail
                          go_roundg (gk - 1)
                          case rel => exact ⟨k + 1, m * 16 + d, by go_num, by go_num, by omega, by omega, Lib.hid (by have := HGK.out; omega), HALL, HM2, by first | rfl | trivial⟩
                          case measure => have := HGK.out; omega
                     · as_aux_lemma =>
                        skip
                        have HNX : Hid (∀ h : k < S.size, pl.isHex S[k] = false) := Lib.hid (fun h => by rw [hx]; exact HI.out)
                        clear HD
                        go_wp2_with fail
                        go_meet
                        case rel => exact ⟨k, m, rfl, rfl, hk4', hk, HA, HM, HNX, by first | rfl | trivial⟩
                     · as_aux_lemma =>
                        skip
                        have HNX : Hid (∀ h : k < S.size, pl.isHex S[k] = false) := Lib.hid (fun h => by rw [hx]; exact HI.out)
                        clear HD
                        go_wp2_with fail
                        go_meet
                        case rel => exact ⟨k, m, rfl, rfl, hk4', hk, HA, HM, HNX, by first | rfl | trivial⟩
                     · as_aux_lemma =>
                        skip
                        have HNX : Hid (∀ h : k < S.size, pl.isHex S[k] = false) := Lib.hid (fun h => by rw [hx]; exact HI.out)
                        clear HD
                        go_wp2_with fail
                        go_meet
                        case rel => exact ⟨k, m, rfl, rfl, hk4', hk, HA, HM, HNX, by first | rfl | trivial⟩
                     · as_aux_lemma =>
                        skip
                        have HNX : Hid (∀ h : k < S.size, pl.isHex S[k] = false) := Lib.hid (fun h => by rw [hx]; exact HI.out)
                        clear HD
                        go_wp2_with fail
                        go_meet
                        case rel => exact ⟨k, m, rfl, rfl, hk4', hk, HA, HM, HNX, by first | rfl | trivial⟩
                   · have HNX : Hid (∀ h : k < S.size, pl.isHex S[k] = false) := Lib.hid (fun h => absurd h hlt)
                     go_wp2_with fail
                     go_meet
                     case rel => exact ⟨k, m, rfl, rfl, hk4', hk, HA, HM, HNX, by first | rfl | trivial⟩
              case rest =>
               as_aux_lemma =>
                 obtain ⟨k, m, rfl, rfl, hk4, hk, HA, HM, HNX, hwc⟩ := hcut
                 replace hwc := hwc.symm
                 subst hwc
                 have hev : i ≤ 14 := by have := HEV.out; omega
                 have HEV2 := Lib.hid hev
                 have hm : m < 65536 := by
                   rw [HM.out]; exact pl.hexV_le (S.data.toList.take k) 4 (by rw [List.length_take]; omega)
                 by_cases hk0 : k = 0
                 · subst hk0
                   have hno : F = none := by
                     rw [HF.out]
                     refine pl.rest6_start acc ell _ (fun c hc => ?_) HSC.out
                     rw [pl.drop_cons' S 0 hS0 |> fun h => (List.drop_zero ▸ h : S.data.toList = _)] at hc
                     injection hc with hc
                     rw [← hc]; exact HNX.out hS0
                   have HNO := Lib.hid hno
                   clear hno
                   go_wp2_with fail
                   exact v6_err HNO.out HRr.out HBr.out hg rfl rfl rfl
                 · have hk0b : ((k : Int) == 0) = false := beqN k 0 hk0
                   have hok : pl.okG (S.data.toList.take k) := ⟨HA.out, by rw [List.length_take]; simp; omega, by rw [List.length_take]; omega⟩
                   have HOK := Lib.hid hok
                   obtain ⟨T, hT⟩ : ∃ T, S.extract k S.size = T := ⟨_, rfl⟩
                   have hTd : S.data.toList = S.data.toList.take k ++ T.data.toList := by rw [← hT, pl.ext_drop]; exact (List.take_append_drop k _).symm
                   have hTs : T.size = S.size - k := by rw [← hT, pl.ext_size]
                   have HTD := Lib.hid hTd
                   have hTS31 : T.size ≤ 2147483648 := by omega
                   have HTS := Lib.hid hTs
                   clear hTs
                   obtain ⟨q, hq⟩ := HSF.out
                   obtain ⟨hsx, hsz⟩ := pl.suf_ext s S q hq
                   have HQ := Lib.hid hq
                   have HSX := Lib.hid hsx
                   have HSZ := Lib.hid hsz
                   clear hTd hok hq hsx hsz
                   by_cases hlt : k < S.size
                   · obtain ⟨x, hx⟩ : ∃ x, S[k] = x := ⟨_, rfl⟩
                     have hxn := HNX.out hlt
                     rw [hx] at hxn
                     have hT0 : 0 < T.size := by have := HTS.out; omega
                     have hTx : T[0] = x := by
                       have := pl.ext_at S k hlt (by rw [pl.ext_size]; omega)
                       rw [← hx, ← this]
                       simp only [hT]
                     have hTc : T.data.toList = x :: T.data.toList.drop 1 := by
                       have := pl.drop_cons' T 0 hT0
                       rw [List.drop_zero, hTx] at this
                       exact this
                     have HTC := Lib.hid hTc
                     have HXN := Lib.hid hxn
                     clear hTc hxn
                     by_cases h46 : x = 46
                     · as_aux_lemma =>
                        subst h46
                        have hdot : F = (match pl.four S.data.toList with
                            | some l => pl.fin6 (acc ++ l) ell
                            | none => none) := by
                          rw [HF.out, HTD.out, HTC.out]; exact pl.rest6_dot acc ell _ _ HOK.out
                        have HDOT := Lib.hid hdot
                        clear hdot hT hTx hT0 HTC HTD
                        have hi0 : (0 : Int) ≤ (i : Int) := by omega
                        rcases ell with _ | e
                        · as_aux_lemma =>
                           have hel : ellI none = -1 := rfl
                           by_cases h12 : i = 12
                           · subst h12
                             skip
                             have hsub : (s.size : Int) - (S.size : Int) = (q.length : Int) := by have := HSZ.out; omega
                             have hv := v4f_sp s q.length s.size S HSX.out wr (g + 1) 12 4 (acc ++ List.replicate (16 - acc.length) 0) 127 HV.out.blk (by have := HV.out.len; simp; omega) (by have := HSZ.out; omega) (Nat.le_refl _) hs
                             rcases hfour : pl.four S.data.toList with _ | l
                             · have hno : F = none := by rw [HDOT.out, hfour]
                               have HNO := Lib.hid hno
                               have hc : Calls Tryd.prog 106 #[.string s, .int .i64 (q.length : Int), .int .i64 (s.size : Int), .slice (some ⟨g + 1, 12, none⟩) 4 4] wr fun e w' => (∃ t v, e = .returned (.iface t v)) ∧ Below g w w' ∧ Blk w' g #[Value.int IntKind.u64 0, Value.int IntKind.u64 0, Value.pointer none] 119 := by
                                 refine hv.mono fun e w' ⟨hb, _, hr⟩ => ?_
                                 rcases hr with ⟨_, h⟩ | ⟨l, h, _⟩
                                 · exact ⟨h, HBr.out.trans (hb.mono (Nat.le_succ _)), HRr.out.below hb (Nat.lt_succ_self _)⟩
                                 · rw [hfour] at h; cases h
                               have HC := Lib.hid hc
                               clear hno hv hc hfour
                               go_wp2_with (go_at_call 106; refine HC.out.mono ?_; rintro e w2 ⟨⟨t, v, rfl⟩, hb3, hR3⟩; obtain ⟨d0, d1, d2, k0, k1, k2⟩ := blk3 hR3; have HR3 := Lib.hid hR3; clear hR3)
                               exact v6_err HNO.out HR3.out hb3 hg rfl rfl rfl
                             · have hl4 := pl.four_l4 _ _ hfour
                               have hfin : F = pl.fin6 (acc ++ l) none := by rw [HDOT.out, hfour]
                               have hc : Calls Tryd.prog 106 #[.string s, .int .i64 (q.length : Int), .int .i64 (s.size : Int), .slice (some ⟨g + 1, 12, none⟩) 4 4] wr fun e w' => e = .returned .nilIface ∧ Hid (V6W g w W1 w' (acc ++ l)) := by
                                 refine hv.mono fun e w' ⟨hb, hsz2, hr⟩ => ?_
                                 rcases hr with ⟨h, _⟩ | ⟨l2, h, he, hk2⟩
                                 · rw [hfour] at h; cases h
                                 · rw [hfour] at h
                                   injection h with h
                                   subst h
                                   exact ⟨he, Lib.hid (HV.out.four 12 HAL.out hl4 (by omega) hb hsz2 hk2)⟩
                               have HC := Lib.hid hc
                               have HFIN := Lib.hid hfin
                               have HL4 := Lib.hid hl4
                               clear hfin hv hc hfour hl4
                               go_wp2_with (go_at_call 106; refine HC.out.mono ?_; rintro e w2 ⟨rfl, HV3⟩)
                               go_meet
                               case rel => exact ⟨ByteArray.empty, 12 + 4, acc ++ l, none, rfl, by go_num, rfl, by omega, Lib.hid (by rw [List.length_append, HAL.out, HL4.out]), Lib.hid (by rw [if_pos (show ByteArray.empty.size = 0 from rfl)]; exact HFIN.out), Lib.hid (fun e h => by have := HEL.out e h; omega), HV3⟩
                           · have h12b : ((i : Int) != 12) = true := by rw [bne_iff_ne]; omega
                             have hno : F = none := by
                               rw [HDOT.out]; cases hf : pl.four S.data.toList with
                               | none => rfl
                               | some l => have := pl.four_l4 _ _ hf; show (if _ then _ else _) = none; rw [if_neg (by rw [List.length_append, HAL.out]; omega)]
                             have HNO := Lib.hid hno
                             clear hno
                             go_wp2_with fail
                             exact v6_err HNO.out HRr.out HBr.out hg rfl rfl rfl
                        · as_aux_lemma =>
                           have hel : ellI (some e) = (e : Int) := rfl
                           have hel0 : (0 : Int) ≤ (e : Int) := by omega
                           by_cases h14 : i = 14
                           · as_aux_lemma =>
                              skip
                              have hno : F = none := by
                                rw [HDOT.out]; cases hf : pl.four S.data.toList with
                                | none => rfl
                                | some l => have := pl.four_l4 _ _ hf; show (if _ then _ else _) = none; rw [if_neg (by rw [List.length_append, HAL.out]; omega)]
                              have HNO := Lib.hid hno
                              clear hno
                              go_wp2_with fail
                              exact v6_err HNO.out HRr.out HBr.out hg rfl rfl rfl
                           · have hsl : (Instr.sliceAt 127 (.pointer (some ⟨g + 1, 0, none⟩)) (some (.int .i64 (i : Int))) (some (.int .i64 ((i : Int) + 4))) none).run Tryd.prog wr = .ok (.slice (some ⟨g + 1, i, none⟩) 4 (16 - i)) wr := slice_any (g + 1) i 4 wr (by have := HEV.out; omega) (by omega)
                             have hslice : i ≤ 12 := by have := HEV.out; omega
                             have hsub : (s.size : Int) - (S.size : Int) = (q.length : Int) := by have := HSZ.out; omega
                             have hv := v4f_sp s q.length s.size S HSX.out wr (g + 1) i (16 - i) (acc ++ List.replicate (16 - acc.length) 0) 127 HV.out.blk (by have := HV.out.len; simp; omega) (by have := HSZ.out; omega) (Nat.le_refl _) hs
                             rcases hfour : pl.four S.data.toList with _ | l
                             · have hno : F = none := by rw [HDOT.out, hfour]
                               have HNO := Lib.hid hno
                               have hc : Calls Tryd.prog 106 #[.string s, .int .i64 (q.length : Int), .int .i64 (s.size : Int), .slice (some ⟨g + 1, i, none⟩) 4 (16 - i)] wr fun e w' => (∃ t v, e = .returned (.iface t v)) ∧ Below g w w' ∧ Blk w' g #[Value.int IntKind.u64 0, Value.int IntKind.u64 0, Value.pointer none] 119 := by
                                 refine hv.mono fun e w' ⟨hb, _, hr⟩ => ?_
                                 rcases hr with ⟨_, h⟩ | ⟨l, h, _⟩
                                 · exact ⟨h, HBr.out.trans (hb.mono (Nat.le_succ _)), HRr.out.below hb (Nat.lt_succ_self _)⟩
                                 · rw [hfour] at h; cases h
                               have HC := Lib.hid hc
                               clear hno hv hc hfour
                               go_wp2_with (go_at_call 106; refine HC.out.mono ?_; rintro e w2 ⟨⟨t, v, rfl⟩, hb3, hR3⟩; obtain ⟨d0, d1, d2, k0, k1, k2⟩ := blk3 hR3; have HR3 := Lib.hid hR3; clear hR3)
                               exact v6_err HNO.out HR3.out hb3 hg rfl rfl rfl
                             · have hl4 := pl.four_l4 _ _ hfour
                               have hfin : F = pl.fin6 (acc ++ l) (some e) := by rw [HDOT.out, hfour]
                               have hc : Calls Tryd.prog 106 #[.string s, .int .i64 (q.length : Int), .int .i64 (s.size : Int), .slice (some ⟨g + 1, i, none⟩) 4 (16 - i)] wr fun e w' => e = .returned .nilIface ∧ Hid (V6W g w W1 w' (acc ++ l)) := by
                                 refine hv.mono fun e w' ⟨hb, hsz2, hr⟩ => ?_
                                 rcases hr with ⟨h, _⟩ | ⟨l2, h, he, hk2⟩
                                 · rw [hfour] at h; cases h
                                 · rw [hfour] at h
                                   injection h with h
                                   subst h
                                   exact ⟨he, Lib.hid (HV.out.four i HAL.out hl4 (by omega) hb hsz2 hk2)⟩
                               have HC := Lib.hid hc
                               have HFIN := Lib.hid hfin
                               have HL4 := Lib.hid hl4
                               clear hfin hv hc hfour hl4
                               go_wp2_with (go_at_call 106; refine HC.out.mono ?_; rintro e w2 ⟨rfl, HV3⟩)
                               go_meet
                               case rel => exact ⟨ByteArray.empty, i + 4, acc ++ l, (some e), rfl, by go_num, rfl, by omega, Lib.hid (by rw [List.length_append, HAL.out, HL4.out]), Lib.hid (by rw [if_pos (show ByteArray.empty.size = 0 from rfl)]; exact HFIN.out), Lib.hid (fun e h => by have := HEL.out e h; omega), HV3⟩
                     · have h46b := pl.no46 x h46
                       obtain ⟨z0, e0⟩ := HV.out.cell i (by omega)
                       obtain ⟨z1, e1⟩ := HV.out.cell (i + 1) (by omega)
                       have n0 := HV.out.blk.frozen i
                       have n1 := HV.out.blk.frozen (i + 1)
                       have hput := HV.out.put i HAL.out (by omega) (UInt8.ofNat (m / 256)) (UInt8.ofNat m)
                       rw [← pl.byte_hi m hm, ← pl.byte_lo m, show [UInt8.ofNat (m / 256), UInt8.ofNat m] = pl.grp (S.data.toList.take k) by rw [pl.grp, ← HM.out]] at hput
                       have HPUT := Lib.hid hput
                       have HR2 := Lib.hid (HR1.out.below hput.bel (Nat.lt_succ_self _))
                       have HB2 := Lib.hid (HB1.out.trans (hput.bel.mono (Nat.le_succ _)))
                       have HLEN : Hid ((acc ++ pl.grp (S.data.toList.take k)).length = i + 2) := Lib.hid (by rw [List.length_append, HAL.out]; rfl)
                       clear hput
                       by_cases h58 : x = 58
                       · as_aux_lemma =>
                          subst h58
                          obtain ⟨U, hU⟩ : ∃ U, T.extract 1 T.size = U := ⟨_, rfl⟩
                          have hUd : T.data.toList = 58 :: U.data.toList := by rw [HTC.out, ← hU, pl.ext_drop]
                          have hUs : U.size = T.size - 1 := by rw [← hU, pl.ext_size]
                          have hSU : S.data.toList = S.data.toList.take k ++ 58 :: U.data.toList := by have h := HTD.out; rw [hUd] at h; exact h
                          have hFU : F = pl.rest6 acc ell (S.data.toList.take k ++ 58 :: U.data.toList) := HF.out.trans (congrArg (pl.rest6 acc ell) hSU)
                          have HFU := Lib.hid hFU
                          have HUD := Lib.hid hUd
                          have hSUF : s.data.toList = (q ++ (S.data.toList.take k ++ [58])) ++ U.data.toList := by
                            have h1 := HQ.out.trans (congrArg (q ++ ·) hSU)
                            rw [h1]; simp
                          have HSUF := Lib.hid hSUF
                          have hUS31 : U.size ≤ 2147483648 := by omega
                          have hUlt : U.size < S.size := by have := HTS.out; omega
                          have HUS := Lib.hid hUs
                          clear hUd hFU hSUF hSU hUs
                          by_cases hU0 : U.size = 0
                          · have hT1 : T.size = 1 := by have := HUS.out; omega
                            have hno : F = none := by
                              rw [HFU.out, pl.nil_of U hU0]; exact pl.rest6_colon_last acc ell _ HOK.out
                            have HNO := Lib.hid hno
                            clear hno
                            go_wp2_with fail
                            exact v6_err HNO.out HR2.out HB2.out hg rfl rfl rfl
                          · have hT1 : T.size ≠ 1 := by have := HUS.out; omega
                            obtain ⟨y, hy⟩ : ∃ y, U[0] = y := ⟨_, rfl⟩
                            obtain ⟨V, hV⟩ : ∃ V, U.extract 1 U.size = V := ⟨_, rfl⟩
                            have hUc : U.data.toList = y :: V.data.toList := by
                              have := pl.drop_cons' U 0 (by omega)
                              rw [List.drop_zero, hy] at this
                              rw [this, ← hV, pl.ext_drop]
                            have hVs : V.size = U.size - 1 := by rw [← hV, pl.ext_size]
                            have HUC := Lib.hid hUc
                            have hVS31 : V.size ≤ 2147483648 := by omega
                            have hVlt : V.size < S.size := by omega
                            have HVS := Lib.hid hVs
                            clear hUc hVs
                            by_cases hy58 : y = 58
                            · as_aux_lemma =>
                               subst hy58
                               rcases ell with _ | e
                               · as_aux_lemma =>
                                  have hel : ellI none = -1 := rfl
                                  by_cases hV0 : V.size = 0
                                  · have hfin : F = pl.fin6 (acc ++ pl.grp (S.data.toList.take k)) (some (i + 2)) := by
                                      rw [HFU.out, HUC.out, pl.nil_of V hV0]
                                      have := pl.rest6_dd_end acc _ HOK.out
                                      rw [HAL.out] at this
                                      exact this
                                    have HFIN := Lib.hid hfin
                                    clear hfin
                                    go_wp2_with fail
                                    go_meet
                                    case rel => exact ⟨V, i + 2, acc ++ pl.grp (S.data.toList.take k), some (i + 2), rfl, by go_num, by simp [ellI], by omega, HLEN, Lib.hid (by rw [if_pos hV0]; exact HFIN.out), Lib.hid (fun e h => by injection h with h; omega), HPUT⟩
                                  · have hnx : F = pl.rest6 (acc ++ pl.grp (S.data.toList.take k)) (some (i + 2)) V.data.toList := by
                                      rw [HFU.out, HUC.out]
                                      have := pl.rest6_dd acc _ V.data.toList HOK.out (pl.data_ne V hV0)
                                      rw [HAL.out] at this
                                      exact this
                                    have HNX2 := Lib.hid hnx
                                    clear hnx
                                    go_wp2_with fail
                                    go_roundw
                                    case rel => exact ⟨V, i + 2, acc ++ pl.grp (S.data.toList.take k), some (i + 2), rfl, by go_num, by simp [ellI], by omega, by omega, hVS31, HLEN, Lib.hid (by have := HEV.out; omega), HNX2, Lib.hid (fun e h => by injection h with h; omega), Lib.hid ⟨q ++ (S.data.toList.take k ++ [58]) ++ [58], by rw [HSUF.out, HUC.out]; simp⟩, Lib.hid (.inl (by simp)), HPUT⟩
                                    case measure => exact hVlt
                               · as_aux_lemma =>
                                  have hel : ellI (some e) = (e : Int) := rfl
                                  have hno : F = none := by
                                    rw [HFU.out, HUC.out]; exact pl.rest6_twice acc e _ _ HOK.out
                                  have HNO := Lib.hid hno
                                  clear hno
                                  go_wp2_with fail
                                  exact v6_err HNO.out HR2.out HB2.out hg rfl rfl rfl
                            · obtain ⟨y58b, y58c⟩ := pl.no58 y hy58
                              have hnx : F = pl.rest6 (acc ++ pl.grp (S.data.toList.take k)) ell U.data.toList := by
                                rw [HFU.out]
                                exact pl.rest6_group acc ell _ _ HOK.out (by rw [HUC.out]; simpa using hy58)
                              have HNX2 := Lib.hid hnx
                              clear hnx
                              go_wp2_with fail
                              go_roundw
                              case rel => exact ⟨U, i + 2, acc ++ pl.grp (S.data.toList.take k), ell, rfl, by go_num, rfl, by omega, by omega, hUS31, HLEN, Lib.hid (by have := HEV.out; omega), HNX2, Lib.hid (fun e h => by have := HEL.out e h; omega), Lib.hid ⟨_, HSUF.out⟩, Lib.hid (.inr (fun r h => by rw [HUC.out] at h; injection h with h1 _; exact hy58 h1)), HPUT⟩
                              case measure => exact hUlt
                       · obtain ⟨h58b, h58c⟩ := pl.no58 x h58
                         have hno : F = none := by
                           rw [HF.out, HTD.out, HTC.out]; exact pl.rest6_char acc ell _ _ x HA.out HXN.out h58 h46
                         have HNO := Lib.hid hno
                         clear hno
                         go_wp2_with fail
                         exact v6_err HNO.out HR2.out HB2.out hg rfl rfl rfl
                   · have hkS : k = S.size := by omega
                     have hT0 : T.size = 0 := by have := HTS.out; omega
                     obtain ⟨z0, e0⟩ := HV.out.cell i (by omega)
                     obtain ⟨z1, e1⟩ := HV.out.cell (i + 1) (by omega)
                     have n0 := HV.out.blk.frozen i
                     have n1 := HV.out.blk.frozen (i + 1)
                     have hput := HV.out.put i HAL.out (by omega) (UInt8.ofNat (m / 256)) (UInt8.ofNat m)
                     rw [← pl.byte_hi m hm, ← pl.byte_lo m, show [UInt8.ofNat (m / 256), UInt8.ofNat m] = pl.grp (S.data.toList.take k) by rw [pl.grp, ← HM.out]] at hput
                     have HPUT := Lib.hid hput
                     have HR2 := Lib.hid (HR1.out.below hput.bel (Nat.lt_succ_self _))
                     have HB2 := Lib.hid (HB1.out.trans (hput.bel.mono (Nat.le_succ _)))
                     have HLEN : Hid ((acc ++ pl.grp (S.data.toList.take k)).length = i + 2) := Lib.hid (by rw [List.length_append, HAL.out]; rfl)
                     clear hput
                     have hfin : F = pl.fin6 (acc ++ pl.grp (S.data.toList.take k)) ell := by
                       have := pl.rest6_end acc ell _ HOK.out
                       rw [← this, HF.out]
                       congr 1
                       exact (List.take_of_length_le (by simp; omega)).symm
                     have HFIN := Lib.hid hfin
                     clear hfin
                     go_wp2_with fail
                     go_meet
                     case rel => exact ⟨ByteArray.empty, i + 2, acc ++ pl.grp (S.data.toList.take k), ell, rfl, by go_num, rfl, by omega, HLEN, Lib.hid (by rw [if_pos (show ByteArray.empty.size = 0 from rfl)]; exact HFIN.out), Lib.hid (fun e h => by have := HEL.out e h; omega), HPUT⟩
            · have hno : F = none := by rw [HF.out]; exact pl.rest6_full acc ell _ (by rw [HAL.out]; omega)
              have HNO := Lib.hid hno
              clear hno
              go_wp2_with fail
              go_meet
              case rel => exact ⟨S, i, acc, ell, rfl, rfl, rfl, hi, HAL, Lib.hid (by rw [if_neg (by omega)]; exact HNO.out), HEL, HV⟩
       case rest =>
        as_aux_lemma =>
         obtain ⟨S, i, acc, ell, rfl, rfl, rfl, hi, HAL, HF, HEL, HV⟩ := hcut
         have HRr : Hid (Blk wc g #[Value.int IntKind.u64 0, Value.int IntKind.u64 0, Value.pointer none] 119) := Lib.hid (HR1.out.below HV.out.bel (Nat.lt_succ_self _))
         have HBr : Hid (Below g w wc) := Lib.hid (HB1.out.trans (HV.out.bel.mono (Nat.le_succ _)))
         obtain ⟨c0, c1, c2, f0, f1, f2⟩ := blk3 HRr.out
         by_cases hS : S.size = 0
         · have hf : F = pl.fin6 acc ell := by rw [HF.out, if_pos hS]
           have HFI := Lib.hid hf
           clear hf
           by_cases h16 : i < 16
           · rcases ell with _ | e
             · as_aux_lemma =>
                have hel : ellI none = -1 := rfl
                have hno : F = none := by
                  rw [HFI.out]; show (if _ then _ else _) = none; rw [if_neg (by rw [HAL.out]; omega)]
                have HNO := Lib.hid hno
                clear hno
                go_wp2_with fail
                exact v6_err HNO.out HRr.out HBr.out hg rfl rfl rfl
             · as_aux_lemma =>
                have hel : ellI (some e) = (e : Int) := rfl
                have hei := HEL.out e rfl
                obtain ⟨n, hn⟩ : ∃ n, i + n = 16 := ⟨16 - i, by omega⟩
                have hni : (16 : Int) - (i : Int) = (n : Int) := by omega
                have hn0 : 0 < n := by omega
                have hei0 : (0 : Int) ≤ (e : Int) := by omega
                go_upto_block 4 with fail
                go_cut [15] (fun jv wx => Hid (∃ mid, mid.length = n ∧ BBlk wx (g + 1) (acc.take e ++ mid ++ acc.drop e) 127) ∧ Hid (Below (g + 1) W1 wx))
                case first =>
                 as_aux_lemma =>
                   go_wp2_with fail
                   go_loopg [15] (i - e) (fun k jv wi => ∃ c : Nat, jv = .int .i64 ((c : Int) - 1) ∧ e ≤ c ∧ c ≤ i ∧ Hid (k + e = c) ∧ Hid (∃ mid, mid.length = n ∧ BBlk wi (g + 1) (acc.take c ++ mid ++ acc.drop c) 127) ∧ Hid (Below (g + 1) W1 wi))
                   case atStart => exact ⟨i, by go_num, hei, Nat.le_refl _, Lib.hid (by omega), Lib.hid ⟨List.replicate n 0, by simp, by
                     have h := HV.out.blk
                     rw [HAL.out, show 16 - i = n by omega] at h
                     rw [List.take_of_length_le (by rw [HAL.out]; omega), List.drop_eq_nil_of_le (by rw [HAL.out]; omega), List.append_nil]
                     exact h⟩, Lib.hid HV.out.bel⟩
                   case round =>
                     obtain ⟨c, rfl, hec, hci, HK, HM, HBW⟩ := hrel
                     by_cases hce : c = e
                     · subst hce
                       have hlt0 : ((c : Int) - 1) < (c : Int) := by omega
                       go_wp2_with fail
                       go_meet
                       case rel => exact ⟨HM, HBW⟩
                     · obtain ⟨j, rfl⟩ : ∃ j, c = j + 1 := ⟨c - 1, by omega⟩
                       have hj : (((j + 1 : Nat) : Int) - 1) = (j : Int) := by omega
                       rw [hj]
                       obtain ⟨mid, hml, hmb⟩ := HM.out
                       have hjl : j < acc.length := by rw [HAL.out]; omega
                       obtain ⟨md, z, rfl⟩ : ∃ md z, mid = md ++ [z] := by
                         have : mid ≠ [] := by intro e; rw [e] at hml; simp at hml; omega
                         exact ⟨_, _, (List.dropLast_concat_getLast this).symm⟩
                       obtain ⟨x, hx⟩ : ∃ x, acc[j] = x := ⟨_, rfl⟩
                       have hll : (acc.take (j + 1) ++ (md ++ [z]) ++ acc.drop (j + 1)).length = 16 := by
                         rw [List.length_append, List.length_append, hml, List.length_take, List.length_drop, HAL.out]; omega
                       have hxj : wr.cell? ⟨g + 1, j, none⟩ = some (.int .u8 (x.toNat : Int)) := by
                         have h := hmb.cell j (by rw [hll]; omega)
                         have e : (acc.take (j + 1) ++ (md ++ [z]) ++ acc.drop (j + 1))[j]'(by rw [hll]; omega) = x := by
                           rw [List.getElem_append_left (by rw [List.length_append, List.length_take]; omega), List.getElem_append_left (by rw [List.length_take]; omega), List.getElem_take]
                           exact hx
                         rw [h, e]; rfl
                       obtain ⟨zz, hcell⟩ : ∃ v, wr.cell? ⟨g + 1, j + n, none⟩ = some v := ⟨_, hmb.cell (j + n) (by rw [hll]; omega)⟩
                       have hfro := hmb.frozen (j + n)
                       have hset := hmb.set (j + n) x
                       have hmn : md.length + 1 = n := by rw [← hml]; simp
                       have hmv := pl.move_one acc md z j hjl
                       rw [hmn, hx] at hmv
                       rw [hmv] at hset
                       have HSET : Hid (∃ mid, mid.length = n ∧ BBlk (wr.setCell ⟨g + 1, j + n, none⟩ (.int .u8 (x.toNat : Int))) (g + 1) (acc.take j ++ mid ++ acc.drop j) 127) := Lib.hid ⟨x :: md, by rw [← hmn]; rfl, hset⟩
                       have hji : j + n < 16 := by omega
                       have hje : (e : Int) ≤ (j : Int) := by omega
                       clear hset hmv hmn hml hmb hll hjl hx hj HM
                       go_wp2_with fail
                       go_roundg (gk - 1)
                       case rel => exact ⟨j, by go_num, by omega, by omega, Lib.hid (by have := HK.out; omega), HSET, Lib.hid (HBW.out.setCell (Nat.le_refl _) _)⟩
                       case measure => have := HK.out; omega
                case rest =>
                 as_aux_lemma =>
                   obtain ⟨HM, HBX⟩ := hcut
                   obtain ⟨mid, hml, hmb⟩ := HM.out
                   have hll : (acc.take e ++ mid ++ acc.drop e).length = 16 := by
                     rw [List.length_append, List.length_append, hml, List.length_take, List.length_drop, HAL.out]; omega
                   obtain ⟨L, hL⟩ : ∃ L, acc.take e ++ List.replicate n 0 ++ acc.drop e = L := ⟨_, rfl⟩
                   have HL16 : Hid (L.length = 16) := Lib.hid (by
                     rw [← hL, List.length_append, List.length_append, List.length_replicate, List.length_take, List.length_drop, HAL.out]; omega)
                   have HFL : Hid (F = some L) := Lib.hid (by
                     rw [HFI.out, ← hL]; show (if _ then _ else _) = _; rw [if_pos (by rw [HAL.out]; omega), HAL.out, show 16 - i = n by omega])
                   have hsl := slice_any (g + 1) e n wc (by omega) hn0
                   have hcl : ∀ ty, (Builtin.clear_ #[26] ty #[.slice (some ⟨g + 1, e, none⟩) n (16 - e)]).run Tryd.prog wc = .ok (.tuple #[]) (wc.setCells (g + 1) e (List.replicate n (.int .u8 0))) :=
                     fun ty => Lib.run_clear_slice wc _ 5 ty (.int .u8 0) Tryd.underlying26 (fun w => by kernel_rfl) rfl rfl (g + 1) e n (16 - e) hn0 (fun j hj => by rw [hmb.cell (e + j) (by rw [hll]; omega)]; rfl) (fun j _ => hmb.frozen _)
                   obtain ⟨W2, hW2⟩ : ∃ W2, wc.setCells (g + 1) e (List.replicate n (.int .u8 0)) = W2 := ⟨_, rfl⟩
                   have hrep : List.replicate n (Value.int .u8 0) = (List.replicate n (0 : UInt8)).map pl.byteV := by rw [List.map_replicate]; rfl
                   have HBL : Hid (BBlk W2 (g + 1) L 127) := Lib.hid (by
                     rw [← hW2, hrep]
                     have h := BBlk.setCells (List.replicate n (0 : UInt8)) e hmb (by rw [hll, List.length_replicate]; omega)
                     have e1 : (acc.take e ++ mid ++ acc.drop e).take e = acc.take e := by
                       rw [List.append_assoc, List.take_append_of_le_length (by rw [List.length_take, HAL.out]; omega), List.take_take, Nat.min_self]
                     have e2 : (acc.take e ++ mid ++ acc.drop e).drop (e + (List.replicate n (0 : UInt8)).length) = acc.drop e := by
                       have hl3 : (acc.take e ++ mid).length = e + (List.replicate n (0 : UInt8)).length := by rw [List.length_append, List.length_take, HAL.out, hml, List.length_replicate]; omega
                       rw [← hl3, List.drop_left]
                     rw [e1, e2, hL] at h
                     exact h)
                   have HBW : Hid (Below (g + 1) W1 W2) := Lib.hid (by rw [← hW2]; exact Below.setCells (Nat.le_refl _) _ _ HBX.out)
                   rw [hW2] at hcl
                   clear hml hmb hll hL hrep HM hW2
                   have hlen : L.length = 16 := HL16.out
                   have hadr : adr g4 o4 g6 o6 L = ipV (pl.be (L.take 8)) (pl.be (L.drop 8)) g6 o6 := by unfold adr; rw [if_neg (by omega)]
                   obtain ⟨x, hx⟩ : ∃ x, pl.be (L.take 8) = x := ⟨_, rfl⟩
                   obtain ⟨y, hy⟩ : ∃ y, pl.be (L.drop 8) = y := ⟨_, rfl⟩
                   have hIW := hI.below (HB1.out.trans (HBW.out.mono (Nat.le_succ _))) (by omega)
                   have haf := af16_sp g4 o4 g6 o6 L W2 hlen hIW
                   have hwz : ∀ W', Below (W2).heap.size (W2) W' → Calls Tryd.prog 110 #[ipV x y g6 o6, .string ⟨#[]⟩] W' fun e w' => e = .returned (ipV x y g6 o6) ∧ Below W'.heap.size W' w' := fun W' hb => wz_sp g4 o4 g6 o6 x y W' (hIW.below hb (Nat.le_refl _))
                   rw [hx, hy] at haf hadr
                   have hip : ipV x y g6 o6 = .agg #[.int .u64 (x : Int), .int .u64 (y : Int), .pointer (some ⟨g6, o6, none⟩)] := rfl
                   rw [hip] at haf hwz hadr
                   obtain ⟨b0, b1, b2, b3, b4, b5, b6, b7, b8, b9, b10, b11, b12, b13, b14, b15, hLe⟩ := pl.list16 L hlen
                   have hBe := HBL.out
                   rw [hLe] at hBe haf
                   have q0 : (W2).cell? ⟨g + 1, 0, none⟩ = some (pl.byteV b0) := hBe.cell 0 (by simp)
                   have q1 : (W2).cell? ⟨g + 1, 1, none⟩ = some (pl.byteV b1) := hBe.cell 1 (by simp)
                   have q2 : (W2).cell? ⟨g + 1, 2, none⟩ = some (pl.byteV b2) := hBe.cell 2 (by simp)
                   have q3 : (W2).cell? ⟨g + 1, 3, none⟩ = some (pl.byteV b3) := hBe.cell 3 (by simp)
                   have q4 : (W2).cell? ⟨g + 1, 4, none⟩ = some (pl.byteV b4) := hBe.cell 4 (by simp)
                   have q5 : (W2).cell? ⟨g + 1, 5, none⟩ = some (pl.byteV b5) := hBe.cell 5 (by simp)
                   have q6 : (W2).cell? ⟨g + 1, 6, none⟩ = some (pl.byteV b6) := hBe.cell 6 (by simp)
                   have q7 : (W2).cell? ⟨g + 1, 7, none⟩ = some (pl.byteV b7) := hBe.cell 7 (by simp)
                   have q8 : (W2).cell? ⟨g + 1, 8, none⟩ = some (pl.byteV b8) := hBe.cell 8 (by simp)
                   have q9 : (W2).cell? ⟨g + 1, 9, none⟩ = some (pl.byteV b9) := hBe.cell 9 (by simp)
                   have q10 : (W2).cell? ⟨g + 1, 10, none⟩ = some (pl.byteV b10) := hBe.cell 10 (by simp)
                   have q11 : (W2).cell? ⟨g + 1, 11, none⟩ = some (pl.byteV b11) := hBe.cell 11 (by simp)
                   have q12 : (W2).cell? ⟨g + 1, 12, none⟩ = some (pl.byteV b12) := hBe.cell 12 (by simp)
                   have q13 : (W2).cell? ⟨g + 1, 13, none⟩ = some (pl.byteV b13) := hBe.cell 13 (by simp)
                   have q14 : (W2).cell? ⟨g + 1, 14, none⟩ = some (pl.byteV b14) := hBe.cell 14 (by simp)
                   have q15 : (W2).cell? ⟨g + 1, 15, none⟩ = some (pl.byteV b15) := hBe.cell 15 (by simp)
                   have haf2 : Calls Tryd.prog 111 #[.agg #[pl.byteV b0, pl.byteV b1, pl.byteV b2, pl.byteV b3, pl.byteV b4, pl.byteV b5, pl.byteV b6, pl.byteV b7, pl.byteV b8, pl.byteV b9, pl.byteV b10, pl.byteV b11, pl.byteV b12, pl.byteV b13, pl.byteV b14, pl.byteV b15]] W2 fun e w' => e = .returned (.agg #[.int .u64 (x : Int), .int .u64 (y : Int), .pointer (some ⟨g6, o6, none⟩)]) ∧ Below (W2).heap.size (W2) w' := haf
                   have HAF := Lib.hid haf2
                   have HWZ := Lib.hid hwz
                   have HAD := Lib.hid hadr
                   have hgW : g < (W2).heap.size := Nat.lt_of_lt_of_le (by omega) HBW.out.size
                   have HRW : Hid (Blk (W2) g #[Value.int IntKind.u64 0, Value.int IntKind.u64 0, Value.pointer none] 119) := Lib.hid (HR1.out.below HBW.out (Nat.lt_succ_self _))
                   have HBW2 : Hid (Below g w (W2)) := Lib.hid (HB1.out.trans (HBW.out.mono (Nat.le_succ _)))
                   clear haf haf2 hBe hLe hwz hadr hx hy hlen hIW c0 c1 c2 f0 f1 f2 hip
                   go_wp2_with (first
                     | (go_at_call 111; refine HAF.out.mono ?_; rintro e w3 ⟨rfl, hb3⟩)
                     | (go_at_call 110; refine (HWZ.out _ hb3).mono ?_; rintro e w4 ⟨rfl, hb4⟩; have hR4 := (HRW.out.below hb3 hgW).below hb4 (Nat.lt_of_lt_of_le hgW hb3.size); have hb5 := (HBW2.out.trans (hb3.mono (Nat.le_of_lt hgW))).trans (hb4.mono (Nat.le_trans (Nat.le_of_lt hgW) hb3.size)); obtain ⟨d0, d1, d2, k0, k1, k2⟩ := blk3 hR4; have HST := Lib.hid (set3 (.int .u64 (x : Int)) (.int .u64 (y : Int)) (.pointer (some ⟨g6, o6, none⟩)) hR4); clear hR4))
                   obtain ⟨hR5, hB5, _⟩ := HST.out
                   refine bodyPost_ret (results_cell_tmp_row rfl _ _ g _ _ _ _ rfl rfl hR5 Tryd.underlying119 rfl (by kernel_rfl)) rfl ?_
                   exact ⟨hg ▸ hB5 g w hb5 (Nat.le_refl _), .inr ⟨L, HFL.out, .inr HL16.out, by rw [HAD.out]; rfl⟩⟩
           · rcases ell with _ | e
             · as_aux_lemma =>
                have hel : ellI none = -1 := rfl
                have h16' : i = 16 := by omega
                obtain ⟨L, hL⟩ : ∃ L, acc = L := ⟨_, rfl⟩
                have HL16 : Hid (L.length = 16) := Lib.hid (by rw [← hL, HAL.out]; exact h16')
                have HFL : Hid (F = some L) := Lib.hid (by rw [HFI.out, hL]; exact if_pos HL16.out)
                have HBL : Hid (BBlk wc (g + 1) L 127) := Lib.hid (by
                  have h := HV.out.blk
                  rw [HAL.out, h16', hL] at h
                  simpa using h)
                have HBW : Hid (Below (g + 1) W1 wc) := Lib.hid HV.out.bel
                clear hL
                have hlen : L.length = 16 := HL16.out
                have hadr : adr g4 o4 g6 o6 L = ipV (pl.be (L.take 8)) (pl.be (L.drop 8)) g6 o6 := by unfold adr; rw [if_neg (by omega)]
                obtain ⟨x, hx⟩ : ∃ x, pl.be (L.take 8) = x := ⟨_, rfl⟩
                obtain ⟨y, hy⟩ : ∃ y, pl.be (L.drop 8) = y := ⟨_, rfl⟩
                have hIW := hI.below (HB1.out.trans (HBW.out.mono (Nat.le_succ _))) (by omega)
                have haf := af16_sp g4 o4 g6 o6 L wc hlen hIW
                have hwz : ∀ W', Below (wc).heap.size (wc) W' → Calls Tryd.prog 110 #[ipV x y g6 o6, .string ⟨#[]⟩] W' fun e w' => e = .returned (ipV x y g6 o6) ∧ Below W'.heap.size W' w' := fun W' hb => wz_sp g4 o4 g6 o6 x y W' (hIW.below hb (Nat.le_refl _))
                rw [hx, hy] at haf hadr
                have hip : ipV x y g6 o6 = .agg #[.int .u64 (x : Int), .int .u64 (y : Int), .pointer (some ⟨g6, o6, none⟩)] := rfl
                rw [hip] at haf hwz hadr
                obtain ⟨b0, b1, b2, b3, b4, b5, b6, b7, b8, b9, b10, b11, b12, b13, b14, b15, hLe⟩ := pl.list16 L hlen
                have hBe := HBL.out
                rw [hLe] at hBe haf
                have q0 : (wc).cell? ⟨g + 1, 0, none⟩ = some (pl.byteV b0) := hBe.cell 0 (by simp)
                have q1 : (wc).cell? ⟨g + 1, 1, none⟩ = some (pl.byteV b1) := hBe.cell 1 (by simp)
                have q2 : (wc).cell? ⟨g + 1, 2, none⟩ = some (pl.byteV b2) := hBe.cell 2 (by simp)
                have q3 : (wc).cell? ⟨g + 1, 3, none⟩ = some (pl.byteV b3) := hBe.cell 3 (by simp)
                have q4 : (wc).cell? ⟨g + 1, 4, none⟩ = some (pl.byteV b4) := hBe.cell 4 (by simp)
                have q5 : (wc).cell? ⟨g + 1, 5, none⟩ = some (pl.byteV b5) := hBe.cell 5 (by simp)
                have q6 : (wc).cell? ⟨g + 1, 6, none⟩ = some (pl.byteV b6) := hBe.cell 6 (by simp)
                have q7 : (wc).cell? ⟨g + 1, 7, none⟩ = some (pl.byteV b7) := hBe.cell 7 (by simp)
                have q8 : (wc).cell? ⟨g + 1, 8, none⟩ = some (pl.byteV b8) := hBe.cell 8 (by simp)
                have q9 : (wc).cell? ⟨g + 1, 9, none⟩ = some (pl.byteV b9) := hBe.cell 9 (by simp)
                have q10 : (wc).cell? ⟨g + 1, 10, none⟩ = some (pl.byteV b10) := hBe.cell 10 (by simp)
                have q11 : (wc).cell? ⟨g + 1, 11, none⟩ = some (pl.byteV b11) := hBe.cell 11 (by simp)
                have q12 : (wc).cell? ⟨g + 1, 12, none⟩ = some (pl.byteV b12) := hBe.cell 12 (by simp)
                have q13 : (wc).cell? ⟨g + 1, 13, none⟩ = some (pl.byteV b13) := hBe.cell 13 (by simp)
                have q14 : (wc).cell? ⟨g + 1, 14, none⟩ = some (pl.byteV b14) := hBe.cell 14 (by simp)
                have q15 : (wc).cell? ⟨g + 1, 15, none⟩ = some (pl.byteV b15) := hBe.cell 15 (by simp)
                have haf2 : Calls Tryd.prog 111 #[.agg #[pl.byteV b0, pl.byteV b1, pl.byteV b2, pl.byteV b3, pl.byteV b4, pl.byteV b5, pl.byteV b6, pl.byteV b7, pl.byteV b8, pl.byteV b9, pl.byteV b10, pl.byteV b11, pl.byteV b12, pl.byteV b13, pl.byteV b14, pl.byteV b15]] wc fun e w' => e = .returned (.agg #[.int .u64 (x : Int), .int .u64 (y : Int), .pointer (some ⟨g6, o6, none⟩)]) ∧ Below (wc).heap.size (wc) w' := haf
                have HAF := Lib.hid haf2
                have HWZ := Lib.hid hwz
                have HAD := Lib.hid hadr
                have hgW : g < (wc).heap.size := Nat.lt_of_lt_of_le (by omega) HBW.out.size
                have HRW : Hid (Blk (wc) g #[Value.int IntKind.u64 0, Value.int IntKind.u64 0, Value.pointer none] 119) := Lib.hid (HR1.out.below HBW.out (Nat.lt_succ_self _))
                have HBW2 : Hid (Below g w (wc)) := Lib.hid (HB1.out.trans (HBW.out.mono (Nat.le_succ _)))
                clear haf haf2 hBe hLe hwz hadr hx hy hlen hIW c0 c1 c2 f0 f1 f2 hip
                go_wp2_with (first
                  | (go_at_call 111; refine HAF.out.mono ?_; rintro e w3 ⟨rfl, hb3⟩)
                  | (go_at_call 110; refine (HWZ.out _ hb3).mono ?_; rintro e w4 ⟨rfl, hb4⟩; have hR4 := (HRW.out.below hb3 hgW).below hb4 (Nat.lt_of_lt_of_le hgW hb3.size); have hb5 := (HBW2.out.trans (hb3.mono (Nat.le_of_lt hgW))).trans (hb4.mono (Nat.le_trans (Nat.le_of_lt hgW) hb3.size)); obtain ⟨d0, d1, d2, k0, k1, k2⟩ := blk3 hR4; have HST := Lib.hid (set3 (.int .u64 (x : Int)) (.int .u64 (y : Int)) (.pointer (some ⟨g6, o6, none⟩)) hR4); clear hR4))
                obtain ⟨hR5, hB5, _⟩ := HST.out
                refine bodyPost_ret (results_cell_tmp_row rfl _ _ g _ _ _ _ rfl rfl hR5 Tryd.underlying119 rfl (by kernel_rfl)) rfl ?_
                exact ⟨hg ▸ hB5 g w hb5 (Nat.le_refl _), .inr ⟨L, HFL.out, .inr HL16.out, by rw [HAD.out]; rfl⟩⟩
             · as_aux_lemma =>
                have hel : ellI (some e) = (e : Int) := rfl
                have hei0 : (0 : Int) ≤ (e : Int) := by omega
                have hno : F = none := by
                  rw [HFI.out]; show (if _ then _ else _) = none; rw [if_neg (by rw [HAL.out]; omega)]
                have HNO := Lib.hid hno
                clear hno
                go_wp2_with fail
                exact v6_err HNO.out HRr.out HBr.out hg rfl rfl rfl
         · as_aux_lemma =>
            skip
            have hno : F = none := by
              rw [HF.out, if_neg hS]
            have HNO := Lib.hid hno
            clear hno
            go_wp2_with fail
            exact v6_err HNO.out HRr.out HBr.out hg rfl rfl rfl

end Go.Proofs.YtfkohahlpfejbaaDoor
