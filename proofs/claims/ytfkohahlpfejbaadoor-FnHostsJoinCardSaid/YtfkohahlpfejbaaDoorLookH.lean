/-
  WALK: lookupStaticHost.
-/
import Derived.Test.YtfkohahlpfejbaaDoorLook
namespace Go.Proofs.YtfkohahlpfejbaaDoor
open Go.RowKit

def LshRes (H : HSt) (K : Key) (w : World) (e : Ending) (w' : World) : Prop :=
  ∃ v, e = .returned (.tuple #[v, .string ⟨(if (H K).1 = [] then [] else (H K).2).toArray⟩]) ∧ Hid (Strs w' w.heap.size v (H K).1) ∧ Hid (Below w.heap.size w w')

set_option maxRecDepth 100000 in
set_option maxHeartbeats 8000000 in
theorem lsh_sp (w : World) (gt bh bi n B : Nat) (H : HSt) (I : ISt) (X : Nat → Prop) (nm : List UInt8) (hT : TbE w B bh bi n H I X) (hK : Blk w gt #[.map (some bh), .map (some bi)] 140)
    (hasc : ∀ b ∈ nm, b.toNat < 128) (hnl : nm.length ≤ 2147483647) (hln : (H (pl.absN (pl.low nm))).1.length ≤ 1000000) :
    Calls Tryd.prog 66 #[.pointer (some ⟨gt, 0, none⟩), .string ⟨nm.toArray⟩] w (LshRes H (pl.absN (pl.low nm)) w) := by
  obtain ⟨Q, hQ⟩ : ∃ Q : ByteArray, (⟨nm.toArray⟩ : ByteArray) = Q := ⟨_, rfl⟩
  have hQd : Q.data.toList = nm := by rw [← hQ]
  have hQs : Q.size ≤ 2147483647 := by rw [← hQ]; exact hnl
  obtain ⟨K, hKK⟩ : ∃ K, pl.absN (pl.low nm) = K := ⟨_, rfl⟩
  have hup := fun W => hup_sp Q W (by omega) (by rw [hQd]; exact hasc)
  rw [hQd] at hup
  have habl : ∀ W, Calls Tryd.prog 85 #[.string ⟨(pl.low nm).toArray⟩] W fun e w' => e = .returned (.string ⟨K.toArray⟩) ∧ W = w' := fun W => by
    rw [← hKK]; exact abs_any ⟨(pl.low nm).toArray⟩ W (by show (pl.low nm).length ≤ _; rw [pl.low_len]; omega)
  have hks : (⟨K.toArray⟩ : ByteArray).size ≤ maxLen := by
    have h1 := pl.absN_len (pl.low nm)
    rw [pl.low_len, hKK] at h1
    show K.length ≤ maxLen
    unfold maxLen; omega
  rw [hKK] at hln ⊢
  obtain ⟨LL, hLL⟩ : ∃ LL, (H K).1 = LL := ⟨_, rfl⟩
  obtain ⟨CC, hCC⟩ : ∃ CC, (H K).2 = CC := ⟨_, rfl⟩
  unfold LshRes
  rw [hLL] at hln ⊢
  rw [hCC, hQ]
  have HT := Lib.hid hT
  have HK := Lib.hid hK
  have HUP := Lib.hid hup
  have HABL := Lib.hid habl
  have HKS := Lib.hid hks
  have HLL := Lib.hid hLL
  have HCC := Lib.hid hCC
  have HQD := Lib.hid hQd
  have HQS := Lib.hid hQs
  have hupn : nm.any pl.upB = false → (⟨(pl.low nm).toArray⟩ : ByteArray) = Q := fun h => by rw [pl.upB_low nm h, hQ]
  have HUPN := Lib.hid hupn
  obtain ⟨i0, hi, hz0, hz1, hz2⟩ := info_parts infoStr
  obtain ⟨u, hu⟩ : ∃ u, nm.any pl.upB = u := ⟨_, rfl⟩
  have HU := Lib.hid hu
  clear hT hK hup habl hks hLL hCC hQd hQs hupn hu hKK hasc hnl hQ
  by_cases hn : LL = []
  · subst hn
    rw [if_pos rfl]
    rcases u with _ | _
    · have hq := HUPN.out HU.out
      have hab := HABL.out
      rw [hq] at hab
      have HAB := Lib.hid hab
      clear hq hab
      obtain ⟨fh, fi, gh, gi, hTb⟩ := HT.out
      have c0 : w.cell? ⟨gt, 0, none⟩ = some (.map (some bh)) := HK.out.cell 0
      have hfh := hTb.ph.no K HLL.out
      obtain ⟨es, clock, hes, _, _⟩ := hTb.mh.size
      have hlen := run_len_map (P := Tryd.prog) (w := w) 133 3 bh es clock (by kernel_rfl) hes
      have HTB := Lib.hid hTb
      have HFH := Lib.hid hfh
      clear hes hTb hfh
      rcases hs0 : ((es.size : Int) != 0) with _ | _
      · go_enter Tryd.func66, Tryd.ntmps66
        go_wp2_with fail
        go_ret2
        exact ⟨_, rfl, Lib.hid (Strs.nil _ _), Lib.hid (Below.refl _ _)⟩
      · go_enter Tryd.func66, Tryd.ntmps66
        go_wp2_with (go_at_call 87; refine (HUP.out _).mono ?_; rintro e w1 ⟨rfl, hb1⟩; rw [HU.out]; obtain ⟨w2, hw2⟩ : ∃ w2, w1 = w2 := ⟨_, rfl⟩; subst hw2; have HB2 := Lib.hid hb1; have hK2 := HK.out.below hb1 HK.out.lt; have c20 : w1.cell? ⟨gt, 0, none⟩ = some (.map (some bh)) := hK2.cell 0; have c21 : ∀ o, (w1.alloc o).cell? ⟨gt, 0, none⟩ = some (.map (some bh)) := fun o => (hK2.alloc o).cell 0; have hM2 := HTB.out.mh.below hb1 HTB.out.mh.lt; have lk1 := MapF.look (w := w1.drew) (f := fh) (hM2.keep rfl) (t := 133) (e := 137) Tryd.underlying9 Tryd.underlying133 (zero_bn _) ⟨K.toArray⟩ HKS.out true _ HFH.out; have lk2 := MapF.look (w := (w1.alloc (Obj.cells #[.slice none 0 0, .string ⟨#[]⟩] 137)).drew) (f := fh) (hM2.below ((Below.refl w1.heap.size _).alloc (Nat.le_refl _) _).drew hM2.lt) (t := 133) (e := 137) Tryd.underlying9 Tryd.underlying133 (zero_bn _) ⟨K.toArray⟩ HKS.out true _ HFH.out; simp only [Option.getD, Option.isSome, if_pos] at lk1 lk2; clear hK2 hM2; clear hb1)
        go_region_with (go_at_call 85; refine (HAB.out _).mono ?_; rintro e w3 ⟨rfl, rfl⟩)
        all_goals
          go_wp2_with fail
          go_ret2
          exact ⟨_, rfl, Lib.hid (Strs.nil _ _), Lib.hid (HB2.out.alloc HB2.out.size _).drew⟩
    · have HAB := HABL
      obtain ⟨fh, fi, gh, gi, hTb⟩ := HT.out
      have c0 : w.cell? ⟨gt, 0, none⟩ = some (.map (some bh)) := HK.out.cell 0
      have hfh := hTb.ph.no K HLL.out
      obtain ⟨es, clock, hes, _, _⟩ := hTb.mh.size
      have hlen := run_len_map (P := Tryd.prog) (w := w) 133 3 bh es clock (by kernel_rfl) hes
      have HTB := Lib.hid hTb
      have HFH := Lib.hid hfh
      clear hes hTb hfh
      rcases hs0 : ((es.size : Int) != 0) with _ | _
      · go_enter Tryd.func66, Tryd.ntmps66
        go_wp2_with fail
        go_ret2
        exact ⟨_, rfl, Lib.hid (Strs.nil _ _), Lib.hid (Below.refl _ _)⟩
      · go_enter Tryd.func66, Tryd.ntmps66
        go_wp2_with (first
          | (go_at_call 87; refine (HUP.out _).mono ?_; rintro e w1 ⟨rfl, hb1⟩; rw [HU.out]; have HB1 := Lib.hid hb1; obtain ⟨Wc, cap, hconv, hrow, hbc, hszc⟩ := conv_to Q w1; have hlab := lab_sp w1.heap.size cap Q Wc (by have := HQS.out; omega) hrow; have HLAB := Lib.hid hlab; have HBC := Lib.hid hbc; clear hb1 hlab hbc hszc hrow)
          | (go_at_call 86; refine HLAB.out.mono ?_; rintro e w2 ⟨rfl, hR5, hb5⟩; rw [HQD.out] at hR5; have hbk := conv_from w2 w1.heap.size cap Q.size (pl.low nm) (by rw [pl.low_len, ← HQD.out]; simp) hR5; have hbx : Below w.heap.size w w2 := HB1.out.trans ((HBC.out.trans hb5).mono HB1.out.size); have HB2 := Lib.hid hbx; have hK2 := HK.out.below hbx HK.out.lt; have c20 : w2.cell? ⟨gt, 0, none⟩ = some (.map (some bh)) := hK2.cell 0; have c21 : ∀ o, (w2.alloc o).cell? ⟨gt, 0, none⟩ = some (.map (some bh)) := fun o => (hK2.alloc o).cell 0; have hM2 := HTB.out.mh.below hbx HTB.out.mh.lt; have lk1 := MapF.look (w := w2.drew) (f := fh) (hM2.keep rfl) (t := 133) (e := 137) Tryd.underlying9 Tryd.underlying133 (zero_bn _) ⟨K.toArray⟩ HKS.out true _ HFH.out; have lk2 := MapF.look (w := (w2.alloc (Obj.cells #[.slice none 0 0, .string ⟨#[]⟩] 137)).drew) (f := fh) (hM2.below ((Below.refl w2.heap.size _).alloc (Nat.le_refl _) _).drew hM2.lt) (t := 133) (e := 137) Tryd.underlying9 Tryd.underlying133 (zero_bn _) ⟨K.toArray⟩ HKS.out true _ HFH.out; simp only [Option.getD, Option.isSome, if_pos] at lk1 lk2; clear hK2 hM2; clear hb5 hR5 hbx))
        go_region_with (go_at_call 85; refine (HAB.out _).mono ?_; rintro e w3 ⟨rfl, rfl⟩)
        all_goals
          go_wp2_with fail
          go_ret2
          exact ⟨_, rfl, Lib.hid (Strs.nil _ _), Lib.hid (HB2.out.alloc HB2.out.size _).drew⟩
  · rw [if_neg hn]
    have HN := Lib.hid hn
    clear hn
    rcases u with _ | _
    · have hq := HUPN.out HU.out
      have hab := HABL.out
      rw [hq] at hab
      have HAB := Lib.hid hab
      clear hq hab
      obtain ⟨fh, fi, gh, gi, hTb⟩ := HT.out
      have c0 : w.cell? ⟨gt, 0, none⟩ = some (.map (some bh)) := HK.out.cell 0
      obtain ⟨ch, hfh, hsh⟩ := hTb.ph.yes K (by rw [HLL.out]; exact HN.out)
      unfold wrapH at hfh
      rw [HLL.out, HCC.out] at hfh
      rw [HLL.out] at hsh
      obtain ⟨es, clock, hes, hs0⟩ := hTb.mh.size_ne _ _ hfh
      have HSH := Lib.hid hsh
      clear hsh
      have hlen := run_len_map (P := Tryd.prog) (w := w) 133 3 bh es clock (by kernel_rfl) hes
      have HTB := Lib.hid hTb
      have HFH := Lib.hid hfh
      clear hes hTb hfh
      go_enter Tryd.func66, Tryd.ntmps66
      go_wp2_with (go_at_call 87; refine (HUP.out _).mono ?_; rintro e w1 ⟨rfl, hb1⟩; rw [HU.out]; obtain ⟨w2, hw2⟩ : ∃ w2, w1 = w2 := ⟨_, rfl⟩; subst hw2; have HB2 := Lib.hid hb1; have hK2 := HK.out.below hb1 HK.out.lt; have c20 : w1.cell? ⟨gt, 0, none⟩ = some (.map (some bh)) := hK2.cell 0; have c21 : ∀ o, (w1.alloc o).cell? ⟨gt, 0, none⟩ = some (.map (some bh)) := fun o => (hK2.alloc o).cell 0; have hM2 := HTB.out.mh.below hb1 HTB.out.mh.lt; have lk1 := MapF.look (w := w1.drew) (f := fh) (hM2.keep rfl) (t := 133) (e := 137) Tryd.underlying9 Tryd.underlying133 (zero_bn _) ⟨K.toArray⟩ HKS.out true _ HFH.out; have lk2 := MapF.look (w := (w1.alloc (Obj.cells #[.slice none 0 0, .string ⟨#[]⟩] 137)).drew) (f := fh) (hM2.below ((Below.refl w1.heap.size _).alloc (Nat.le_refl _) _).drew hM2.lt) (t := 133) (e := 137) Tryd.underlying9 Tryd.underlying133 (zero_bn _) ⟨K.toArray⟩ HKS.out true _ HFH.out; simp only [Option.getD, Option.isSome, if_pos] at lk1 lk2; clear hK2 hM2; clear hb1)
      go_region_with (go_at_call 85; refine (HAB.out _).mono ?_; rintro e w3 ⟨rfl, rfl⟩)
      all_goals
        go_wp2_with (at_make; refine wpList_make_full _ rfl _ _ 31 rfl (w1.heap.size + 1) 9 i0 (.string ⟨#[]⟩) 1 Tryd.underlying31 hi hz0 hz1 _ _ _ _ LL.length rfl rfl rfl rfl (by rw [hz2]; omega) (by unfold maxLen; omega) (by simp) ?_)
        intro w5 hown5 hg5
        have hbx : Below w1.heap.size w1 (w1.alloc (Obj.cells #[.slice (some ⟨gh K, 0, none⟩) LL.length ch, .string ⟨CC.toArray⟩] 137)).drew := ((Below.refl _ _).alloc (Nat.le_refl _) _).drew
        have hszx : (w1.alloc (Obj.cells #[.slice (some ⟨gh K, 0, none⟩) LL.length ch, .string ⟨CC.toArray⟩] 137)).drew.heap.size = w1.heap.size + 1 := by simp
        have hblk : Blk w5 w1.heap.size #[.slice (some ⟨gh K, 0, none⟩) LL.length ch, .string ⟨CC.toArray⟩] 137 := ((Blk.new w1 _ 137).drewN 1).keep (hg5.block _ (by rw [hszx]; omega) (by simp))
        have hb5 : Below (w1.alloc (Obj.cells #[.slice (some ⟨gh K, 0, none⟩) LL.length ch, .string ⟨CC.toArray⟩] 137)).drew.heap.size (w1.alloc (Obj.cells #[.slice (some ⟨gh K, 0, none⟩) LL.length ch, .string ⟨CC.toArray⟩] 137)).drew w5 := (Below.refl _ _).grown hg5 (Nat.le_refl _) (fun k hk => by cases hk)
        have hb5' : Below w1.heap.size w1 w5 := hbx.trans (hb5.mono (by rw [hszx]; omega))
        have hmade : Strs w5 (w1.heap.size + 1) (.slice (some ⟨w1.heap.size + 1, 0, none⟩) LL.length LL.length) (List.replicate LL.length []) := by
          unfold Strs
          rw [List.length_replicate, List.map_replicate]
          have e : (madeCells #[Value.string ⟨#[]⟩] LL.length).toList = List.replicate LL.length (pl.strV []) := toList_madeCells_one _ _
          rw [e] at hown5
          simpa using hown5
        have hsrc := RdS.of_strs ((HSH.out.below (HB2.out)).below hb5')
        have hpos : 0 < LL.length := by
          rcases Nat.eq_zero_or_pos LL.length with h0 | h0
          · exact absurd (List.eq_nil_of_length_eq_zero h0) HN.out
          · exact h0
        have b0 : w5.cell? ⟨w1.heap.size, 0, none⟩ = some (.slice (some ⟨gh K, 0, none⟩) LL.length ch) := hblk.cell 0
        have HREP : Hid ((List.replicate LL.length ([] : List UInt8)).length = LL.length) := Lib.hid (by simp)
        have HMADE := Lib.hid hmade
        have HSRC := Lib.hid hsrc
        have HB5 := Lib.hid hb5'
        have HBLK := Lib.hid hblk
        clear hmade hsrc hb5 hb5' hown5 hg5 hbx hszx hblk
        go_wp2_with (refine copy_strs (l := LL) (l0 := List.replicate LL.length []) rfl (.tmp 39) (.tmp 41) rfl rfl rfl (w1.heap.size + 1) HMADE.out HREP.out hpos HSRC.out ?_)
        intro w6 hs6 hb6
        have hbl6 := hb6 (w1.heap.size + 1) w5 (Below.refl _ _) (Nat.le_refl _)
        have b1 : w6.cell? ⟨w1.heap.size, 1, none⟩ = some (.string ⟨CC.toArray⟩) := (HBLK.out.below hbl6 (Nat.lt_succ_self _)).cell 1
        have HS6 := Lib.hid hs6
        have HB6 := Lib.hid (hb6 w.heap.size w (HB2.out.trans (HB5.out.mono HB2.out.size)) (Nat.le_trans HB2.out.size (Nat.le_succ _)))
        clear hs6 hb6 hbl6
        go_wp2_with fail
        go_quiet (fail)
        go_wp2_with fail
        go_ret2
        exact ⟨_, rfl, Lib.hid ((HS6.out.below (below_drewN (Below.refl _ _) _)).mono (Nat.le_trans HB2.out.size (Nat.le_succ _))), Lib.hid (below_drewN HB6.out _)⟩
    · have HAB := HABL
      obtain ⟨fh, fi, gh, gi, hTb⟩ := HT.out
      have c0 : w.cell? ⟨gt, 0, none⟩ = some (.map (some bh)) := HK.out.cell 0
      obtain ⟨ch, hfh, hsh⟩ := hTb.ph.yes K (by rw [HLL.out]; exact HN.out)
      unfold wrapH at hfh
      rw [HLL.out, HCC.out] at hfh
      rw [HLL.out] at hsh
      obtain ⟨es, clock, hes, hs0⟩ := hTb.mh.size_ne _ _ hfh
      have HSH := Lib.hid hsh
      clear hsh
      have hlen := run_len_map (P := Tryd.prog) (w := w) 133 3 bh es clock (by kernel_rfl) hes
      have HTB := Lib.hid hTb
      have HFH := Lib.hid hfh
      clear hes hTb hfh
      go_enter Tryd.func66, Tryd.ntmps66
      go_wp2_with (first
          | (go_at_call 87; refine (HUP.out _).mono ?_; rintro e w1 ⟨rfl, hb1⟩; rw [HU.out]; have HB1 := Lib.hid hb1; obtain ⟨Wc, cap, hconv, hrow, hbc, hszc⟩ := conv_to Q w1; have hlab := lab_sp w1.heap.size cap Q Wc (by have := HQS.out; omega) hrow; have HLAB := Lib.hid hlab; have HBC := Lib.hid hbc; clear hb1 hlab hbc hszc hrow)
          | (go_at_call 86; refine HLAB.out.mono ?_; rintro e w2 ⟨rfl, hR5, hb5⟩; rw [HQD.out] at hR5; have hbk := conv_from w2 w1.heap.size cap Q.size (pl.low nm) (by rw [pl.low_len, ← HQD.out]; simp) hR5; have hbx : Below w.heap.size w w2 := HB1.out.trans ((HBC.out.trans hb5).mono HB1.out.size); have HB2 := Lib.hid hbx; have hK2 := HK.out.below hbx HK.out.lt; have c20 : w2.cell? ⟨gt, 0, none⟩ = some (.map (some bh)) := hK2.cell 0; have c21 : ∀ o, (w2.alloc o).cell? ⟨gt, 0, none⟩ = some (.map (some bh)) := fun o => (hK2.alloc o).cell 0; have hM2 := HTB.out.mh.below hbx HTB.out.mh.lt; have lk1 := MapF.look (w := w2.drew) (f := fh) (hM2.keep rfl) (t := 133) (e := 137) Tryd.underlying9 Tryd.underlying133 (zero_bn _) ⟨K.toArray⟩ HKS.out true _ HFH.out; have lk2 := MapF.look (w := (w2.alloc (Obj.cells #[.slice none 0 0, .string ⟨#[]⟩] 137)).drew) (f := fh) (hM2.below ((Below.refl w2.heap.size _).alloc (Nat.le_refl _) _).drew hM2.lt) (t := 133) (e := 137) Tryd.underlying9 Tryd.underlying133 (zero_bn _) ⟨K.toArray⟩ HKS.out true _ HFH.out; simp only [Option.getD, Option.isSome, if_pos] at lk1 lk2; clear hK2 hM2; clear hb5 hR5 hbx))
      go_region_with (go_at_call 85; refine (HAB.out _).mono ?_; rintro e w3 ⟨rfl, rfl⟩)
      all_goals
        go_wp2_with (at_make; refine wpList_make_full _ rfl _ _ 31 rfl (w2.heap.size + 1) 9 i0 (.string ⟨#[]⟩) 1 Tryd.underlying31 hi hz0 hz1 _ _ _ _ LL.length rfl rfl rfl rfl (by rw [hz2]; omega) (by unfold maxLen; omega) (by simp) ?_)
        intro w5 hown5 hg5
        have hbx : Below w2.heap.size w2 (w2.alloc (Obj.cells #[.slice (some ⟨gh K, 0, none⟩) LL.length ch, .string ⟨CC.toArray⟩] 137)).drew := ((Below.refl _ _).alloc (Nat.le_refl _) _).drew
        have hszx : (w2.alloc (Obj.cells #[.slice (some ⟨gh K, 0, none⟩) LL.length ch, .string ⟨CC.toArray⟩] 137)).drew.heap.size = w2.heap.size + 1 := by simp
        have hblk : Blk w5 w2.heap.size #[.slice (some ⟨gh K, 0, none⟩) LL.length ch, .string ⟨CC.toArray⟩] 137 := ((Blk.new w2 _ 137).drewN 1).keep (hg5.block _ (by rw [hszx]; omega) (by simp))
        have hb5 : Below (w2.alloc (Obj.cells #[.slice (some ⟨gh K, 0, none⟩) LL.length ch, .string ⟨CC.toArray⟩] 137)).drew.heap.size (w2.alloc (Obj.cells #[.slice (some ⟨gh K, 0, none⟩) LL.length ch, .string ⟨CC.toArray⟩] 137)).drew w5 := (Below.refl _ _).grown hg5 (Nat.le_refl _) (fun k hk => by cases hk)
        have hb5' : Below w2.heap.size w2 w5 := hbx.trans (hb5.mono (by rw [hszx]; omega))
        have hmade : Strs w5 (w2.heap.size + 1) (.slice (some ⟨w2.heap.size + 1, 0, none⟩) LL.length LL.length) (List.replicate LL.length []) := by
          unfold Strs
          rw [List.length_replicate, List.map_replicate]
          have e : (madeCells #[Value.string ⟨#[]⟩] LL.length).toList = List.replicate LL.length (pl.strV []) := toList_madeCells_one _ _
          rw [e] at hown5
          simpa using hown5
        have hsrc := RdS.of_strs ((HSH.out.below (HB2.out)).below hb5')
        have hpos : 0 < LL.length := by
          rcases Nat.eq_zero_or_pos LL.length with h0 | h0
          · exact absurd (List.eq_nil_of_length_eq_zero h0) HN.out
          · exact h0
        have b0 : w5.cell? ⟨w2.heap.size, 0, none⟩ = some (.slice (some ⟨gh K, 0, none⟩) LL.length ch) := hblk.cell 0
        have HREP : Hid ((List.replicate LL.length ([] : List UInt8)).length = LL.length) := Lib.hid (by simp)
        have HMADE := Lib.hid hmade
        have HSRC := Lib.hid hsrc
        have HB5 := Lib.hid hb5'
        have HBLK := Lib.hid hblk
        clear hmade hsrc hb5 hb5' hown5 hg5 hbx hszx hblk
        go_wp2_with (refine copy_strs (l := LL) (l0 := List.replicate LL.length []) rfl (.tmp 39) (.tmp 41) rfl rfl rfl (w2.heap.size + 1) HMADE.out HREP.out hpos HSRC.out ?_)
        intro w6 hs6 hb6
        have hbl6 := hb6 (w2.heap.size + 1) w5 (Below.refl _ _) (Nat.le_refl _)
        have b1 : w6.cell? ⟨w2.heap.size, 1, none⟩ = some (.string ⟨CC.toArray⟩) := (HBLK.out.below hbl6 (Nat.lt_succ_self _)).cell 1
        have HS6 := Lib.hid hs6
        have HB6 := Lib.hid (hb6 w.heap.size w (HB2.out.trans (HB5.out.mono HB2.out.size)) (Nat.le_trans HB2.out.size (Nat.le_succ _)))
        clear hs6 hb6 hbl6
        go_wp2_with fail
        go_quiet (fail)
        go_wp2_with fail
        go_ret2
        exact ⟨_, rfl, Lib.hid ((HS6.out.below (below_drewN (Below.refl _ _) _)).mono (Nat.le_trans HB2.out.size (Nat.le_succ _))), Lib.hid (below_drewN HB6.out _)⟩

end Go.Proofs.YtfkohahlpfejbaaDoor
