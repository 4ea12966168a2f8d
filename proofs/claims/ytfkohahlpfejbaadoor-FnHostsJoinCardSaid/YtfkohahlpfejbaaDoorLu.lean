/-
  CONTRACTS: LookupAddr, LookupHost.
-/
import Derived.Test.YtfkohahlpfejbaaDoorRh2
import Derived.Test.YtfkohahlpfejbaaDoorLookH
namespace Go.Proofs.YtfkohahlpfejbaaDoor
open Go.RowKit

/-- what LookupHost returns -/
def pl.canon (H : HSt) (K : Key) : Key := if (H K).1 = [] then [] else (H K).2

theorem pl.byAddr_le (l : HostL) (t : Key) (h : ∀ x ∈ l, x.2.length ≤ 20) : (pl.byAddr l t).length ≤ l.length * 20 := by
  unfold pl.byAddr
  refine pl.flat_len _ _ 20 fun x hx => ?_
  split
  · rw [List.length_map]; exact h x hx
  · simp

set_option maxRecDepth 100000 in
set_option maxHeartbeats 2000000 in
theorem la_sp (g4 o4 g6 o6 : Nat) (its : List Item) (ad : List UInt8) (w : World) (hok : ∀ it ∈ its, ItemOk it) (hlen : its.length ≤ 1000) (htl : (pl.itext its).length ≤ 17592186044416) (hI : IpVars w g4 o4 g6 o6)
    (h37 : (37 : UInt8) ∉ ad) (hle : (pl.lit ad).isEmpty = false) (hal : ad.length ≤ 2147483647) :
    Calls Tryd.prog 46 #[.string ⟨(pl.itext its).toArray⟩, .string ⟨ad.toArray⟩] w fun e w' => ∃ v, e = .returned v ∧ Hid (Strs w' w.heap.size v (pl.byAddr (pl.ihosts its) (pl.lit ad))) ∧ Hid (Below w.heap.size w w') := by
  obtain ⟨W1, hW1⟩ : ∃ W1, w.alloc (Obj.cells #[.string ⟨(pl.itext its).toArray⟩] 105) = W1 := ⟨_, rfl⟩
  have hb1 : Below w.heap.size w W1 := by rw [← hW1]; exact (Below.refl _ _).alloc (Nat.le_refl _) _
  have hfile : Blk W1 w.heap.size #[.string ⟨(pl.itext its).toArray⟩] 105 := by rw [← hW1]; exact Blk.new w _ _
  have hrh := rh_sp g4 o4 g6 o6 its w W1 hok hlen htl hI hb1 hfile
  have hl : (pl.byAddr (pl.ihosts its) (pl.lit ad)).length ≤ 1000000 := by
    have h1 := pl.byAddr_le (pl.ihosts its) (pl.lit ad) (pl.ihosts_20 its hok)
    have h2 := pl.ihosts_len its
    omega
  obtain ⟨T, hT⟩ : ∃ T : ByteArray, (⟨(pl.itext its).toArray⟩ : ByteArray) = T := ⟨_, rfl⟩
  rw [hT] at hW1 ⊢
  obtain ⟨H, hH⟩ : ∃ H, pl.addrsOf (pl.ihosts its) = H := ⟨_, rfl⟩
  obtain ⟨I, hII⟩ : ∃ I, pl.byAddr (pl.ihosts its) = I := ⟨_, rfl⟩
  unfold RhRes at hrh
  rw [hH, hII] at hrh
  rw [hII] at hl ⊢
  have HRH := Lib.hid hrh
  have HI := Lib.hid hI
  have HL := Lib.hid hl
  have H37 := Lib.hid h37
  have HLE := Lib.hid hle
  have HAL := Lib.hid hal
  clear hrh hI hl h37 hle hal hfile hok hT hH hII htl
  go_enter Tryd.func46, Tryd.ntmps46
  go_wp2_with (first
    | (go_at_call 64; refine HRH.out.mono ?_; rintro e w2 ⟨gt, bh, bi, n, rfl, HK, HT, HB⟩)
    | (go_at_call 65; have hx0 := HB; refine (lsa_sp g4 o4 g6 o6 w2 gt bh bi n _ H I _ ad HT.out HK.out (HI.out.below HB.out (Nat.le_refl _)) H37.out HLE.out HAL.out HL.out).mono ?_; rintro e w3 ⟨v, rfl, HS, HB3⟩))
  go_ret
  exact ⟨_, rfl, Lib.hid (HS.out.mono HB.out.size), Lib.hid (HB.out.trans (HB3.out.mono HB.out.size))⟩

set_option maxRecDepth 100000 in
set_option maxHeartbeats 2000000 in
theorem lh_sp (g4 o4 g6 o6 : Nat) (its : List Item) (nm : List UInt8) (w : World) (hok : ∀ it ∈ its, ItemOk it) (hlen : its.length ≤ 1000) (htl : (pl.itext its).length ≤ 17592186044416) (hI : IpVars w g4 o4 g6 o6)
    (hasc : ∀ b ∈ nm, b.toNat < 128) (hnl : nm.length ≤ 2147483647) :
    Calls Tryd.prog 49 #[.string ⟨(pl.itext its).toArray⟩, .string ⟨nm.toArray⟩] w fun e w' => ∃ v, e = .returned (.tuple #[v, .string ⟨(pl.canon (pl.addrsOf (pl.ihosts its)) (pl.absN (pl.low nm))).toArray⟩]) ∧ Hid (Strs w' w.heap.size v (pl.addrsOf (pl.ihosts its) (pl.absN (pl.low nm))).1) ∧ Hid (Below w.heap.size w w') := by
  obtain ⟨W1, hW1⟩ : ∃ W1, w.alloc (Obj.cells #[.string ⟨(pl.itext its).toArray⟩] 105) = W1 := ⟨_, rfl⟩
  have hb1 : Below w.heap.size w W1 := by rw [← hW1]; exact (Below.refl _ _).alloc (Nat.le_refl _) _
  have hfile : Blk W1 w.heap.size #[.string ⟨(pl.itext its).toArray⟩] 105 := by rw [← hW1]; exact Blk.new w _ _
  have hrh := rh_sp g4 o4 g6 o6 its w W1 hok hlen htl hI hb1 hfile
  have hl : (pl.addrsOf (pl.ihosts its) (pl.absN (pl.low nm))).1.length ≤ 1000000 := by
    have h1 := pl.addrsOf_len (pl.absN (pl.low nm)) 20 (pl.ihosts its) (pl.ihosts_20 its hok)
    have h2 := pl.ihosts_len its
    omega
  obtain ⟨T, hT⟩ : ∃ T : ByteArray, (⟨(pl.itext its).toArray⟩ : ByteArray) = T := ⟨_, rfl⟩
  rw [hT] at hW1 ⊢
  obtain ⟨H, hH⟩ : ∃ H, pl.addrsOf (pl.ihosts its) = H := ⟨_, rfl⟩
  obtain ⟨I, hII⟩ : ∃ I, pl.byAddr (pl.ihosts its) = I := ⟨_, rfl⟩
  unfold RhRes at hrh
  rw [hH, hII] at hrh
  rw [hH] at hl ⊢
  obtain ⟨CN, hCN⟩ : ∃ CN, pl.canon H (pl.absN (pl.low nm)) = CN := ⟨_, rfl⟩
  rw [hCN]
  unfold pl.canon at hCN
  have HCN := Lib.hid hCN
  clear hCN
  have HRH := Lib.hid hrh
  have HL := Lib.hid hl
  have HAS := Lib.hid hasc
  have HNL := Lib.hid hnl
  clear hrh hI hl hasc hnl hfile hok hT hH hII htl
  go_enter Tryd.func49, Tryd.ntmps49
  go_wp2_with (first
    | (go_at_call 64; refine HRH.out.mono ?_; rintro e w2 ⟨gt, bh, bi, n, rfl, HK, HT, HB⟩)
    | (go_at_call 66; have hx0 := HB; refine (lsh_sp w2 gt bh bi n _ H I _ nm HT.out HK.out HAS.out HNL.out HL.out).mono ?_; rintro e w3 ⟨v, he, HS, HB3⟩; rw [HCN.out] at he; subst he))
  go_ret2
  exact ⟨_, rfl, Lib.hid (HS.out.mono HB.out.size), Lib.hid (HB.out.trans (HB3.out.mono HB.out.size))⟩

end Go.Proofs.YtfkohahlpfejbaaDoor
