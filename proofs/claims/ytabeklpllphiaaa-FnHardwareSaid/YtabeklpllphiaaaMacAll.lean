/-
  WALKS: ParseMAC as a whole; the thin package's ParseMAC and MACString.
-/
import Derived.Test.YtabeklpllphiaaaMacBad
import Derived.Test.YtabeklpllphiaaaMacA6
import Derived.Test.YtabeklpllphiaaaMacA8
import Derived.Test.YtabeklpllphiaaaMacA20
import Derived.Test.YtabeklpllphiaaaMacB6
import Derived.Test.YtabeklpllphiaaaMacB8
import Derived.Test.YtabeklpllphiaaaMacB20
import Derived.Test.YtabeklpllphiaaaMacC6
import Derived.Test.YtabeklpllphiaaaMacC8
import Derived.Test.YtabeklpllphiaaaMacC20
namespace Go.Proofs.Ytabeklpllphiaaa
open Go.RowKit

theorem pl.getD_at (s : ByteArray) (k : Nat) (h : k < s.size) : s.data.toList.getD k 0 = s[k] := by
  obtain ⟨d⟩ := s
  obtain ⟨l⟩ := d
  have h' : k < l.length := h
  show l.getD k 0 = l[k]
  rw [List.getD_eq_getElem?_getD, List.getElem?_eq_getElem h']
  rfl

theorem pl.byte_ne (c : UInt8) (n : Nat) (hn : n < 256) (h : c ≠ UInt8.ofNat n) : ((c.toNat : Int) == (n : Int)) = false := by
  rw [beq_eq_false_iff_ne]
  intro e
  apply h
  apply UInt8.toNat_inj.1
  rw [UInt8.toNat_ofNat']
  omega

theorem mac_any (s : ByteArray) (w : World) (hs : s.size ≤ 17592186044416) :
    Calls Try.prog 31 #[.string s] w fun e w' => MacRes w w' e (pl.mac s.data.toList) := by
  have hl : s.data.toList.length = s.size := by simp
  by_cases h12 : s.size < 12
  · have e : pl.mac s.data.toList = none := by unfold pl.mac; rw [if_pos (by omega)]
    rw [e]; exact mac_short s w h12
  · have g2 := pl.getD_at s 2 (by omega)
    have g4 := pl.getD_at s 4 (by omega)
    have e0 : pl.mac s.data.toList = if s[2] = 58 ∨ s[2] = 45 then (if (s.size + 1) % 3 = 0 ∧ pl.ok ((s.size + 1) / 3) = true then pl.g1 s[2] ((s.size + 1) / 3) s.data.toList else none)
        else if s[4] = 46 then (if (s.size + 1) % 5 = 0 ∧ pl.ok (2 * (s.size + 1) / 5) = true then pl.g2 46 ((s.size + 1) / 5) s.data.toList else none)
        else (if s.size % 2 = 0 ∧ pl.ok (s.size / 2) = true then pl.g3 (s.size / 2) s.data.toList else none) := by
      unfold pl.mac; rw [if_neg (by omega), g2, g4, hl]
    rw [e0]
    clear e0 g2 g4
    by_cases hc : s[2] = 58 ∨ s[2] = 45
    · rw [if_pos hc]
      have hcc : (s[2].toNat : Int) = 58 ∨ (s[2].toNat : Int) = 45 := by
        rcases hc with h | h
        · left; rw [h]; rfl
        · right; rw [h]; rfl
      by_cases hm : (s.size + 1) % 3 = 0 ∧ pl.ok ((s.size + 1) / 3) = true
      · rw [if_pos hm]
        rcases pl.ok_cases ((s.size + 1) / 3) with ⟨_, h | h | h⟩ | ⟨h, _⟩
        · rw [h]; exact mac_a6 s _ w (by omega) rfl hcc
        · rw [h]; exact mac_a8 s _ w (by omega) rfl hcc
        · rw [h]; exact mac_a20 s _ w (by omega) rfl hcc
        · rw [h] at hm; exact absurd hm.2 (by simp)
      · rw [if_neg hm]; exact mac_bad1 s _ w (by omega) hs rfl hcc hm
    · rw [if_neg hc]
      have hc58 := pl.byte_ne s[2] 58 (by omega) (fun h => hc (Or.inl h))
      have hc45 := pl.byte_ne s[2] 45 (by omega) (fun h => hc (Or.inr h))
      by_cases hd : s[4] = 46
      · rw [if_pos hd]
        have hd46 : (s[4].toNat : Int) = 46 := by rw [hd]; rfl
        by_cases hm : (s.size + 1) % 5 = 0 ∧ pl.ok (2 * (s.size + 1) / 5) = true
        · rw [if_pos hm]
          rcases pl.ok_cases (2 * (s.size + 1) / 5) with ⟨_, h | h | h⟩ | ⟨h, _⟩
          · rw [show (s.size + 1) / 5 = 3 by omega, ← hd]; exact mac_b6 s _ _ w (by omega) rfl hc58 hc45 rfl hd46
          · rw [show (s.size + 1) / 5 = 4 by omega, ← hd]; exact mac_b8 s _ _ w (by omega) rfl hc58 hc45 rfl hd46
          · rw [show (s.size + 1) / 5 = 10 by omega, ← hd]; exact mac_b20 s _ _ w (by omega) rfl hc58 hc45 rfl hd46
          · rw [h] at hm; exact absurd hm.2 (by simp)
        · rw [if_neg hm]; exact mac_bad2 s _ _ w (by omega) hs rfl hc58 hc45 rfl hd46 hm
      · rw [if_neg hd]
        have hd46 := pl.byte_ne s[4] 46 (by omega) hd
        by_cases hm : s.size % 2 = 0 ∧ pl.ok (s.size / 2) = true
        · rw [if_pos hm]
          rcases pl.ok_cases (s.size / 2) with ⟨_, h | h | h⟩ | ⟨h, _⟩
          · rw [h]; exact mac_c6 s _ _ w (by omega) rfl hc58 hc45 rfl hd46
          · rw [h]; exact mac_c8 s _ _ w (by omega) rfl hc58 hc45 rfl hd46
          · rw [h]; exact mac_c20 s _ _ w (by omega) rfl hc58 hc45 rfl hd46
          · rw [h] at hm; exact absurd hm.2 (by simp)
        · rw [if_neg hm]; exact mac_bad3 s _ _ w (by omega) hs rfl hc58 hc45 rfl hd46 hm

theorem Byts.drewN {w : World} {B : Nat} {v : Value} {l : List UInt8} (h : Byts w B v l) (n : Nat) : Byts (w.drewN n) B v l := h

/-- the thin package's ParseMAC -/
def MacPub (w w' : World) (e : Ending) (r : Option (List UInt8)) : Prop :=
  Below w.heap.size w w' ∧ ∃ v, e = .returned (.tuple #[v, .bool r.isSome]) ∧ Byts w' w.heap.size v (r.getD [])

theorem mac_impl (s : ByteArray) (w : World) (hs : s.size ≤ 17592186044416) :
    Calls Try.prog 16 #[.string s] w fun e w' => MacPub w w' e (pl.mac s.data.toList) := by
  obtain ⟨R, hR⟩ : ∃ R, pl.mac s.data.toList = R := ⟨_, rfl⟩
  have hany : ∀ w, Calls Try.prog 31 #[.string s] w fun e w' => MacRes w w' e R := fun w => by rw [← hR]; exact mac_any s w hs
  rw [hR]
  clear hR
  rcases R with _ | out
  all_goals
    go_enter Try.func16, Try.ntmps16
    go_wp2_with fail
    refine (hany _).mono ?_
  · rintro e w' ⟨hb, t, ad, rfl⟩
    go_wp2_with fail
    go_quiet (fail)
    go_wp2_with fail
    go_ret2
    exact ⟨below_drewN hb _, _, rfl, Byts.nil _ _⟩
  · rintro e w' ⟨hb, v, rfl, hB⟩
    go_wp2_with fail
    go_quiet (fail)
    go_wp2_with fail
    go_ret2
    exact ⟨below_drewN hb _, _, rfl, Byts.drewN hB _⟩

theorem macs_impl (v : Value) (l : List UInt8) (w : World) (hv : Reads w v l) (hl : l.length ≤ 4294967296) :
    Calls Try.prog 17 #[v] w fun e w' => e = .returned (.string ⟨(pl.macT l).toArray⟩) ∧ Below w.heap.size w w' := by
  have hv0 := hv
  obtain ⟨a, cap, rfl, _⟩ := hv
  go_enter Try.func17, Try.ntmps17
  go_wp2_with (go_at_call 32; refine (mac_str _ _ _ hv0 hl).mono ?_; rintro e w' ⟨rfl, hb⟩)
  go_ret
  exact ⟨rfl, hb⟩

end Go.Proofs.Ytabeklpllphiaaa
