/-
  WALKS: spec.Said, by one answer for all worlds; the easy ways of FnCIDR.
-/
import Derived.Test.YtfkohahlpfejbaaDoorCid6
namespace Go.Proofs.YtfkohahlpfejbaaDoor
open Go.RowKit

set_option maxHeartbeats 2000000 in
theorem said_r (s A B : ByteArray) (f h r : Bool) (w : World) (HC : Hid (∀ W, Calls Tryd.prog 52 #[.string s, .int .u8 47] W fun e w' => e = .returned (.tuple #[.string A, .string B, .bool f]) ∧ ∃ n, w' = W.drewN n))
    (HH : Hid (∀ W, Calls Tryd.prog 35 #[.string s, .string ⟨#[37]⟩] W fun e w' => e = .returned (.bool h) ∧ Hid (Below W.heap.size W w')))
    (hc : (h = true ∧ r = false) ∨ (h = false ∧ (B.size : Int) < 2 ∧ r = true) ∨ (h = false ∧ ¬ ((B.size : Int) < 2) ∧ (∃ h0 : 0 < B.size, ((B[0].toNat : Int) != 48) = false) ∧ r = false) ∨ (h = false ∧ ¬ ((B.size : Int) < 2) ∧ (∃ h0 : 0 < B.size, ((B[0].toNat : Int) != 48) = true) ∧ (B.size : Int) < 7 ∧ r = true) ∨ (h = false ∧ ¬ ((B.size : Int) < 2) ∧ (∃ h0 : 0 < B.size, ((B[0].toNat : Int) != 48) = true) ∧ ¬ ((B.size : Int) < 7) ∧ r = false)) :
    Calls Tryd.prog 25 #[.string s] w fun e w' => e = .returned (.bool r) ∧ Hid (Below w.heap.size w w') := by
  rcases hc with ⟨rfl, rfl⟩ | ⟨rfl, h1, rfl⟩ | ⟨rfl, h1, ⟨h2, h3⟩, rfl⟩ | ⟨rfl, h1, ⟨h2, h3⟩, h4, rfl⟩ | ⟨rfl, h1, ⟨h2, h3⟩, h4, rfl⟩
  · go_enter Tryd.func25, Tryd.ntmps25
    go_wp2_with (first
      | (go_at_call 35; refine (HH.out _).mono ?_; rintro e w2 ⟨rfl, hb2⟩; have HB2 := Lib.hid (bel_d hb2.out); clear hb2)
      | (go_at_call 52; refine (HC.out _).mono ?_; rintro e w1 ⟨rfl, n1, rfl⟩))
    go_ret
    exact ⟨rfl, HB2⟩
  · have h7 : (B.size : Int) < 7 := by omega
    go_enter Tryd.func25, Tryd.ntmps25
    go_wp2_with (first
      | (go_at_call 35; refine (HH.out _).mono ?_; rintro e w2 ⟨rfl, hb2⟩; have HB2 := Lib.hid (bel_d hb2.out); clear hb2)
      | (go_at_call 52; refine (HC.out _).mono ?_; rintro e w1 ⟨rfl, n1, rfl⟩))
    go_ret
    exact ⟨rfl, HB2⟩
  · go_enter Tryd.func25, Tryd.ntmps25
    go_wp2_with (first
      | (go_at_call 35; refine (HH.out _).mono ?_; rintro e w2 ⟨rfl, hb2⟩; have HB2 := Lib.hid (bel_d hb2.out); clear hb2)
      | (go_at_call 52; refine (HC.out _).mono ?_; rintro e w1 ⟨rfl, n1, rfl⟩))
    go_ret
    exact ⟨rfl, HB2⟩
  · go_enter Tryd.func25, Tryd.ntmps25
    go_wp2_with (first
      | (go_at_call 35; refine (HH.out _).mono ?_; rintro e w2 ⟨rfl, hb2⟩; have HB2 := Lib.hid (bel_d hb2.out); clear hb2)
      | (go_at_call 52; refine (HC.out _).mono ?_; rintro e w1 ⟨rfl, n1, rfl⟩))
    go_ret
    exact ⟨rfl, HB2⟩
  · go_enter Tryd.func25, Tryd.ntmps25
    go_wp2_with (first
      | (go_at_call 35; refine (HH.out _).mono ?_; rintro e w2 ⟨rfl, hb2⟩; have HB2 := Lib.hid (bel_d hb2.out); clear hb2)
      | (go_at_call 52; refine (HC.out _).mono ?_; rintro e w1 ⟨rfl, n1, rfl⟩))
    go_ret
    refine ⟨?_, HB2⟩
    simp
    omega

theorem said_det (s : ByteArray) (hs : s.size ≤ 2147483648) : ∃ r, (r = true → (37 : UInt8) ∉ s.data.toList ∧ (pl.cutS s.data.toList 47).2.1.length < 7) ∧ Hid (∀ w, Calls Tryd.prog 25 #[.string s] w fun e w' => e = .returned (.bool r) ∧ Hid (Below w.heap.size w w')) := by
  have hcut := fun W => cut_sp s 47 W (by omega)
  obtain ⟨B, hB⟩ : ∃ B : ByteArray, (⟨(pl.cutS s.data.toList 47).2.1.toArray⟩ : ByteArray) = B := ⟨_, rfl⟩
  have hBs : (pl.cutS s.data.toList 47).2.1.length = B.size := by rw [← hB]; rfl
  rw [hB] at hcut
  rw [hBs]
  obtain ⟨h, hh⟩ : ∃ h, pl.has s.data.toList [37] = h := ⟨_, rfl⟩
  have hn : h = false → (37 : UInt8) ∉ s.data.toList := fun h0 hm => by
    rw [h0] at hh
    have : pl.has s.data.toList [37] = true := by
      unfold pl.has
      rw [List.any_eq_true]
      exact ⟨37, hm, by decide⟩
    rw [this] at hh
    cases hh
  have key := fun r hc w => said_r s _ B _ h r w (Lib.hid hcut) (Lib.hid fun W => has_pc s W hs h hh) hc
  cases h with
  | true => exact ⟨false, fun h => by simp at h, Lib.hid (key false (.inl ⟨rfl, rfl⟩))⟩
  | false =>
    by_cases h1 : (B.size : Int) < 2
    · exact ⟨true, fun _ => ⟨hn rfl, by omega⟩, Lib.hid (key true (.inr (.inl ⟨rfl, h1, rfl⟩)))⟩
    · have h0 : 0 < B.size := by omega
      cases h2 : ((B[0].toNat : Int) != 48) with
      | false => exact ⟨false, fun h => by simp at h, Lib.hid (key false (.inr (.inr (.inl ⟨rfl, h1, ⟨h0, h2⟩, rfl⟩))))⟩
      | true =>
        by_cases h3 : (B.size : Int) < 7
        · exact ⟨true, fun _ => ⟨hn rfl, by omega⟩, Lib.hid (key true (.inr (.inr (.inr (.inl ⟨rfl, h1, ⟨h0, h2⟩, h3, rfl⟩)))))⟩
        · exact ⟨false, fun h => by simp at h, Lib.hid (key false (.inr (.inr (.inr (.inr ⟨rfl, h1, ⟨h0, h2⟩, h3, rfl⟩)))))⟩

set_option maxRecDepth 100000 in
set_option maxHeartbeats 2000000 in
theorem cidl_un (s : ByteArray) (w : World) (hs : ¬ (2147483647 < (s.size : Int)))
    (HSD : Hid (∀ W, Calls Tryd.prog 25 #[.string s] W fun e w' => e = .returned (.bool false) ∧ Hid (Below W.heap.size W w'))) :
    Calls Tryd.prog 7 #[.string s] w fun e w' => e = .returned (.bool true) ∧ Below w.heap.size w w' := by
  have HWK := Lib.hid works_any
  go_enter Tryd.func7, Tryd.ntmps7
  go_wp2_with (first
    | (go_at_call 16; refine (HWK.out _).mono ?_; rintro e w2 ⟨rfl, hb2⟩)
    | (go_at_call 25; refine (HSD.out _).mono ?_; rintro e w1 ⟨rfl, HB1⟩))
  go_ret
  exact ⟨rfl, HB1.out.trans (hb2.mono HB1.out.size)⟩

set_option maxRecDepth 100000 in
set_option maxHeartbeats 2000000 in
theorem cidl_no (s : ByteArray) (w : World) (hs : ¬ (2147483647 < (s.size : Int)))
    (HSD : Hid (∀ W, Calls Tryd.prog 25 #[.string s] W fun e w' => e = .returned (.bool true) ∧ Hid (Below W.heap.size W w')))
    (HSP : Hid (∀ W, Calls Tryd.prog 26 #[.string s] W fun e w' => (∃ a n c k, e = .returned (.tuple #[.slice a n c, .int .i64 k, .bool false])) ∧ Hid (Below W.heap.size W w')))
    (HIM : Hid (∀ W, Below w.heap.size w W → Calls Tryd.prog 27 #[.string s] W fun e w' => e = .returned (.tuple #[.slice none 0 0, .slice none 0 0, .slice none 0 0, .bool false]) ∧ Hid (Below W.heap.size W w'))) :
    Calls Tryd.prog 7 #[.string s] w fun e w' => e = .returned (.bool true) ∧ Below w.heap.size w w' := by
  have HWK := Lib.hid works_any
  go_enter Tryd.func7, Tryd.ntmps7
  go_wp2_with (first
    | (go_at_call 16; refine (HWK.out _).mono ?_; rintro e w4 ⟨rfl, hb4⟩; have HB4 := Lib.hid (HB3.out.trans (hb4.mono HB3.out.size)); clear hb4)
    | (go_at_call 27; refine (HIM.out _ HB2.out).mono ?_; rintro e w3 ⟨rfl, hb3⟩; have HB3 := Lib.hid (HB2.out.trans (hb3.out.mono HB2.out.size)); clear hb3)
    | (go_at_call 26; refine (HSP.out _).mono ?_; rintro e w2 ⟨⟨a, n, c, k, rfl⟩, hb2⟩; have HB2 := Lib.hid (HB1.out.trans (hb2.out.mono HB1.out.size)); clear hb2)
    | (go_at_call 25; refine (HSD.out _).mono ?_; rintro e w1 ⟨rfl, HB1⟩))
  go_ret
  exact ⟨rfl, HB4.out⟩

end Go.Proofs.YtfkohahlpfejbaaDoor
