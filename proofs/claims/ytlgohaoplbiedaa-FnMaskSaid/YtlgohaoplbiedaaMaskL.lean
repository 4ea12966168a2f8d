/-
  WALKS: the thin package's masks.
-/
import Derived.Test.YtlgohaoplbiedaaIpMask
import Derived.Test.YtlgohaoplbiedaaMask
import Derived.Test.YtlgohaoplbiedaaMaskSp
import Derived.Test.YtlgohaoplbiedaaHost2
import Derived.Deep.RegionWith
namespace Go.Proofs.Ytlgohaoplbiedaa
open Go.RowKit

theorem bel_d1 {w w' : World} (h : Below w.drew.heap.size w.drew w') : Below w.heap.size w w' := (below_drewN (Below.refl _ _) 1).trans (h.mono (by simp))

set_option maxRecDepth 100000 in
theorem cmi_4 (ones : Nat) (w : World) (ho : ones ≤ 32) :
    Calls Try.prog 34 #[.int .i64 (ones : Int), .int .i64 32] w fun e w' => ∃ v, e = .returned v ∧ Byts w' w.heap.size v (pl.mask ones 4) ∧ Below w.heap.size w w' := by
  go_enter Try.func34, Try.ntmps34
  go_wp2_with fail
  refine (cm_4 ones w ho).mono ?_
  rintro e w1 ⟨v, rfl, hY, hb⟩
  go_wp2_with fail
  go_ret
  exact ⟨_, rfl, hY, hb⟩

set_option maxRecDepth 100000 in
theorem ipi_4 (vb vm : Value) (b m : List UInt8) (w : World) (hb : Reads w vb b) (hm : Reads w vm m) (hL : b.length = 4) (hl : m.length = 4) :
    Calls Try.prog 36 #[vb, vm] w fun e w' => ∃ v, e = .returned v ∧ Byts w' w.heap.size v (pl.and b m) ∧ Below w.heap.size w w' := by
  have H := ipm_4 vb vm b m w hb hm hL hl
  have HH := Lib.hid H
  clear H hb hm
  go_enter Try.func36, Try.ntmps36
  go_wp2_with fail
  refine (HH.out).mono ?_
  rintro e w1 ⟨v, rfl, hY, hb⟩
  go_wp2_with fail
  go_ret
  exact ⟨_, rfl, hY, hb⟩

set_option maxRecDepth 100000 in
theorem cmi_16 (ones : Nat) (w : World) (ho : ones ≤ 128) :
    Calls Try.prog 34 #[.int .i64 (ones : Int), .int .i64 128] w fun e w' => ∃ v, e = .returned v ∧ Byts w' w.heap.size v (pl.mask ones 16) ∧ Below w.heap.size w w' := by
  go_enter Try.func34, Try.ntmps34
  go_wp2_with fail
  refine (cm_16 ones w ho).mono ?_
  rintro e w1 ⟨v, rfl, hY, hb⟩
  go_wp2_with fail
  go_ret
  exact ⟨_, rfl, hY, hb⟩

set_option maxRecDepth 100000 in
theorem ipi_16 (vb vm : Value) (b m : List UInt8) (w : World) (hb : Reads w vb b) (hm : Reads w vm m) (hL : b.length = 16) (hl : m.length = 16) :
    Calls Try.prog 36 #[vb, vm] w fun e w' => ∃ v, e = .returned v ∧ Byts w' w.heap.size v (pl.and b m) ∧ Below w.heap.size w w' := by
  have H := ipm_16 vb vm b m w hb hm hL hl
  have HH := Lib.hid H
  clear H hb hm
  go_enter Try.func36, Try.ntmps36
  go_wp2_with fail
  refine (HH.out).mono ?_
  rintro e w1 ⟨v, rfl, hY, hb⟩
  go_wp2_with fail
  go_ret
  exact ⟨_, rfl, hY, hb⟩

end Go.Proofs.Ytlgohaoplbiedaa
