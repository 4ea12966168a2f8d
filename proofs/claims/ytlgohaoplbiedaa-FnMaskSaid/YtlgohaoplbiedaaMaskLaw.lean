/-
  WALK: the law FnMask.
-/
import Derived.Test.YtlgohaoplbiedaaMaskL4
import Derived.Test.YtlgohaoplbiedaaMaskL16
namespace Go.Proofs.Ytlgohaoplbiedaa
open Go.RowKit

set_option maxRecDepth 100000 in
set_option maxHeartbeats 1000000 in
theorem walk_FnMask (a0 : Option Addr) (len0 cap0 : Nat) (z0 : List Int) (a1 : Int) (w : World) (w0 : IsRow .u8 w a0 len0 cap0 z0) (_ : (Lit.int .i64 a1).wf = true) :
    Calls Try.prog 14 #[.slice a0 len0 cap0, .int .i64 a1] w fun e w' => e = .returned (.bool true) ∧ Below w.heap.size w w' := by
  obtain ⟨l, hl, hrd⟩ := Reads.of_row w0
  clear w0
  by_cases hbig : len0 ≤ 2147483647
  · by_cases h0 : 0 ≤ a1
    · obtain ⟨n, rfl⟩ : ∃ n : Nat, a1 = n := ⟨a1.toNat, by omega⟩
      by_cases h4 : len0 = 4
      · subst h4
        by_cases hn : n ≤ 32
        · exact mlaw_4 a0 cap0 n l w hrd hl hn
        · have hn' : (32 : Int) < n := by omega
          clear hrd
          go_enter Try.func14, Try.ntmps14
          go_wp2_with (go_at_call 23; refine (works_any _).mono ?_; rintro e w4 ⟨rfl, hb4⟩)
          go_ret
          exact ⟨rfl, hb4⟩
      · by_cases h16 : len0 = 16
        · subst h16
          by_cases hn : n ≤ 128
          · exact mlaw_16 a0 cap0 n l w hrd hl hn
          · have hn' : (128 : Int) < n := by omega
            clear hrd
            go_enter Try.func14, Try.ntmps14
            go_wp2_with (go_at_call 23; refine (works_any _).mono ?_; rintro e w4 ⟨rfl, hb4⟩)
            go_ret
            exact ⟨rfl, hb4⟩
        · have t1 : ((len0 : Int) != 4) = true := by simp; omega
          have t2 : ((len0 : Int) != 16) = true := by simp; omega
          have H4 := Lib.hid h4
          have H16 := Lib.hid h16
          clear hrd h4 h16
          go_enter Try.func14, Try.ntmps14
          go_wp2_with (go_at_call 23; refine (works_any _).mono ?_; rintro e w4 ⟨rfl, hb4⟩)
          go_ret
          exact ⟨rfl, hb4⟩
    · have hneg : a1 < 0 := by omega
      clear hrd
      go_enter Try.func14, Try.ntmps14
      go_wp2_with (go_at_call 23; refine (works_any _).mono ?_; rintro e w4 ⟨rfl, hb4⟩)
      all_goals go_ret
      all_goals exact ⟨rfl, hb4⟩
  · go_enter Try.func14, Try.ntmps14
    go_wp2_with fail
    go_ret
    exact ⟨rfl, Below.refl _ _⟩

end Go.Proofs.Ytlgohaoplbiedaa
