/-
  WALKS: parsePort; the law FnPort.
-/
import Derived.Test.YtlgohaoplbiedaaNumLaws
import Derived.Laws.RangeAny
namespace Go.Proofs.Ytlgohaoplbiedaa
open Go.RowKit

/-- what parsePort returns: the number, with its sign, or that it is none -/
def PortRes (neg : Bool) (l : List UInt8) (e : Ending) : Prop :=
  match pl.decimal l with
  | some v => e = .returned (.tuple #[.int .i64 (if neg then -(v : Int) else (v : Int)), .bool false])
  | none => e = .returned (.tuple #[.int .i64 0, .bool true])

set_option maxRecDepth 100000 in
set_option maxHeartbeats 2000000 in
theorem port_any (s D : ByteArray) (neg : Bool) (w : World) (hs : 1 ≤ s.size) (hD1 : 1 ≤ D.size) (hD9 : D.size ≤ 9)
    (hc : (neg = false ∧ ((s[0].toNat : Int) == 43) = true ∧ s.extract 1 s.size = D) ∨ (neg = true ∧ ((s[0].toNat : Int) == 43) = false ∧ ((s[0].toNat : Int) == 45) = true ∧ s.extract 1 s.size = D) ∨
      (neg = false ∧ ((s[0].toNat : Int) == 43) = false ∧ ((s[0].toNat : Int) == 45) = false ∧ D = s)) :
    Calls Try.prog 62 #[.string s] w fun e w' => PortRes neg D.data.toList e ∧ Below w.heap.size w w' := by
  have hl : D.data.toList.length = D.size := by simp
  have hne := pl.ne_empty s (by omega)
  have hl9 : s.size ≤ 10 := by
    rcases hc with ⟨_, _, h⟩ | ⟨_, _, _, h⟩ | ⟨_, _, _, h⟩
    · have := congrArg ByteArray.size h; simp at this; omega
    · have := congrArg ByteArray.size h; simp at this; omega
    · rw [← h]; omega
  rcases hc with ⟨rfl, h1, hDe⟩ | ⟨rfl, h1, h2, hDe⟩ | ⟨rfl, h1, h2, rfl⟩
  all_goals
    go_enter Try.func62, Try.ntmps62
    go_wp2_with fail
  all_goals
    go_loopw [5] (fun n wr => ∃ (pos : Nat) (m : Int), wr = w.iter D pos ∧ pos ≤ D.size ∧ n = .int .u32 m ∧ 0 ≤ m ∧ m ≤ 999999999 ∧ Hid (pos ≤ 8 → m ≤ 99999999) ∧ Hid ((D.data.toList.take pos).all pl.dg = true) ∧ Hid (m = pl.decV 0 (D.data.toList.take pos))) (fun _ wr => D.size - wr.iterPos w.heap.size)
    case atStart => exact ⟨0, 0, rfl, Nat.zero_le _, rfl, by omega, by omega, Lib.hid (by omega), Lib.hid rfl, Lib.hid rfl⟩
    case round =>
      obtain ⟨pos, m, rfl, hp, rfl, hm0, hm, HM8, HA, HM⟩ := hrel
      by_cases hlt : pos < D.size
      · have hm9 : m ≤ 99999999 := HM8.out (by omega)
        obtain ⟨x, hx⟩ : ∃ x, D[pos] = x := ⟨_, rfl⟩
        have hby := UInt8.toNat_lt x
        by_cases ha : x.toNat < 128
        · have hnx : ∀ ty, (Instr.next (.pointer (some ⟨w.heap.size, 0, none⟩)) true ty).run Try.prog (w.iter D pos) = .ok (.tuple #[.bool true, .int .i64 pos, .int .i32 x.toNat]) (w.iter D (pos + 1)) := fun ty => by
            rw [← hx]; exact run_next_ascii w D pos ty hlt (by rw [hx]; exact ha)
          have HX := Lib.hid hx
          clear hx
          rcases hd : pl.dg x with _ | _
          · have hno : pl.decimal D.data.toList = none := pl.dg_not D pos hlt (by rw [HX.out]; exact hd)
            have HNO := Lib.hid hno
            have hnd : ¬ (48 ≤ (x.toNat : Int) ∧ (x.toNat : Int) ≤ 57) := fun h => by rw [(pl.dg_int x).2 h] at hd; cases hd
            clear hno hd
            rcases (show ¬ 48 ≤ (x.toNat : Int) ∨ (48 ≤ (x.toNat : Int) ∧ ¬ (x.toNat : Int) ≤ 57) by omega) with h | ⟨h, h'⟩
            all_goals
              clear hnd
              go_wp2
              go_ret2
              exact ⟨by unfold PortRes; rw [HNO.out]; rfl, (Below.refl _ _).alloc (Nat.le_refl _) _⟩
          · obtain ⟨h3, h4⟩ := (pl.dg_int x).1 hd
            have HD := Lib.hid (pl.all_dg_succ D pos hlt HA.out (by rw [HX.out]; exact hd))
            have hv := pl.decV_bound _ HD.out (by rw [List.length_take]; omega)
            have he : pl.decV 0 (D.data.toList.take (pos + 1)) = (m.toNat * 10 + (x.toNat - 48)) := by rw [pl.take_succ D pos hlt, pl.decV_snoc, HX.out]; have := HM.out; omega
            have hv8 : pos + 1 ≤ 8 → m * 10 + ((x.toNat : Int) - 48) ≤ 99999999 := by
              intro h8
              have h9 := pl.decV_lt _ HD.out
              rw [he] at h9
              have h10 : (10 : Nat) ^ (D.data.toList.take (pos + 1)).length ≤ 10 ^ 8 := Nat.pow_le_pow_right (by omega) (by rw [List.length_take]; omega)
              have h11 : (10 : Nat) ^ 8 = 100000000 := by decide
              omega
            rw [he] at hv
            have HE := Lib.hid (show m * 10 + ((x.toNat : Int) - 48) = (pl.decV 0 (D.data.toList.take (pos + 1)) : Nat) by rw [he]; omega)
            have HV8 := Lib.hid hv8
            have hv2 : m * 10 + ((x.toNat : Int) - 48) ≤ 999999999 := by omega
            have HV := Lib.hid hv2
            clear hd he hv8 hv hv2
            go_wp2
            go_roundw
            case rel => exact ⟨pos + 1, m * 10 + ((x.toNat : Int) - 48), rfl, by omega, by first | rfl | go_num, by omega, HV.out, HV8, HD, HE⟩
            case measure => simp; omega
        · have hdh := decode_high D pos hlt (by rw [hx]; omega)
          have hnx : ∀ ty, (Instr.next (.pointer (some ⟨w.heap.size, 0, none⟩)) true ty).run Try.prog (w.iter D pos) = _ := fun ty => run_next_any w D pos ty hlt
          have hno : pl.decimal D.data.toList = none := pl.dg_not D pos hlt (by rw [hx]; unfold pl.dg; rw [decide_eq_false (p := x.toNat ≤ 57) (by omega)]; simp)
          have HNO := Lib.hid hno
          obtain ⟨r, hr⟩ : ∃ r, (Utf8.decode D pos).1 = r := ⟨_, rfl⟩
          obtain ⟨q, hq⟩ : ∃ q, (Utf8.decode D pos).2 = q := ⟨_, rfl⟩
          rw [hr, hq] at hnx
          rw [hr] at hdh
          have h3 : 48 ≤ (r : Int) := by omega
          have h4 : ¬ (r : Int) ≤ 57 := by omega
          clear hno hx hr hq hdh
          go_wp2
          go_ret2
          exact ⟨by unfold PortRes; rw [HNO.out]; rfl, (Below.refl _ _).alloc (Nat.le_refl _) _⟩
      · have hnx : ∀ ty, (Instr.next (.pointer (some ⟨w.heap.size, 0, none⟩)) true ty).run Try.prog (w.iter D pos) = _ := fun ty => run_next_end w D pos ty hlt
        rw [pl.take_all D pos (by omega)] at HA HM
        have hv : pl.decimal D.data.toList = some (pl.decV 0 D.data.toList) := by unfold pl.decimal; rw [if_pos ⟨HA.out, by omega, by omega⟩]
        have HV := Lib.hid hv
        clear hv
        go_wp2
        go_ret2
        exact ⟨by unfold PortRes; rw [HV.out]; exact ret_ib (by rw [HM.out]; rfl) rfl, (Below.refl _ _).alloc (Nat.le_refl _) _⟩

theorem port_impl (s D : ByteArray) (neg : Bool) (w : World) (hs : 1 ≤ s.size) (hD1 : 1 ≤ D.size) (hD9 : D.size ≤ 9)
    (hc : (neg = false ∧ ((s[0].toNat : Int) == 43) = true ∧ s.extract 1 s.size = D) ∨ (neg = true ∧ ((s[0].toNat : Int) == 43) = false ∧ ((s[0].toNat : Int) == 45) = true ∧ s.extract 1 s.size = D) ∨
      (neg = false ∧ ((s[0].toNat : Int) == 43) = false ∧ ((s[0].toNat : Int) == 45) = false ∧ D = s)) (v : Int) (b : Bool)
    (hv : (∃ x : Nat, pl.decimal D.data.toList = some x ∧ v = (if neg then -(x : Int) else (x : Int)) ∧ b = false) ∨ (pl.decimal D.data.toList = none ∧ v = 0 ∧ b = true)) :
    Calls Try.prog 33 #[.string s] w fun e w' => e = .returned (.tuple #[.int .i64 v, .bool b]) ∧ Below w.heap.size w w' := by
  have HC := Lib.hid hc
  clear hc
  have H : Calls Try.prog 62 #[.string s] w fun e w' => e = .returned (.tuple #[.int .i64 v, .bool b]) ∧ Below w.heap.size w w' := by
    refine (port_any s D neg w hs hD1 hD9 HC.out).mono fun e w' ⟨hp, hb⟩ => ⟨?_, hb⟩
    unfold PortRes at hp
    rcases hv with ⟨x, h1, h2, h3⟩ | ⟨h1, h2, h3⟩
    · rw [h1] at hp; rw [hp, h2, h3]
    · rw [h1] at hp; rw [hp, h2, h3]
  have H2 := Lib.hid H
  clear H hv
  go_enter Try.func33, Try.ntmps33
  go_wp2_with (first | (go_at_call 62; refine (Calls.mono H2.out) ?_; rintro e w' ⟨rfl, hb⟩) | (go_at_call 49; go_in))
  go_ret2
  exact ⟨rfl, hb⟩

end Go.Proofs.Ytlgohaoplbiedaa
