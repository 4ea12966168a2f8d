/-
  WALKS: impl.ParseCIDR, spec.Said, spec.CIDR, spec.Long.
-/
import Derived.Test.YtfkohahlpfejbaaDoorCid4
import Derived.Test.YtfkohahlpfejbaaDoorNB6
import Derived.Laws.OwnMore
import Derived.BigQuiet
namespace Go.Proofs.YtfkohahlpfejbaaDoor
open Go.RowKit

set_option maxRecDepth 100000 in
set_option maxHeartbeats 1000000 in
theorem long_16 (a : Option Addr) (c : Nat) (w : World) : Calls Tryd.prog 29 #[.slice a 16 c] w fun e w' => e = .returned (.slice a 16 c) ∧ w = w' := by
  go_enter Tryd.func29, Tryd.ntmps29
  go_wp2_with fail
  go_ret
  exact ⟨rfl, rfl⟩

set_option maxRecDepth 100000 in
set_option maxHeartbeats 1000000 in
theorem long_4 (v : Value) (b : List UInt8) (w : World) (hv : Reads w v b) (hb : b.length = 4) :
    Calls Tryd.prog 29 #[v] w fun e w' => ∃ v', e = .returned v' ∧ Hid (Reads w' v' (pl.pre12 ++ b)) ∧ Hid (Below w.heap.size w w') := by
  have hown : Byts (w.alloc (Obj.cells #[.int .u8 0, .int .u8 0, .int .u8 0, .int .u8 0, .int .u8 0, .int .u8 0, .int .u8 0, .int .u8 0, .int .u8 0, .int .u8 0, .int .u8 255, .int .u8 255] 5)) w.heap.size (.slice (some ⟨w.heap.size, 0, none⟩) 12 12) pl.pre12 :=
    World.ownsRow_lit w #[.int .u8 0, .int .u8 0, .int .u8 0, .int .u8 0, .int .u8 0, .int .u8 0, .int .u8 0, .int .u8 0, .int .u8 0, .int .u8 0, .int .u8 255, .int .u8 255] 12 (Nat.le_refl _) (by unfold maxLen; omega) rfl
  have hbel : Below w.heap.size w (w.alloc (Obj.cells #[.int .u8 0, .int .u8 0, .int .u8 0, .int .u8 0, .int .u8 0, .int .u8 0, .int .u8 0, .int .u8 0, .int .u8 0, .int .u8 0, .int .u8 255, .int .u8 255] 5)) := (Below.refl _ _).alloc (Nat.le_refl _) _
  have hr := hv.below hbel
  obtain ⟨a, c, rfl, _⟩ := hv
  have HO := Lib.hid hown
  have HB := Lib.hid hbel
  have hlen : pl.pre12.length + b.length ≤ 70368744177664 := by rw [hb]; decide
  have HL := Lib.hid hlen
  rw [hb] at hr ⊢
  have HR := Lib.hid hr
  clear hr hown hbel hb hlen
  go_enter Tryd.func29, Tryd.ntmps29
  go_wp2_with (at_builtin; refine app_bytes (w := w) 26 Tryd.underlying26 rfl _ _ rfl rfl w.heap.size HO.out rfl HR.out HL.out HB.out (Nat.le_refl _) ?_)
  intro v' w' hY hb2
  go_wp2_with fail
  go_ret
  exact ⟨_, rfl, Lib.hid hY.reads, Lib.hid hb2⟩

theorem results_tmp4 {fn : Func} {t u v x : Tmp} (h : fn.results = #[.tmp t, .tmp u, .tmp v, .tmp x]) (tmps : Array Value) (P : Program) (w : World) :
    (results fn tmps).run P w = .ok (.tuple #[tmps.getD t undef, tmps.getD u undef, tmps.getD v undef, tmps.getD x undef]) w := by
  simp [results, h]

/-- what impl.ParseCIDR answers -/
def IciRes (l : List UInt8) (w : World) (e : Ending) (w' : World) : Prop :=
  Hid (Below w.heap.size w w') ∧ ((pl.cidr l = none ∧ e = .returned (.tuple #[.slice none 0 0, .slice none 0 0, .slice none 0 0, .bool false])) ∨
    ∃ b n va vn vm, pl.cidr l = some (b, n) ∧ (b.length = 4 ∨ b.length = 16) ∧ n ≤ 8 * b.length ∧ e = .returned (.tuple #[va, vn, vm, .bool true]) ∧
      Hid (Reads w' va (pl.long b)) ∧ Hid (Reads w' vn (pl.and b (pl.mask n b.length))) ∧ Hid (Reads w' vm (pl.mask n b.length)))

set_option maxRecDepth 100000 in
set_option maxHeartbeats 2000000 in
theorem icidr_sp (g4 o4 g6 o6 : Nat) (s : ByteArray) (w : World) (hs : s.size ≤ 2147483648) (hI : IpVars w g4 o4 g6 o6) (h37 : (37 : UInt8) ∉ s.data.toList) (h7 : (pl.cutS s.data.toList 47).2.1.length < 7) :
    Calls Tryd.prog 27 #[.string s] w (IciRes s.data.toList w) := by
  have hp := pcidr_sp g4 o4 g6 o6 s w hs hI h37 h7
  obtain ⟨C, hC⟩ : ∃ C, pl.cidr s.data.toList = C := ⟨_, rfl⟩
  unfold CidRes at hp
  unfold IciRes
  rw [hC] at hp ⊢
  rcases C with _ | ⟨b, n⟩
  · have hno : Calls Tryd.prog 54 #[.string s] w (ErrC w) := hp.mono fun e w' h => by
      rcases h with ⟨_, h⟩ | ⟨b, n, h, _⟩
      · exact h
      · cases h
    have HNO := Lib.hid hno
    clear hno hp hI hC h37 h7
    go_enter Tryd.func27, Tryd.ntmps27
    go_wp2_with (go_at_call 54; refine HNO.out.mono ?_; rintro e w2 ⟨ad, rfl, hb2⟩)
    (try simp only [Exit.inBlock, Exit.then])
    refine bodyPost_ret (results_tmp4 rfl _ _ _) rfl ?_
    exact ⟨Lib.hid hb2, .inl ⟨trivial, rfl⟩⟩
  · have hyes : Calls Tryd.prog 54 #[.string s] w (fun e w' => OkC b (pl.mask n b.length) w e w' ∧ Hid ((b.length = 4 ∨ b.length = 16) ∧ n ≤ 8 * b.length)) := hp.mono fun e w' h => by
      rcases h with ⟨h, _⟩ | ⟨b', n', h, h1, h2, h3⟩
      · cases h
      · injection h with h
        injection h with e1 e2
        subst e1 e2
        exact ⟨h3, Lib.hid ⟨h1, h2⟩⟩
    have HY := Lib.hid hyes
    clear hyes hp hI hC h37 h7
    go_enter Tryd.func27, Tryd.ntmps27
    go_wp2_with (go_at_call 54; refine HY.out.mono ?_; rintro e w2 ⟨⟨ga, gn, vn, vm, ty, rfl, HK, HA, HN, HM, HB⟩, HX⟩; have c0 : w2.cell? ⟨gn, 0, none⟩ = some vn := HK.out.cell 0; have c1 : w2.cell? ⟨gn, 1, none⟩ = some vm := HK.out.cell 1)
    go_quiet (fail)
    go_wp2_with fail
    (try simp only [Exit.inBlock, Exit.then])
    refine bodyPost_ret (results_tmp4 rfl _ _ _) rfl ?_
    obtain ⟨h1, h2⟩ := HX.out
    exact ⟨Lib.hid (below_drewN HB.out _), .inr ⟨b, n, _, _, _, rfl, h1, h2, rfl, Lib.hid (HA.out.below (below_drewN (Below.refl _ _) _)), Lib.hid (HN.out.below (below_drewN (Below.refl _ _) _)), Lib.hid (HM.out.below (below_drewN (Below.refl _ _) _))⟩⟩

/-- Said: what it lets through has no percent sign, and less than 7 digits -/
def SaidRes (l : List UInt8) (w : World) (e : Ending) (w' : World) : Prop :=
  ∃ r, e = .returned (.bool r) ∧ Hid (Below w.heap.size w w') ∧ Hid (r = true → (37 : UInt8) ∉ l ∧ (pl.cutS l 47).2.1.length < 7)

def SaidQ (n : Nat) (h : Bool) (w : World) (e : Ending) (w' : World) : Prop := ∃ r, e = .returned (.bool r) ∧ Hid (Below w.heap.size w w') ∧ Hid (r = true → h = false ∧ n < 7)

set_option maxHeartbeats 2000000 in
theorem said_any (s A B : ByteArray) (f h : Bool) (w : World) (HC : Hid (∀ W, Calls Tryd.prog 52 #[.string s, .int .u8 47] W fun e w' => e = .returned (.tuple #[.string A, .string B, .bool f]) ∧ ∃ n, w' = W.drewN n))
    (HH : Hid (∀ W, Calls Tryd.prog 35 #[.string s, .string ⟨#[37]⟩] W fun e w' => e = .returned (.bool h) ∧ Hid (Below W.heap.size W w')))
    (hc : h = true ∨ (h = false ∧ (B.size : Int) < 2) ∨ (h = false ∧ ¬ ((B.size : Int) < 2) ∧ ∃ h0 : 0 < B.size, ((B[0].toNat : Int) != 48) = false) ∨ (h = false ∧ ¬ ((B.size : Int) < 2) ∧ (∃ h0 : 0 < B.size, ((B[0].toNat : Int) != 48) = true) ∧ (B.size : Int) < 7) ∨ (h = false ∧ ¬ ((B.size : Int) < 2) ∧ (∃ h0 : 0 < B.size, ((B[0].toNat : Int) != 48) = true) ∧ ¬ ((B.size : Int) < 7))) :
    Calls Tryd.prog 25 #[.string s] w (SaidQ B.size h w) := by
  rcases hc with rfl | ⟨rfl, h1⟩ | ⟨rfl, h1, h2, h3⟩ | ⟨rfl, h1, ⟨h2, h3⟩, h4⟩ | ⟨rfl, h1, ⟨h2, h3⟩, h4⟩
  · go_enter Tryd.func25, Tryd.ntmps25
    go_wp2_with (first
      | (go_at_call 35; refine (HH.out _).mono ?_; rintro e w2 ⟨rfl, hb2⟩; have HB2 := Lib.hid (bel_d hb2.out); clear hb2)
      | (go_at_call 52; refine (HC.out _).mono ?_; rintro e w1 ⟨rfl, n1, rfl⟩))
    go_ret
    exact ⟨_, rfl, Lib.hid HB2.out, Lib.hid (fun h => by simp at h)⟩
  · have h7 : (B.size : Int) < 7 := by omega
    go_enter Tryd.func25, Tryd.ntmps25
    go_wp2_with (first
      | (go_at_call 35; refine (HH.out _).mono ?_; rintro e w2 ⟨rfl, hb2⟩; have HB2 := Lib.hid (bel_d hb2.out); clear hb2)
      | (go_at_call 52; refine (HC.out _).mono ?_; rintro e w1 ⟨rfl, n1, rfl⟩))
    go_ret
    exact ⟨_, rfl, Lib.hid HB2.out, Lib.hid (fun _ => ⟨rfl, by omega⟩)⟩
  · go_enter Tryd.func25, Tryd.ntmps25
    go_wp2_with (first
      | (go_at_call 35; refine (HH.out _).mono ?_; rintro e w2 ⟨rfl, hb2⟩; have HB2 := Lib.hid (bel_d hb2.out); clear hb2)
      | (go_at_call 52; refine (HC.out _).mono ?_; rintro e w1 ⟨rfl, n1, rfl⟩))
    go_ret
    exact ⟨_, rfl, Lib.hid HB2.out, Lib.hid (fun h => by simp at h)⟩
  · go_enter Tryd.func25, Tryd.ntmps25
    go_wp2_with (first
      | (go_at_call 35; refine (HH.out _).mono ?_; rintro e w2 ⟨rfl, hb2⟩; have HB2 := Lib.hid (bel_d hb2.out); clear hb2)
      | (go_at_call 52; refine (HC.out _).mono ?_; rintro e w1 ⟨rfl, n1, rfl⟩))
    go_ret
    exact ⟨_, rfl, Lib.hid HB2.out, Lib.hid (fun _ => ⟨rfl, by omega⟩)⟩
  · go_enter Tryd.func25, Tryd.ntmps25
    go_wp2_with (first
      | (go_at_call 35; refine (HH.out _).mono ?_; rintro e w2 ⟨rfl, hb2⟩; have HB2 := Lib.hid (bel_d hb2.out); clear hb2)
      | (go_at_call 52; refine (HC.out _).mono ?_; rintro e w1 ⟨rfl, n1, rfl⟩))
    go_ret
    exact ⟨_, rfl, Lib.hid HB2.out, Lib.hid (fun h => by simp at h; omega)⟩

theorem said_sp (s : ByteArray) (w : World) (hs : s.size ≤ 2147483648) : Calls Tryd.prog 25 #[.string s] w (SaidRes s.data.toList w) := by
  have hcut := fun W => cut_sp s 47 W (by omega)
  obtain ⟨B, hB⟩ : ∃ B : ByteArray, (⟨(pl.cutS s.data.toList 47).2.1.toArray⟩ : ByteArray) = B := ⟨_, rfl⟩
  have hBs : (pl.cutS s.data.toList 47).2.1.length = B.size := by rw [← hB]; rfl
  rw [hB] at hcut
  obtain ⟨h, hh⟩ : ∃ h, pl.has s.data.toList [37] = h := ⟨_, rfl⟩
  refine (said_any s _ B _ h w (Lib.hid hcut) (Lib.hid fun W => has_pc s W hs h hh) ?_).mono fun e w' ⟨r, h1, h2, h3⟩ => ⟨r, h1, h2, Lib.hid fun hr => ?_⟩
  · cases h with
    | true => exact .inl rfl
    | false =>
      by_cases h1 : (B.size : Int) < 2
      · exact .inr (.inl ⟨rfl, h1⟩)
      · have h0 : 0 < B.size := by omega
        cases h2 : ((B[0].toNat : Int) != 48) with
        | false => exact .inr (.inr (.inl ⟨rfl, h1, h0, h2⟩))
        | true =>
          by_cases h3 : (B.size : Int) < 7
          · exact .inr (.inr (.inr (.inl ⟨rfl, h1, ⟨h0, h2⟩, h3⟩)))
          · exact .inr (.inr (.inr (.inr ⟨rfl, h1, ⟨h0, h2⟩, h3⟩)))
  · obtain ⟨ha, hb⟩ := h3.out hr
    rw [hBs]
    refine ⟨fun hm => ?_, hb⟩
    rw [ha] at hh
    have : pl.has s.data.toList [37] = true := by
      unfold pl.has
      rw [List.any_eq_true]
      exact ⟨37, hm, by decide⟩
    rw [this] at hh
    cases hh

/-- what spec.CIDR answers -/
def CSpRes (l : List UInt8) (w : World) (e : Ending) (w' : World) : Prop :=
  Hid (Below w.heap.size w w') ∧ ((pl.cidr l = none ∧ ∃ a n c k, e = .returned (.tuple #[.slice a n c, .int .i64 k, .bool false])) ∨
    ∃ b n v, pl.cidr l = some (b, n) ∧ (b.length = 4 ∨ b.length = 16) ∧ n ≤ 8 * b.length ∧ e = .returned (.tuple #[v, .int .i64 (n : Int), .bool true]) ∧ Hid (Reads w' v b))

def CSpNo (w : World) (e : Ending) (w' : World) : Prop := (∃ a n c k, e = .returned (.tuple #[.slice a n c, .int .i64 k, .bool false])) ∧ Hid (Below w.heap.size w w')

/-- refused: by the cut, by the address, by the number -/
theorem csp_no (s A B : ByteArray) (f o1 o2 : Bool) (w : World) (HC : Hid (∀ W, Calls Tryd.prog 52 #[.string s, .int .u8 47] W fun e w' => e = .returned (.tuple #[.string A, .string B, .bool f]) ∧ ∃ n, w' = W.drewN n))
    (HA : Hid (∀ W, Calls Tryd.prog 15 #[.string A] W fun e w' => (∃ a n c, e = .returned (.tuple #[.slice a n c, .bool o1])) ∧ Hid (Below W.heap.size W w')))
    (HD : Hid (∀ W, Calls Tryd.prog 53 #[.string B] W fun e w' => (∃ n : Int, e = .returned (.tuple #[.int .i64 n, .bool o2])) ∧ W = w'))
    (hc : f = false ∨ (f = true ∧ o1 = false) ∨ (f = true ∧ o1 = true ∧ o2 = false)) :
    Calls Tryd.prog 26 #[.string s] w (CSpNo w) := by
  rcases hc with rfl | ⟨rfl, rfl⟩ | ⟨rfl, rfl, rfl⟩
  all_goals
    go_enter Tryd.func26, Tryd.ntmps26
    go_wp2_with (first
      | (go_at_call 53; refine (HD.out _).mono ?_; rintro e w3 ⟨⟨k, rfl⟩, rfl⟩)
      | (go_at_call 15; refine (HA.out _).mono ?_; rintro e w2 ⟨⟨a, n, c, rfl⟩, hb2⟩; have HB2 := Lib.hid (bel_d hb2.out); clear hb2)
      | (go_at_call 52; refine (HC.out _).mono ?_; rintro e w1 ⟨rfl, n1, rfl⟩))
    go_ret3
    exact ⟨⟨_, _, _, _, rfl⟩, HB2⟩

def CSpLen (b : List UInt8) (n : Nat) (r : Bool) (w : World) (e : Ending) (w' : World) : Prop := ∃ v, e = .returned (.tuple #[v, .int .i64 (n : Int), .bool r]) ∧ Hid (Reads w' v b) ∧ Hid (Below w.heap.size w w')

/-- read: the length is in its bounds, or it is not -/
theorem csp_len (s A B : ByteArray) (b : List UInt8) (n L : Nat) (r : Bool) (w : World) (HC : Hid (∀ W, Calls Tryd.prog 52 #[.string s, .int .u8 47] W fun e w' => e = .returned (.tuple #[.string A, .string B, .bool true]) ∧ ∃ n, w' = W.drewN n))
    (HA : Hid (∀ W, Calls Tryd.prog 15 #[.string A] W fun e w' => (∃ a c, e = .returned (.tuple #[.slice a L c, .bool true]) ∧ Hid (Reads w' (.slice a L c) b)) ∧ Hid (Below W.heap.size W w')))
    (HD : Hid (∀ W, Calls Tryd.prog 53 #[.string B] W fun e w' => e = .returned (.tuple #[.int .i64 (n : Int), .bool true]) ∧ W = w'))
    (hL : L = 4 ∨ L = 16) (hr : decide ((n : Int) ≤ 8 * (L : Int)) = r) :
    Calls Tryd.prog 26 #[.string s] w (CSpLen b n r w) := by
  subst hr
  rcases hL with rfl | rfl
  all_goals
    go_enter Tryd.func26, Tryd.ntmps26
    go_wp2_with (first
      | (go_at_call 53; refine (HD.out _).mono ?_; rintro e w3 ⟨rfl, rfl⟩)
      | (go_at_call 15; refine (HA.out _).mono ?_; rintro e w2 ⟨⟨a, c, rfl, HR2⟩, hb2⟩; have HB2 := Lib.hid (bel_d hb2.out); clear hb2)
      | (go_at_call 52; refine (HC.out _).mono ?_; rintro e w1 ⟨rfl, n1, rfl⟩))
    go_ret3
    exact ⟨_, rfl, HR2, HB2⟩

end Go.Proofs.YtfkohahlpfejbaaDoor
