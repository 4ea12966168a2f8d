/-
  THE BASE of the statements over net/netip, part 3 of 6: PlText, Host, Host2, PlTrip, Net1, PlCid, Net2, Net3, V6L.
-/
import Derived.Test.YtfkohahlpfejbaaDoorNB2
import Derived.Lib.EndianBits
import Derived.Laws.ResultCell
import Derived.LaidEql
import Derived.Deep.RegionHeld3
import Derived.Lib.Bytealg
import Derived.Lib.SliceRun

/- PlText: PLAIN: the text of an address. -/
namespace Go.Proofs.YtfkohahlpfejbaaDoor.pl

def gs : List UInt8 → List Nat
  | x :: y :: r => (x.toNat * 256 + y.toNat) :: gs r
  | _ => []
def dots : List UInt8 → List UInt8
  | [a, b, c, d] => num 10 a.toNat ++ 46 :: (num 10 b.toNat ++ 46 :: (num 10 c.toNat ++ 46 :: num 10 d.toNat))
  | _ => []
def pre12 : List UInt8 := [0, 0, 0, 0, 0, 0, 0, 0, 0, 0, 255, 255]
def mapped (b : List UInt8) : Bool := b.take 12 == pre12
/-- how many noughts from i on -/
def run0 (g : List Nat) (i : Nat) : Nat := ((g.drop i).takeWhile (fun x => x == 0)).length
/-- the first longest run of two or more; none: at 8 -/
def best (g : List Nat) : Nat → Nat × Nat
  | 0 => (8, 1)
  | k + 1 => if (best g k).2 < run0 g k then (k, run0 g k) else best g k
/-- groups with colons between -/
def jn : List Nat → List UInt8
  | [] => []
  | [x] => num 16 x
  | x :: y :: r => num 16 x ++ 58 :: jn (y :: r)
/-- the text so far -/
def tx (g : List Nat) (a l i : Nat) : List UInt8 := if i ≤ a then jn (g.take i) else jn (g.take a) ++ [58, 58] ++ jn ((g.take i).drop (a + l))
def text6 (b : List UInt8) : List UInt8 := tx (gs b) (best (gs b) 8).1 (best (gs b) 8).2 8
def text (b : List UInt8) : List UInt8 :=
  if b.length = 4 then dots b else if mapped b = true then [58, 58, 102, 102, 102, 102, 58] ++ dots (b.drop 12) else text6 b

theorem gs_len : ∀ (n : Nat) (b : List UInt8), b.length = 2 * n → (gs b).length = n
  | 0, b, h => by rw [List.eq_nil_of_length_eq_zero (by omega : b.length = 0)]; rfl
  | n + 1, [], h => by simp at h
  | n + 1, [_], h => by simp at h; omega
  | n + 1, x :: y :: r, h => by simp at h; show (gs r).length + 1 = n + 1; rw [gs_len n r (by omega)]
theorem gs_lt : ∀ (n : Nat) (b : List UInt8), b.length ≤ n → ∀ x ∈ gs b, x < 65536
  | 0, b, h, x, hx => by rw [List.eq_nil_of_length_eq_zero (by omega : b.length = 0)] at hx; simp [gs] at hx
  | n + 1, [], h, x, hx => by simp [gs] at hx
  | n + 1, [_], h, x, hx => by simp [gs] at hx
  | n + 1, a :: b :: r, h, x, hx => by
    have h1 := UInt8.toNat_lt a
    have h2 := UInt8.toNat_lt b
    rw [gs] at hx
    rcases List.mem_cons.1 hx with rfl | hx
    · omega
    · exact gs_lt n r (by simp at h; omega) x hx

/-! ### the run -/
theorem run0_end (g : List Nat) (i : Nat) (h : g.length ≤ i) : run0 g i = 0 := by unfold run0; rw [List.drop_eq_nil_of_le h]; rfl
theorem run0_zero (g : List Nat) (i : Nat) (h : i < g.length) (h0 : g[i] = 0) : run0 g i = run0 g (i + 1) + 1 := by
  unfold run0
  rw [List.drop_eq_getElem_cons h, List.takeWhile_cons]
  simp [h0]
theorem run0_stop (g : List Nat) (i : Nat) (h : i < g.length) (h0 : g[i] ≠ 0) : run0 g i = 0 := by
  unfold run0
  rw [List.drop_eq_getElem_cons h, List.takeWhile_cons]
  simp [h0]
/-- the walk: n noughts found -/
theorem run0_go (g : List Nat) (i n : Nat) (h : i + n < g.length) (h0 : g[i + n] = 0) (hr : run0 g i = n + run0 g (i + n)) : run0 g i = n + 1 + run0 g (i + (n + 1)) := by
  rw [hr, run0_zero g (i + n) h h0]; rw [show i + (n + 1) = i + n + 1 by omega]; omega
theorem run0_le (g : List Nat) (i : Nat) (h : i ≤ g.length) : i + run0 g i ≤ g.length := by
  unfold run0
  have := List.takeWhile_sublist (l := g.drop i) (fun x => x == 0)
  have := this.length_le
  rw [List.length_drop] at this
  omega
theorem run0_all (g : List Nat) (i j : Nat) (h : j < run0 g i) : g[i + j]? = some 0 := by
  unfold run0 at h
  have h1 : (g.drop i).takeWhile (fun x => x == 0) <+: g.drop i := List.takeWhile_prefix _
  obtain ⟨t, ht⟩ := h1
  have h2 : (g.drop i)[j]? = some ((g.drop i).takeWhile (fun x => x == 0))[j] := by
    conv => lhs; rw [← ht]
    rw [List.getElem?_append_left h, List.getElem?_eq_getElem h]
  have h3 : ∀ (l : List Nat), ∀ x ∈ l.takeWhile (fun x => x == 0), x = 0 := by
    intro l
    induction l with
    | nil => intro x hx; simp at hx
    | cons a l ih =>
      intro x hx
      rw [List.takeWhile_cons] at hx
      split at hx
      · rename_i ha
        rcases List.mem_cons.1 hx with rfl | hx
        · simpa using ha
        · exact ih x hx
      · simp at hx
  rw [List.getElem?_drop] at h2
  rw [h2, h3 _ _ (List.getElem_mem h)]

theorem best_ok (g : List Nat) (hg : g.length = 8) : ∀ k, k ≤ 8 → (best g k = (8, 1)) ∨ ((best g k).1 < k ∧ 2 ≤ (best g k).2 ∧ (best g k).1 + (best g k).2 ≤ 8 ∧ (best g k).2 = run0 g (best g k).1)
  | 0, _ => .inl rfl
  | k + 1, h => by
    rw [best]
    have ih := best_ok g hg k (by omega)
    have hr := run0_le g k (by omega)
    split
    · rename_i hc
      right
      refine ⟨by simp, ?_, by simp only; omega, rfl⟩
      simp only
      rcases ih with e | ⟨_, h2, _⟩
      · rw [e] at hc; simp at hc; omega
      · omega
    · rcases ih with e | ⟨h1, h2, h3, h4⟩
      · exact .inl e
      · exact .inr ⟨by omega, h2, h3, h4⟩
theorem best_take (g : List Nat) (k : Nat) (h : (best g k).2 < run0 g k) : best g (k + 1) = (k, run0 g k) := by rw [best, if_pos h]
theorem best_leave (g : List Nat) (k : Nat) (h : ¬ (best g k).2 < run0 g k) : best g (k + 1) = best g k := by rw [best, if_neg h]

/-! ### the text, group by group -/
theorem num_ne (b n : Nat) (hb : 2 ≤ b) (hn : n < 2 ^ 63) : num b n ≠ [] := by rw [num_step b n hb hn]; simp
theorem num_last (b n : Nat) (hb : 2 ≤ b) (hb16 : b ≤ 16) (hn : n < 2 ^ 63) : ∃ x t, num b n = t ++ [hx x] ∧ x < 16 := by
  have := Nat.mod_lt n (by omega : 0 < b)
  exact ⟨n % b, _, num_step b n hb hn, by omega⟩
theorem hx_not (x : Nat) (h : x < 16) : hx x ≠ 58 ∧ hx x ≠ 46 ∧ isHex (hx x) = true ∧ hexv (hx x) = some x := by
  have : ∀ x : Fin 16, hx x.val ≠ 58 ∧ hx x.val ≠ 46 ∧ isHex (hx x.val) = true ∧ hexv (hx x.val) = some x.val := by decide
  exact this ⟨x, h⟩
def small (g : List Nat) : Prop := ∀ x ∈ g, x < 65536
theorem jn_snoc (g : List Nat) (x : Nat) (h : g ≠ []) : jn (g ++ [x]) = jn g ++ 58 :: num 16 x := by
  induction g with
  | nil => exact absurd rfl h
  | cons a g ih =>
    cases g with
    | nil => rfl
    | cons b r => show num 16 a ++ 58 :: jn ((b :: r) ++ [x]) = _; rw [ih (by simp)]; simp [jn]
theorem jn_last (g : List Nat) (h : g ≠ []) (hs : small g) : ∃ x t, jn g = t ++ [x] ∧ x ≠ 58 := by
  induction g with
  | nil => exact absurd rfl h
  | cons a g ih =>
    cases g with
    | nil =>
      obtain ⟨x, t, e, hx⟩ := num_last 16 a (by decide) (by decide) (by have := hs a (by simp); omega)
      exact ⟨pl.hx x, t, e, (hx_not x hx).1⟩
    | cons b r =>
      obtain ⟨x, t, e, hx⟩ := ih (by simp) (fun y hy => hs y (by simp [hy]))
      exact ⟨x, num 16 a ++ 58 :: t, by rw [jn, e]; simp, hx⟩
theorem jn_none (g : List Nat) (hs : small g) (h : jn g = []) : g = [] := by
  cases hg : g with
  | nil => rfl
  | cons a r =>
    obtain ⟨x, t, e, _⟩ := jn_last g (by rw [hg]; simp) hs
    rw [h] at e
    simp at e

theorem take_ne (g : List Nat) (i : Nat) (h0 : i ≠ 0) (hi : i < g.length) : g.take i ≠ [] := by
  intro e
  have := congrArg List.length e
  rw [List.length_take, List.length_nil] at this
  omega
/-- whether no colon goes ahead of a group -/
def bare (a l i : Nat) : Prop := i = 0 ∨ i = a + l
theorem tx_zero (g : List Nat) (a l : Nat) : tx g a l 0 = [] := by unfold tx; rw [if_pos (Nat.zero_le _)]; rfl
theorem tx_run (g : List Nat) (a l : Nat) (hl : 1 ≤ l) (hg : a + l ≤ g.length) : tx g a l a ++ [58, 58] = tx g a l (a + l) := by
  unfold tx
  rw [if_pos (Nat.le_refl _), if_neg (by omega), List.drop_eq_nil_of_le (by rw [List.length_take]; omega)]
  simp [jn]
theorem tx_bare (g : List Nat) (a l i : Nat) (hi : i < g.length) (hl : 1 ≤ l) (h : i < a ∨ a + l ≤ i) (hb : bare a l i) : tx g a l (i + 1) = tx g a l i ++ num 16 g[i] := by
  unfold tx
  have e : g.take (i + 1) = g.take i ++ [g[i]] := by rw [List.take_add_one, List.getElem?_eq_getElem hi]; rfl
  rcases h with h | h
  · rw [if_pos (by omega), if_pos (by omega)]
    have : i = 0 := by rcases hb with hb | hb; exact hb; omega
    subst this
    rw [e]
    rfl
  · have hbi : i = a + l := by rcases hb with hb | hb; omega; exact hb
    rw [if_neg (by omega), if_neg (by omega), e, List.drop_append_of_le_length (by rw [List.length_take]; omega), List.drop_eq_nil_of_le (by rw [List.length_take]; omega)]
    simp [jn]
theorem tx_colon (g : List Nat) (a l i : Nat) (hi : i < g.length) (hl : 1 ≤ l) (h : i < a ∨ a + l ≤ i) (hb : ¬ bare a l i) : tx g a l (i + 1) = tx g a l i ++ 58 :: num 16 g[i] := by
  unfold tx
  have e : g.take (i + 1) = g.take i ++ [g[i]] := by rw [List.take_add_one, List.getElem?_eq_getElem hi]; rfl
  have h0 : i ≠ 0 := fun e => hb (.inl e)
  rcases h with h | h
  · rw [if_pos (by omega), if_pos (by omega), e, jn_snoc _ _ (take_ne g i h0 hi)]
  · have : i ≠ a + l := fun e => hb (.inr e)
    rw [if_neg (by omega), if_neg (by omega), e, List.drop_append_of_le_length (by rw [List.length_take]; omega), jn_snoc _ _ (by intro e; have := congrArg List.length e; simp at this; omega)]
    simp
theorem take_small (g : List Nat) (hs : small g) (i j : Nat) : small ((g.take i).drop j) := fun x hx => hs x (List.mem_of_mem_take (List.mem_of_mem_drop hx))
theorem tx_sep (g : List Nat) (hs : small g) (a l i : Nat) (hi : i < g.length) (hl : 1 ≤ l) (h : i < a ∨ a + l ≤ i) :
    (bare a l i → tx g a l i = [] ∨ (tx g a l i).getLast? = some 58) ∧ (¬ bare a l i → tx g a l i ≠ [] ∧ ∃ x, (tx g a l i).getLast? = some x ∧ x ≠ 58) := by
  unfold tx
  constructor
  · rintro (rfl | rfl)
    · left; rw [if_pos (Nat.zero_le _)]; rfl
    · right
      rw [if_neg (by omega), List.drop_eq_nil_of_le (by rw [List.length_take]; omega)]
      simp [jn]
  · intro hb
    have h0 : i ≠ 0 := fun e => hb (.inl e)
    rcases h with h | h
    · rw [if_pos (by omega)]
      obtain ⟨x, t, e, hx⟩ := jn_last (g.take i) (take_ne g i h0 hi) (fun x hx => hs x (List.mem_of_mem_take hx))
      rw [e]
      exact ⟨by simp, x, by simp, hx⟩
    · have : i ≠ a + l := fun e => hb (.inr e)
      rw [if_neg (by omega)]
      obtain ⟨x, t, e, hx⟩ := jn_last ((g.take i).drop (a + l)) (by intro e; have := congrArg List.length e; simp at this; omega) (take_small g hs _ _)
      rw [e]
      exact ⟨by simp, x, by rw [← List.append_assoc, List.getLast?_append]; rfl, hx⟩

end Go.Proofs.YtfkohahlpfejbaaDoor.pl

/- Host: WALKS: lastIndexByteString, splitHostZone, SplitHostPort, works. -/
namespace Go.Proofs.YtfkohahlpfejbaaDoor
open Go.RowKit

theorem ret_str2 {a b c d : ByteArray} (h1 : a = c) (h2 : b = d) : Ending.returned (.tuple #[.string a, .string b]) = .returned (.tuple #[.string c, .string d]) := by rw [h1, h2]

set_option maxHeartbeats 400000 in
theorem lidx_any (s : ByteArray) (c : Int) (w : World) (hs : s.size ≤ maxLen) :
    Calls Tryd.prog 81 #[.string s, .int .u8 c] w fun e w' => e = .returned (.int .i64 (pl.lidx s.data.toList c)) ∧ w = w' := by
  unfold maxLen at hs
  have hl : s.data.toList.length = s.size := by simp
  go_enter Tryd.func81, Tryd.ntmps81
  go_wp2
  go_loop [5] (fun i => ∃ k : Nat, k ≤ s.size ∧ i = .int .i64 ((k : Int) - 1) ∧ ∀ x ∈ s.data.toList.drop k, pl.isB c x = false) (fun i => (intOf i + 1).toNat)
  case atStart => exact ⟨s.size, Nat.le_refl _, by first | rfl | go_num, by rw [List.drop_of_length_le (by omega)]; simp⟩
  case round =>
    obtain ⟨k, hk, rfl, hn⟩ := hrel
    have HN := Lib.hid hn
    clear hn
    rcases k with _ | k
    · have hE := Lib.hid (pl.lidx_none s.data.toList c (by simpa using HN.out))
      go_wp2
      go_ret
      exact ⟨ret_int hE.out.symm, rfl⟩
    · have hlt : k < s.size := by omega
      have e1 : ((k + 1 : Nat) : Int) - 1 = (k : Int) := by omega
      rw [e1]
      go_wp2
      · go_ret
        exact ⟨ret_int (pl.lidx_hit s c k hlt (by assumption) HN.out).symm, rfl⟩
      · go_round
        case rel => exact ⟨k, by omega, by first | rfl | go_num, pl.none_pred s c k hlt HN.out (by assumption)⟩
        case measure => simp [intOf]

/-- an error of New -/
theorem new_err (s : ByteArray) (w : World) :
    Calls Tryd.prog 69 #[.string s] w fun e w' => ∃ ad, e = .returned (.iface 142 (.pointer (some ad))) ∧ Below w.heap.size w w' := by
  go_enter Tryd.func69, Tryd.ntmps69
  go_wp2
  go_ret
  exact ⟨_, rfl, (Below.refl _ _).alloc (Nat.le_refl _) _⟩

/-- what an error of an address returns -/
def ErrHP (w : World) (e : Ending) (w' : World) : Prop := ∃ ad, e = .returned (.tuple #[.string ⟨#[]⟩, .string ⟨#[]⟩, .iface 142 (.pointer (some ad))]) ∧ Below w.heap.size w w'

theorem addr_err (s t : ByteArray) (w : World) :
    Calls Tryd.prog 80 #[.string s, .string t] w (ErrHP w) := by
  go_enter Tryd.func80, Tryd.ntmps80
  go_wp2_with (go_at_call 69; refine (new_err _ _).mono ?_; rintro e w' ⟨ad, rfl, hb⟩)
  go_ret3
  exact ⟨_, rfl, hb⟩

set_option maxRecDepth 100000 in
set_option maxHeartbeats 1000000 in
/-- no colon -/
theorem shp_a (s : ByteArray) (w : World) (hs : s.size ≤ 17592186044416) (h1 : pl.lidx s.data.toList 58 < 0) :
    Calls Tryd.prog 63 #[.string s] w (ErrHP w) := by
  go_enter Tryd.func63, Tryd.ntmps63
  go_wp2_with (first | (go_at_call 81; refine (lidx_any _ _ _ (by unfold maxLen; omega)).mono ?_; rintro e w' ⟨rfl, rfl⟩) | (go_at_call 80; refine (addr_err _ _ _).mono ?_; rintro e w' ⟨ad, rfl, hb⟩))
  go_ret3
  exact ⟨_, rfl, hb⟩

theorem idx_val (s : ByteArray) (c : Int) (i : Int) (w : World) (h : pl.idx s.data.toList c = i) (hs : s.size ≤ 17592186044416) :
    Calls Tryd.prog 82 #[.string s, .int .u8 c] w fun e w' => e = .returned (.int .i64 i) ∧ w = w' := by
  rw [← h]; exact idx_any s c w (by unfold maxLen; omega)
theorem lidx_val (s : ByteArray) (c : Int) (i : Int) (w : World) (h : pl.lidx s.data.toList c = i) (hs : s.size ≤ 17592186044416) :
    Calls Tryd.prog 81 #[.string s, .int .u8 c] w fun e w' => e = .returned (.int .i64 i) ∧ w = w' := by
  rw [← h]; exact lidx_any s c w (by unfold maxLen; omega)

/-- what a host and a port return -/
def OkHP (h p : ByteArray) (w : World) (e : Ending) (w' : World) : Prop := e = .returned (.tuple #[.string h, .string p, .nilIface]) ∧ w = w'

set_option maxRecDepth 100000 in
set_option maxHeartbeats 1000000 in
/-- no closing bracket -/
theorem shp_b1 (s : ByteArray) (w : World) (hs : s.size ≤ 17592186044416) (i : Nat) (hi : i < s.size) (HI : Hid (pl.lidx s.data.toList 58 = (i : Int))) (hbr : (((s[0]'(by omega)).toNat : Int) == 91) = true) (q : Int) (hq : q < 0) (H1 : Hid (pl.idx s.data.toList 93 = q)) :
    Calls Tryd.prog 63 #[.string s] w (ErrHP w) := by
  have hpos : 0 < s.size := by omega
  go_enter Tryd.func63, Tryd.ntmps63
  go_wp2_with (first | (go_at_call 81; refine (lidx_val s 58 i w HI.out hs).mono ?_; rintro e w' ⟨rfl, rfl⟩) | (go_at_call 80; refine (addr_err _ _ _).mono ?_; rintro e w' ⟨ad, rfl, hb⟩) | (go_at_call 82; ((with_reducible refine (idx_val _ _ _ _ H1.out (by first | omega | (simp; omega))).mono ?_); rintro e w' ⟨rfl, rfl⟩)))
  all_goals go_ret3
  all_goals exact ⟨_, rfl, hb⟩

set_option maxRecDepth 100000 in
set_option maxHeartbeats 1000000 in
/-- nothing behind the closing bracket -/
theorem shp_b2 (s : ByteArray) (w : World) (hs : s.size ≤ 17592186044416) (i : Nat) (hi : i < s.size) (HI : Hid (pl.lidx s.data.toList 58 = (i : Int))) (hbr : (((s[0]'(by omega)).toNat : Int) == 91) = true) (q : Nat) (H1 : Hid (pl.idx s.data.toList 93 = (q : Int))) (hq : q + 1 = s.size) :
    Calls Tryd.prog 63 #[.string s] w (ErrHP w) := by
  have hpos : 0 < s.size := by omega
  have hq2 : (((q : Int) + 1) == (s.size : Int)) = true := by rw [beq_iff_eq]; omega
  have hq3 : q + 1 ≤ s.size := by omega
  clear hq
  go_enter Tryd.func63, Tryd.ntmps63
  go_wp2_with (first | (go_at_call 81; refine (lidx_val s 58 i w HI.out hs).mono ?_; rintro e w' ⟨rfl, rfl⟩) | (go_at_call 80; refine (addr_err _ _ _).mono ?_; rintro e w' ⟨ad, rfl, hb⟩) | (go_at_call 82; ((with_reducible refine (idx_val _ _ _ _ H1.out (by first | omega | (simp; omega))).mono ?_); rintro e w' ⟨rfl, rfl⟩)))
  all_goals go_ret3
  all_goals exact ⟨_, rfl, hb⟩

set_option maxRecDepth 100000 in
set_option maxHeartbeats 1000000 in
/-- something else behind the closing bracket -/
theorem shp_b3 (s : ByteArray) (w : World) (hs : s.size ≤ 17592186044416) (i : Nat) (hi : i < s.size) (HI : Hid (pl.lidx s.data.toList 58 = (i : Int))) (hbr : (((s[0]'(by omega)).toNat : Int) == 91) = true) (q : Nat) (H1 : Hid (pl.idx s.data.toList 93 = (q : Int))) (hq : q + 1 < s.size) (hqi : (((q : Int) + 1) == (i : Int)) = false) :
    Calls Tryd.prog 63 #[.string s] w (ErrHP w) := by
  have hpos : 0 < s.size := by omega
  have hq2 : (((q : Int) + 1) == (s.size : Int)) = false := by rw [beq_eq_false_iff_ne]; omega
  go_enter Tryd.func63, Tryd.ntmps63
  go_wp2_with (first | (go_at_call 81; refine (lidx_val s 58 i w HI.out hs).mono ?_; rintro e w' ⟨rfl, rfl⟩) | (go_at_call 80; refine (addr_err _ _ _).mono ?_; rintro e w' ⟨ad, rfl, hb⟩) | (go_at_call 82; ((with_reducible refine (idx_val _ _ _ _ H1.out (by first | omega | (simp; omega))).mono ?_); rintro e w' ⟨rfl, rfl⟩)))
  all_goals go_ret3
  all_goals exact ⟨_, rfl, hb⟩

set_option maxRecDepth 100000 in
set_option maxHeartbeats 1000000 in
/-- an opening bracket behind the first -/
theorem shp_b4 (s : ByteArray) (w : World) (hs : s.size ≤ 17592186044416) (i : Nat) (hi : i < s.size) (HI : Hid (pl.lidx s.data.toList 58 = (i : Int))) (hbr : (((s[0]'(by omega)).toNat : Int) == 91) = true) (q : Nat) (H1 : Hid (pl.idx s.data.toList 93 = (q : Int))) (hq : q + 1 < s.size) (hqi : (((q : Int) + 1) == (i : Int)) = true) (j2 : Int) (H2 : Hid (pl.idx (s.extract 1 s.size).data.toList 91 = j2)) (hj2 : 0 ≤ j2) :
    Calls Tryd.prog 63 #[.string s] w (ErrHP w) := by
  have hpos : 0 < s.size := by omega
  have hq2 : (((q : Int) + 1) == (s.size : Int)) = false := by rw [beq_eq_false_iff_ne]; omega
  have hq3 : 1 ≤ q := by
    rcases q with _ | q
    · exfalso
      have := pl.idx_at s 0 93 H1.out hpos
      rw [beq_iff_eq] at hbr
      omega
    · omega
  go_enter Tryd.func63, Tryd.ntmps63
  go_wp2_with (first | (go_at_call 81; refine (lidx_val s 58 i w HI.out hs).mono ?_; rintro e w' ⟨rfl, rfl⟩) | (go_at_call 80; refine (addr_err _ _ _).mono ?_; rintro e w' ⟨ad, rfl, hb⟩) | (go_at_call 82; ((with_reducible refine (idx_val _ _ _ _ H1.out (by first | omega | (simp; omega))).mono ?_); rintro e w' ⟨rfl, rfl⟩)) | (go_at_call 82; ((with_reducible refine (idx_val _ _ _ _ H2.out (by first | omega | (simp; omega))).mono ?_); rintro e w' ⟨rfl, rfl⟩)))
  all_goals go_ret3
  all_goals exact ⟨_, rfl, hb⟩

set_option maxRecDepth 100000 in
set_option maxHeartbeats 1000000 in
/-- a closing bracket behind the first -/
theorem shp_b5 (s : ByteArray) (w : World) (hs : s.size ≤ 17592186044416) (i : Nat) (hi : i < s.size) (HI : Hid (pl.lidx s.data.toList 58 = (i : Int))) (hbr : (((s[0]'(by omega)).toNat : Int) == 91) = true) (q : Nat) (H1 : Hid (pl.idx s.data.toList 93 = (q : Int))) (hq : q + 1 < s.size) (hqi : (((q : Int) + 1) == (i : Int)) = true) (j2 : Int) (H2 : Hid (pl.idx (s.extract 1 s.size).data.toList 91 = j2)) (hj2 : j2 < 0) (j3 : Int) (H3 : Hid (pl.idx (s.extract (q + 1) s.size).data.toList 93 = j3)) (hj3 : 0 ≤ j3) :
    Calls Tryd.prog 63 #[.string s] w (ErrHP w) := by
  have hpos : 0 < s.size := by omega
  have hq2 : (((q : Int) + 1) == (s.size : Int)) = false := by rw [beq_eq_false_iff_ne]; omega
  have hq3 : 1 ≤ q := by
    rcases q with _ | q
    · exfalso
      have := pl.idx_at s 0 93 H1.out hpos
      rw [beq_iff_eq] at hbr
      omega
    · omega
  go_enter Tryd.func63, Tryd.ntmps63
  go_wp2_with (first | (go_at_call 81; refine (lidx_val s 58 i w HI.out hs).mono ?_; rintro e w' ⟨rfl, rfl⟩) | (go_at_call 80; refine (addr_err _ _ _).mono ?_; rintro e w' ⟨ad, rfl, hb⟩) | (go_at_call 82; ((with_reducible refine (idx_val _ _ _ _ H1.out (by first | omega | (simp; omega))).mono ?_); rintro e w' ⟨rfl, rfl⟩)) | (go_at_call 82; ((with_reducible refine (idx_val _ _ _ _ H2.out (by first | omega | (simp; omega))).mono ?_); rintro e w' ⟨rfl, rfl⟩)) | (go_at_call 82; ((with_reducible refine (idx_val _ _ _ _ H3.out (by first | omega | (simp; omega))).mono ?_); rintro e w' ⟨rfl, rfl⟩)))
  all_goals go_ret3
  all_goals exact ⟨_, rfl, hb⟩

set_option maxRecDepth 100000 in
set_option maxHeartbeats 1000000 in
/-- a host in brackets -/
theorem shp_b6 (s : ByteArray) (w : World) (hs : s.size ≤ 17592186044416) (i : Nat) (hi : i < s.size) (HI : Hid (pl.lidx s.data.toList 58 = (i : Int))) (hbr : (((s[0]'(by omega)).toNat : Int) == 91) = true) (q : Nat) (H1 : Hid (pl.idx s.data.toList 93 = (q : Int))) (hq : q + 1 < s.size) (hqi : (((q : Int) + 1) == (i : Int)) = true) (j2 : Int) (H2 : Hid (pl.idx (s.extract 1 s.size).data.toList 91 = j2)) (hj2 : j2 < 0) (j3 : Int) (H3 : Hid (pl.idx (s.extract (q + 1) s.size).data.toList 93 = j3)) (hj3 : j3 < 0) :
    Calls Tryd.prog 63 #[.string s] w (OkHP (s.extract 1 q) (s.extract (i + 1) s.size) w) := by
  have hpos : 0 < s.size := by omega
  have hq2 : (((q : Int) + 1) == (s.size : Int)) = false := by rw [beq_eq_false_iff_ne]; omega
  have hq3 : 1 ≤ q := by
    rcases q with _ | q
    · exfalso
      have := pl.idx_at s 0 93 H1.out hpos
      rw [beq_iff_eq] at hbr
      omega
    · omega
  go_enter Tryd.func63, Tryd.ntmps63
  go_wp2_with (first | (go_at_call 81; refine (lidx_val s 58 i w HI.out hs).mono ?_; rintro e w' ⟨rfl, rfl⟩) | (go_at_call 80; refine (addr_err _ _ _).mono ?_; rintro e w' ⟨ad, rfl, hb⟩) | (go_at_call 82; ((with_reducible refine (idx_val _ _ _ _ H1.out (by first | omega | (simp; omega))).mono ?_); rintro e w' ⟨rfl, rfl⟩)) | (go_at_call 82; ((with_reducible refine (idx_val _ _ _ _ H2.out (by first | omega | (simp; omega))).mono ?_); rintro e w' ⟨rfl, rfl⟩)) | (go_at_call 82; ((with_reducible refine (idx_val _ _ _ _ H3.out (by first | omega | (simp; omega))).mono ?_); rintro e w' ⟨rfl, rfl⟩)))
  all_goals go_ret3
  all_goals exact ⟨rfl, rfl⟩

set_option maxRecDepth 100000 in
set_option maxHeartbeats 1000000 in
/-- two colons -/
theorem shp_c1 (s : ByteArray) (w : World) (hs : s.size ≤ 17592186044416) (i : Nat) (hi : i < s.size) (HI : Hid (pl.lidx s.data.toList 58 = (i : Int))) (hbr : (((s[0]'(by omega)).toNat : Int) == 91) = false) (k1 : Int) (H1 : Hid (pl.idx (s.extract 0 i).data.toList 58 = k1)) (h1 : 0 ≤ k1) :
    Calls Tryd.prog 63 #[.string s] w (ErrHP w) := by
  have hpos : 0 < s.size := by omega
  go_enter Tryd.func63, Tryd.ntmps63
  go_wp2_with (first | (go_at_call 81; refine (lidx_val s 58 i w HI.out hs).mono ?_; rintro e w' ⟨rfl, rfl⟩) | (go_at_call 80; refine (addr_err _ _ _).mono ?_; rintro e w' ⟨ad, rfl, hb⟩) | (go_at_call 82; ((with_reducible refine (idx_val _ _ _ _ H1.out (by first | omega | (simp; omega))).mono ?_); rintro e w' ⟨rfl, rfl⟩)))
  all_goals go_ret3
  all_goals exact ⟨_, rfl, hb⟩

set_option maxRecDepth 100000 in
set_option maxHeartbeats 1000000 in
/-- an opening bracket -/
theorem shp_c2 (s : ByteArray) (w : World) (hs : s.size ≤ 17592186044416) (i : Nat) (hi : i < s.size) (HI : Hid (pl.lidx s.data.toList 58 = (i : Int))) (hbr : (((s[0]'(by omega)).toNat : Int) == 91) = false) (k1 : Int) (H1 : Hid (pl.idx (s.extract 0 i).data.toList 58 = k1)) (h1 : k1 < 0) (k2 : Int) (H2 : Hid (pl.idx s.data.toList 91 = k2)) (h2 : 0 ≤ k2) :
    Calls Tryd.prog 63 #[.string s] w (ErrHP w) := by
  have hpos : 0 < s.size := by omega
  go_enter Tryd.func63, Tryd.ntmps63
  go_wp2_with (first | (go_at_call 81; refine (lidx_val s 58 i w HI.out hs).mono ?_; rintro e w' ⟨rfl, rfl⟩) | (go_at_call 80; refine (addr_err _ _ _).mono ?_; rintro e w' ⟨ad, rfl, hb⟩) | (go_at_call 82; ((with_reducible refine (idx_val _ _ _ _ H1.out (by first | omega | (simp; omega))).mono ?_); rintro e w' ⟨rfl, rfl⟩)) | (go_at_call 82; ((with_reducible refine (idx_val _ _ _ _ H2.out (by first | omega | (simp; omega))).mono ?_); rintro e w' ⟨rfl, rfl⟩)))
  all_goals go_ret3
  all_goals exact ⟨_, rfl, hb⟩

set_option maxRecDepth 100000 in
set_option maxHeartbeats 1000000 in
/-- a closing bracket -/
theorem shp_c3 (s : ByteArray) (w : World) (hs : s.size ≤ 17592186044416) (i : Nat) (hi : i < s.size) (HI : Hid (pl.lidx s.data.toList 58 = (i : Int))) (hbr : (((s[0]'(by omega)).toNat : Int) == 91) = false) (k1 : Int) (H1 : Hid (pl.idx (s.extract 0 i).data.toList 58 = k1)) (h1 : k1 < 0) (k2 : Int) (H2 : Hid (pl.idx s.data.toList 91 = k2)) (h2 : k2 < 0) (k3 : Int) (H3 : Hid (pl.idx s.data.toList 93 = k3)) (h3 : 0 ≤ k3) :
    Calls Tryd.prog 63 #[.string s] w (ErrHP w) := by
  have hpos : 0 < s.size := by omega
  go_enter Tryd.func63, Tryd.ntmps63
  go_wp2_with (first | (go_at_call 81; refine (lidx_val s 58 i w HI.out hs).mono ?_; rintro e w' ⟨rfl, rfl⟩) | (go_at_call 80; refine (addr_err _ _ _).mono ?_; rintro e w' ⟨ad, rfl, hb⟩) | (go_at_call 82; ((with_reducible refine (idx_val _ _ _ _ H1.out (by first | omega | (simp; omega))).mono ?_); rintro e w' ⟨rfl, rfl⟩)) | (go_at_call 82; ((with_reducible refine (idx_val _ _ _ _ H2.out (by first | omega | (simp; omega))).mono ?_); rintro e w' ⟨rfl, rfl⟩)) | (go_at_call 82; ((with_reducible refine (idx_val _ _ _ _ H3.out (by first | omega | (simp; omega))).mono ?_); rintro e w' ⟨rfl, rfl⟩)))
  all_goals go_ret3
  all_goals exact ⟨_, rfl, hb⟩

set_option maxRecDepth 100000 in
set_option maxHeartbeats 1000000 in
/-- a host without brackets -/
theorem shp_c4 (s : ByteArray) (w : World) (hs : s.size ≤ 17592186044416) (i : Nat) (hi : i < s.size) (HI : Hid (pl.lidx s.data.toList 58 = (i : Int))) (hbr : (((s[0]'(by omega)).toNat : Int) == 91) = false) (k1 : Int) (H1 : Hid (pl.idx (s.extract 0 i).data.toList 58 = k1)) (h1 : k1 < 0) (k2 : Int) (H2 : Hid (pl.idx s.data.toList 91 = k2)) (h2 : k2 < 0) (k3 : Int) (H3 : Hid (pl.idx s.data.toList 93 = k3)) (h3 : k3 < 0) :
    Calls Tryd.prog 63 #[.string s] w (OkHP (s.extract 0 i) (s.extract (i + 1) s.size) w) := by
  have hpos : 0 < s.size := by omega
  go_enter Tryd.func63, Tryd.ntmps63
  go_wp2_with (first | (go_at_call 81; refine (lidx_val s 58 i w HI.out hs).mono ?_; rintro e w' ⟨rfl, rfl⟩) | (go_at_call 80; refine (addr_err _ _ _).mono ?_; rintro e w' ⟨ad, rfl, hb⟩) | (go_at_call 82; ((with_reducible refine (idx_val _ _ _ _ H1.out (by first | omega | (simp; omega))).mono ?_); rintro e w' ⟨rfl, rfl⟩)) | (go_at_call 82; ((with_reducible refine (idx_val _ _ _ _ H2.out (by first | omega | (simp; omega))).mono ?_); rintro e w' ⟨rfl, rfl⟩)) | (go_at_call 82; ((with_reducible refine (idx_val _ _ _ _ H3.out (by first | omega | (simp; omega))).mono ?_); rintro e w' ⟨rfl, rfl⟩)))
  all_goals go_ret3
  all_goals exact ⟨rfl, rfl⟩

end Go.Proofs.YtfkohahlpfejbaaDoor

/- Host2: SplitHostPort as one contract; the thin package's; works. -/
namespace Go.Proofs.YtfkohahlpfejbaaDoor
open Go.RowKit

theorem ret_hp {a b c d : ByteArray} {x y : Bool} (h1 : a = c) (h2 : b = d) (h3 : x = y) : Ending.returned (.tuple #[.string a, .string b, .bool x]) = .returned (.tuple #[.string c, .string d, .bool y]) := by rw [h1, h2, h3]

def HPRes (l : List UInt8) (w : World) (e : Ending) (w' : World) : Prop :=
  (pl.splitHP l = none ∧ ErrHP w e w') ∨ ∃ x, pl.splitHP l = some x ∧ OkHP ⟨x.1.toArray⟩ ⟨x.2.toArray⟩ w e w'

theorem shp_any (s : ByteArray) (w : World) (hs : s.size ≤ 17592186044416) :
    Calls Tryd.prog 63 #[.string s] w (HPRes s.data.toList w) := by
  have hl : s.data.toList.length = s.size := by simp
  have i1 := pl.lidx_lt s.data.toList 58
  by_cases h1 : pl.lidx s.data.toList 58 < 0
  · exact (shp_a s w hs h1).mono fun e w' h => Or.inl ⟨by unfold pl.splitHP; rw [if_pos h1], h⟩
  obtain ⟨i, hi⟩ : ∃ i : Nat, pl.lidx s.data.toList 58 = (i : Int) := ⟨(pl.lidx s.data.toList 58).toNat, by omega⟩
  have hil : i < s.size := by omega
  have hhd : s.data.toList.head? = some (s[0]'(by omega)) := by
    rw [List.head?_eq_getElem?]; exact pl.getElem_data s 0 (by omega)
  have HI := Lib.hid hi
  have q1 := pl.idx_lt s.data.toList 93
  have q2 := pl.idx_ge_neg s.data.toList 93
  rcases hbr : (((s[0]'(by omega)).toNat : Int) == 91) with _ | _
  · have hne : s.data.toList.head? ≠ some 91 := by
      rw [hhd]
      intro e
      injection e with e
      rw [e] at hbr
      exact absurd hbr (by decide)
    have E1 : (s.extract 0 i).data.toList = s.data.toList.take (pl.lidx s.data.toList 58).toNat := by
      rw [hi, pl.ext_take]; rfl
    by_cases k1 : 0 ≤ pl.idx (s.extract 0 i).data.toList 58
    · refine (shp_c1 s w hs i hil HI hbr _ (Lib.hid rfl) k1).mono fun e w' h => Or.inl ⟨?_, h⟩
      unfold pl.splitHP
      rw [if_neg h1, if_neg hne, if_pos (by rw [← E1]; exact k1)]
    by_cases k2 : 0 ≤ pl.idx s.data.toList 91
    · refine (shp_c2 s w hs i hil HI hbr _ (Lib.hid rfl) (by omega) _ (Lib.hid rfl) k2).mono fun e w' h => Or.inl ⟨?_, h⟩
      unfold pl.splitHP
      rw [if_neg h1, if_neg hne, if_neg (by rw [← E1]; exact k1), if_pos k2]
    by_cases k3 : 0 ≤ pl.idx s.data.toList 93
    · refine (shp_c3 s w hs i hil HI hbr _ (Lib.hid rfl) (by omega) _ (Lib.hid rfl) (by omega) _ (Lib.hid rfl) k3).mono fun e w' h => Or.inl ⟨?_, h⟩
      unfold pl.splitHP
      rw [if_neg h1, if_neg hne, if_neg (by rw [← E1]; exact k1), if_neg k2, if_pos k3]
    · refine (shp_c4 s w hs i hil HI hbr _ (Lib.hid rfl) (by omega) _ (Lib.hid rfl) (by omega) _ (Lib.hid rfl) (by omega)).mono fun e w' h => Or.inr ⟨(s.data.toList.take i, s.data.toList.drop (i + 1)), ?_, ?_⟩
      · unfold pl.splitHP
        rw [if_neg h1, if_neg hne, if_neg (by rw [← E1]; exact k1), if_neg k2, if_neg k3, hi]
        rfl
      · rw [pl.ext_take, pl.ext_drop] at h
        exact h
  · have he : s.data.toList.head? = some 91 := by
      rw [hhd]
      congr 1
      apply UInt8.toNat_inj.1
      rw [beq_iff_eq] at hbr
      have : (91 : UInt8).toNat = 91 := rfl
      omega
    by_cases k1 : pl.idx s.data.toList 93 < 0
    · refine (shp_b1 s w hs i hil HI hbr _ k1 (Lib.hid rfl)).mono fun e w' h => Or.inl ⟨?_, h⟩
      unfold pl.splitHP
      rw [if_neg h1, if_pos he, if_pos k1]
    obtain ⟨q, hq⟩ : ∃ q : Nat, pl.idx s.data.toList 93 = (q : Int) := ⟨(pl.idx s.data.toList 93).toNat, by omega⟩
    have HQ := Lib.hid hq
    by_cases k2 : q + 1 = s.size
    · refine (shp_b2 s w hs i hil HI hbr q HQ k2).mono fun e w' h => Or.inl ⟨?_, h⟩
      unfold pl.splitHP
      rw [if_neg h1, if_pos he, if_neg k1, if_pos (by omega)]
    by_cases k3 : q + 1 = i
    · have hqi : (((q : Int) + 1) == (i : Int)) = true := by rw [beq_iff_eq]; omega
      have E2 : (s.extract 1 s.size).data.toList = s.data.toList.drop 1 := by rw [pl.ext_drop]
      have E3 : (s.extract (q + 1) s.size).data.toList = s.data.toList.drop (pl.idx s.data.toList 93 + 1).toNat := by
        rw [hq, pl.ext_drop, show ((q : Int) + 1).toNat = q + 1 by omega]
      by_cases k4 : 0 ≤ pl.idx (s.extract 1 s.size).data.toList 91
      · refine (shp_b4 s w hs i hil HI hbr q HQ (by omega) hqi _ (Lib.hid rfl) k4).mono fun e w' h => Or.inl ⟨?_, h⟩
        unfold pl.splitHP
        rw [if_neg h1, if_pos he, if_neg k1, if_neg (by omega), if_neg (by omega), if_pos (by rw [← E2]; exact k4)]
      by_cases k5 : 0 ≤ pl.idx (s.extract (q + 1) s.size).data.toList 93
      · refine (shp_b5 s w hs i hil HI hbr q HQ (by omega) hqi _ (Lib.hid rfl) (by omega) _ (Lib.hid rfl) k5).mono fun e w' h => Or.inl ⟨?_, h⟩
        unfold pl.splitHP
        rw [if_neg h1, if_pos he, if_neg k1, if_neg (by omega), if_neg (by omega), if_neg (by rw [← E2]; exact k4), if_pos (by rw [← E3]; exact k5)]
      · refine (shp_b6 s w hs i hil HI hbr q HQ (by omega) hqi _ (Lib.hid rfl) (by omega) _ (Lib.hid rfl) (by omega)).mono fun e w' h => Or.inr ⟨((s.data.toList.take q).drop 1, s.data.toList.drop (i + 1)), ?_, ?_⟩
        · unfold pl.splitHP
          rw [if_neg h1, if_pos he, if_neg k1, if_neg (by omega), if_neg (by omega), if_neg (by rw [← E2]; exact k4), if_neg (by rw [← E3]; exact k5), hi, hq]
          rfl
        · rw [pl.ext_mid, pl.ext_drop] at h
          exact h
    · have hqi : (((q : Int) + 1) == (i : Int)) = false := by rw [beq_eq_false_iff_ne]; omega
      refine (shp_b3 s w hs i hil HI hbr q HQ (by omega) hqi).mono fun e w' h => Or.inl ⟨?_, h⟩
      unfold pl.splitHP
      rw [if_neg h1, if_pos he, if_neg k1, if_neg (by omega), if_pos (by omega)]

/-- what the thin package returns -/
def resHP (l : List UInt8) : List UInt8 × List UInt8 × Bool := match pl.splitHP l with | none => ([], [], false) | some x => (x.1, x.2, true)

set_option maxHeartbeats 400000 in
theorem shp_impl (s : ByteArray) (w : World) (hs : s.size ≤ 17592186044416) :
    Calls Tryd.prog 45 #[.string s] w fun e w' => e = .returned (.tuple #[.string ⟨(resHP s.data.toList).1.toArray⟩, .string ⟨(resHP s.data.toList).2.1.toArray⟩, .bool (resHP s.data.toList).2.2]) ∧ Below w.heap.size w w' := by
  go_enter Tryd.func45, Tryd.ntmps45
  go_wp2_with fail
  refine (shp_any s w hs).mono ?_
  rintro e w' (⟨hn, ad, rfl, hb⟩ | ⟨x, hx, rfl, rfl⟩)
  · have HE := Lib.hid (show resHP s.data.toList = ([], [], false) by unfold resHP; rw [hn])
    clear hn
    go_wp2
    go_quiet (fail)
    go_wp2
    go_ret3
    rw [HE.out]
    exact ⟨rfl, below_drewN hb _⟩
  · have HE := Lib.hid (show resHP s.data.toList = (x.1, x.2, true) by unfold resHP; rw [hx])
    clear hx
    go_wp2
    go_quiet (fail)
    go_wp2
    go_ret3
    rw [HE.out]
    exact ⟨rfl, below_drewN (Below.refl _ _) _⟩

theorem bel_d {w w' : World} {n : Nat} (h : Below (w.drewN n).heap.size (w.drewN n) w') : Below w.heap.size w w' :=
  (below_drewN (Below.refl _ _) n).trans (h.mono (by simp))

theorem works_any (w : World) :
    Calls Tryd.prog 16 #[] w fun e w' => e = .returned (.bool true) ∧ Below w.heap.size w w' := by
  have hc : resHP [97, 58, 49] = ([97], [49], true) := by decide
  go_enter Tryd.func16, Tryd.ntmps16
  go_wp2_with (go_at_call 45; refine (shp_impl _ _ (by simp [ByteArray.size])).mono ?_; rintro e w' ⟨rfl, hb⟩)
  go_ret
  exact ⟨rfl, hb⟩

end Go.Proofs.YtfkohahlpfejbaaDoor

/- PlTrip: PLAIN: the text of an address is read again. -/
namespace Go.Proofs.YtfkohahlpfejbaaDoor.pl

def ung (g : List Nat) : List UInt8 := g.flatMap (fun x => [UInt8.ofNat (x / 256), UInt8.ofNat x])
theorem ung_gs : ∀ (n : Nat) (b : List UInt8), b.length = 2 * n → ung (gs b) = b
  | 0, b, h => by rw [List.eq_nil_of_length_eq_zero (by omega : b.length = 0)]; rfl
  | n + 1, [], h => by simp at h
  | n + 1, [_], h => by simp at h; omega
  | n + 1, x :: y :: r, h => by
    have h1 := UInt8.toNat_lt x
    have h2 := UInt8.toNat_lt y
    have e1 : UInt8.ofNat ((x.toNat * 256 + y.toNat) / 256) = x := by
      rw [show (x.toNat * 256 + y.toNat) / 256 = x.toNat by omega]; exact UInt8.ofNat_toNat
    have e2 : UInt8.ofNat (x.toNat * 256 + y.toNat) = y := by
      apply UInt8.toNat_inj.1
      rw [UInt8.toNat_ofNat']
      omega
    show UInt8.ofNat ((x.toNat * 256 + y.toNat) / 256) :: UInt8.ofNat (x.toNat * 256 + y.toNat) :: ung (gs r) = _
    rw [e1, e2, ung_gs n r (by simp at h; omega)]

theorem num_hex : ∀ (k : Nat) (n : Nat), n < 16 ^ (k + 1) → k < 4 → (num 16 n).all isHex = true ∧ 1 ≤ (num 16 n).length ∧ (num 16 n).length ≤ k + 1 ∧ hexV 0 (num 16 n) = n
  | 0, n, h, _ => by
    have h16 : n < 16 := by simpa using h
    rw [num_step 16 n (by decide) (by omega), if_pos (by omega)]
    have e : n % 16 = n := by omega
    rw [e]
    have := hx_not n h16
    refine ⟨by simp [this.2.2.1], by simp, by simp, ?_⟩
    show 0 * 16 + (hexv (hx n)).getD 0 = n
    rw [this.2.2.2]; simp
  | k + 1, n, h, hk => by
    have h63 : (16 : Nat) ^ (k + 1 + 1) ≤ 16 ^ 5 := Nat.pow_le_pow_right (by omega) (by omega)
    have h5 : (16 : Nat) ^ 5 = 1048576 := by decide
    have h16 := hx_not (n % 16) (by omega)
    rw [num_step 16 n (by decide) (by omega)]
    by_cases h0 : n / 16 = 0
    · rw [if_pos h0]
      refine ⟨by simp [h16.2.2.1], by simp, by simp, ?_⟩
      show 0 * 16 + (hexv (hx (n % 16))).getD 0 = n
      rw [h16.2.2.2]; simp; omega
    · rw [if_neg h0]
      obtain ⟨i1, i2, i3, i4⟩ := num_hex k (n / 16) (by rw [Nat.pow_succ] at h; omega) (by omega)
      refine ⟨by simp only [List.all_append, i1, List.all_cons, h16.2.2.1, List.all_nil]; rfl, by rw [List.length_append]; omega, by rw [List.length_append]; simp; omega, ?_⟩
      rw [hexV_snoc, i4, h16.2.2.2, Option.getD_some]; omega
theorem okG_num (n : Nat) (h : n < 65536) : okG (num 16 n) := by
  obtain ⟨h1, h2, h3, _⟩ := num_hex 3 n (by simpa using h) (by decide)
  exact ⟨h1, h2, h3⟩
theorem grp_num (n : Nat) (h : n < 65536) : grp (num 16 n) = [UInt8.ofNat (n / 256), UInt8.ofNat n] := by
  obtain ⟨_, _, _, h4⟩ := num_hex 3 n (by simpa using h) (by decide)
  unfold grp
  rw [h4]
theorem num_head (n : Nat) (h : n < 65536) (r : List UInt8) : (num 16 n ++ r).head? ≠ some 58 := by
  have hc := hex_noC _ (okG_num n h).1
  have h1 := (okG_num n h).2.1
  cases hn : num 16 n with
  | nil => rw [hn] at h1; simp at h1
  | cons x t =>
    rw [hn] at hc
    have := (isC' x).1 (hc x (by simp))
    simpa using this
theorem jn_head (g : List Nat) (hs : small g) (hg : g ≠ []) (r : List UInt8) : (jn g ++ r).head? ≠ some 58 := by
  cases g with
  | nil => exact absurd rfl hg
  | cons x t =>
    cases t with
    | nil => exact num_head x (hs x (by simp)) r
    | cons y t => rw [jn, List.append_assoc]; exact num_head x (hs x (by simp)) _

theorem rest6_jn (ell : Option Nat) : ∀ (g : List Nat) (acc : List UInt8), small g → g ≠ [] → rest6 acc ell (jn g) = fin6 (acc ++ ung g) ell
  | [], _, _, h => absurd rfl h
  | [x], acc, hs, _ => by
    have hx := hs x (by simp)
    show rest6 acc ell (num 16 x) = _
    rw [rest6_end acc ell _ (okG_num x hx), grp_num x hx]; rfl
  | x :: y :: r, acc, hs, _ => by
    have hx := hs x (by simp)
    have hs' : small (y :: r) := fun z hz => hs z (by simp at hz ⊢; exact .inr hz)
    rw [jn, rest6_group acc ell _ _ (okG_num x hx) (by have := jn_head (y :: r) hs' (by simp) []; rwa [List.append_nil] at this), rest6_jn ell (y :: r) _ hs' (by simp), grp_num x hx]
    rw [show ung (x :: y :: r) = [UInt8.ofNat (x / 256), UInt8.ofNat x] ++ ung (y :: r) from rfl, List.append_assoc]
theorem ung_len (g : List Nat) : (ung g).length = 2 * g.length := by
  induction g with
  | nil => rfl
  | cons a g ih => show (ung g).length + 1 + 1 = _; rw [ih, List.length_cons]; omega
theorem rest6_jn_dd (t : List Nat) (ht : small t) : ∀ (g : List Nat) (acc : List UInt8), small g → g ≠ [] → rest6 acc none (jn g ++ 58 :: 58 :: jn t) = fin6 (acc ++ ung g ++ ung t) (some (acc.length + 2 * g.length))
  | [], _, _, h => absurd rfl h
  | [x], acc, hs, _ => by
    have hx := hs x (by simp)
    show rest6 acc none (num 16 x ++ _) = _
    by_cases h0 : t = []
    · subst h0
      show rest6 acc none (num 16 x ++ [58, 58]) = _
      rw [rest6_dd_end acc _ (okG_num x hx), grp_num x hx]
      show _ = fin6 (acc ++ _ ++ []) _
      rw [List.append_nil]; rfl
    · rw [rest6_dd acc _ _ (okG_num x hx) (fun e => h0 (jn_none t ht e)), rest6_jn _ t _ ht h0, grp_num x hx]; rfl
  | x :: y :: r, acc, hs, _ => by
    have hx := hs x (by simp)
    have hs' : small (y :: r) := fun z hz => hs z (by simp at hz ⊢; exact .inr hz)
    rw [jn, List.append_assoc, List.cons_append, rest6_group acc none _ _ (okG_num x hx) (jn_head (y :: r) hs' (by simp) _), rest6_jn_dd t ht (y :: r) _ hs' (by simp), grp_num x hx]
    have e : acc ++ [UInt8.ofNat (x / 256), UInt8.ofNat x] ++ ung (y :: r) = acc ++ ung (x :: y :: r) := by
      rw [show ung (x :: y :: r) = [UInt8.ofNat (x / 256), UInt8.ofNat x] ++ ung (y :: r) from rfl, List.append_assoc]
    rw [e]
    congr 2
    simp only [List.length_append, List.length_cons, List.length_nil]
    omega

theorem ung_app (g h : List Nat) : ung (g ++ h) = ung g ++ ung h := by unfold ung; rw [List.flatMap_append]
theorem ung_zero (n : Nat) : ung (List.replicate n 0) = List.replicate (2 * n) 0 := by
  induction n with
  | zero => rfl
  | succ n ih =>
    show UInt8.ofNat (0 / 256) :: UInt8.ofNat 0 :: ung (List.replicate n 0) = _
    rw [ih, show 2 * (n + 1) = 2 * n + 1 + 1 by omega, List.replicate_succ, List.replicate_succ]
    rfl
theorem tx_addr (b : List UInt8) (hb : b.length = 16) : rest6 [] none (text6 b) = some b := by
  have hl := gs_len 8 b hb
  have hs : small (gs b) := gs_lt 16 b (by omega)
  have hu := ung_gs 8 b hb
  have hnil : ∀ g : List UInt8, g.length = 16 → fin6 g none = some g := fun g h => by unfold fin6; rw [if_pos h]
  unfold text6 tx
  rcases best_ok (gs b) hl 8 (Nat.le_refl _) with e | ⟨h1, h2, h3, h4⟩
  · rw [e, if_pos (Nat.le_refl _), List.take_of_length_le (by omega), rest6_jn none (gs b) [] hs (by intro e; rw [e] at hl; simp at hl), hu]
    exact hnil b hb
  · obtain ⟨a, ha⟩ : ∃ a, (best (gs b) 8).1 = a := ⟨_, rfl⟩
    obtain ⟨l, hl2⟩ : ∃ l, (best (gs b) 8).2 = l := ⟨_, rfl⟩
    rw [ha] at h1 h3 h4 ⊢
    rw [hl2] at h2 h3 h4 ⊢
    have htk : (gs b).take 8 = gs b := List.take_of_length_le (by omega)
    rw [if_neg (by omega), htk]
    have hz : (gs b).drop a = List.replicate l 0 ++ (gs b).drop (a + l) := by
      rw [← List.take_append_drop l ((gs b).drop a), List.drop_drop]
      congr 1
      apply List.ext_getElem?
      intro j
      rw [List.getElem?_take, List.getElem?_replicate]
      by_cases hj : j < l
      · rw [if_pos hj, if_pos hj, List.getElem?_drop]
        exact run0_all (gs b) a j (by omega)
      · rw [if_neg hj, if_neg hj]
    have hall : gs b = (gs b).take a ++ (List.replicate l 0 ++ (gs b).drop (a + l)) := by rw [← hz, List.take_append_drop]
    have hst : small ((gs b).drop (a + l)) := fun x hx => hs x (List.mem_of_mem_drop hx)
    have hst2 : small ((gs b).take a) := fun x hx => hs x (List.mem_of_mem_take hx)
    have hb2 : b = ung ((gs b).take a) ++ (List.replicate (2 * l) 0 ++ ung ((gs b).drop (a + l))) := by
      conv => lhs; rw [← hu, hall]
      rw [ung_app, ung_app, ung_zero]
    have l1 : (ung ((gs b).take a)).length = 2 * a := by rw [ung_len, List.length_take]; omega
    have l2 : (ung ((gs b).drop (a + l))).length = 16 - 2 * (a + l) := by rw [ung_len, List.length_drop]; omega
    have hfin : fin6 (ung ((gs b).take a) ++ ung ((gs b).drop (a + l))) (some (2 * a)) = some b := by
      show (if _ then _ else _) = _
      rw [if_pos (by rw [List.length_append]; omega), ← l1, List.take_left, List.drop_left, List.length_append, l1, l2, show 16 - (2 * a + (16 - 2 * (a + l))) = 2 * l by omega, List.append_assoc, ← hb2]
    by_cases h0 : a = 0
    · subst h0
      rw [List.take_zero]
      show rest6 [] none (58 :: 58 :: jn ((gs b).drop (0 + l))) = _
      by_cases ht : (gs b).drop (0 + l) = []
      · have : l = 8 := by have := congrArg List.length ht; rw [List.length_drop, List.length_nil] at this; omega
        subst this
        rw [ht] at hfin ⊢
        exact hfin
      · rw [rest6_lead _ (fun e => ht (jn_none _ hst e)), rest6_jn _ _ _ hst ht]
        exact hfin
    · have hne : (gs b).take a ≠ [] := take_ne _ _ h0 (by omega)
      rw [List.append_assoc]
      show rest6 [] none (jn _ ++ 58 :: 58 :: jn _) = _
      rw [rest6_jn_dd _ hst _ [] hst2 hne, List.length_take, show min a (gs b).length = a by omega, List.nil_append, List.length_nil, Nat.zero_add]
      exact hfin
theorem text6_colon (b : List UInt8) (hb : b.length = 16) : 58 ∈ text6 b := by
  have hl := gs_len 8 b hb
  unfold text6 tx
  rcases best_ok (gs b) hl 8 (Nat.le_refl _) with e | ⟨h1, h2, h3, h4⟩
  · rw [e, if_pos (Nat.le_refl _), List.take_of_length_le (by omega)]
    match h : gs b, hl with
    | x :: y :: r, _ => simp [jn]
    | [x], hl => simp at hl
    | [], hl => simp at hl
  · rw [if_neg (by omega)]; simp

theorem oct_num (x : UInt8) : oct (num 10 x.toNat) = some x ∧ (num 10 x.toNat).all dg = true ∧ 1 ≤ (num 10 x.toNat).length ∧ (num 10 x.toNat).length ≤ 3 := by
  have : ∀ n : Fin 256, (oct (num 10 n.val) = some (UInt8.ofNat n.val) ∧ (num 10 n.val).all dg = true ∧ 1 ≤ (num 10 n.val).length ∧ (num 10 n.val).length ≤ 3) := by decide +kernel
  have h := this ⟨x.toNat, UInt8.toNat_lt x⟩
  rwa [show UInt8.ofNat (⟨x.toNat, UInt8.toNat_lt x⟩ : Fin 256).val = x from UInt8.ofNat_toNat] at h
theorem dots_four (b : List UInt8) (hb : b.length = 4) : four (dots b) = some b := by
  match b, hb with
  | [x, y, z, u], _ =>
    have hx := oct_num x
    have hy := oct_num y
    have hz := oct_num z
    have hu := oct_num u
    rw [← rest4_start]
    show rest4 [] [] (num 10 x.toNat ++ _) = _
    have go : ∀ (cur p rest done : List UInt8), p.all dg = true → rest4 done cur (p ++ rest) = rest4 done (cur ++ p) rest := by
      intro cur p
      induction p generalizing cur with
      | nil => intro rest done _; simp
      | cons c p ih =>
        intro rest done h
        rw [List.all_cons, Bool.and_eq_true] at h
        rw [List.cons_append, rest4_digit, ih _ _ _ h.2]
        simp
    have one : ∀ (c : UInt8) (done rest : List UInt8), rest4 done [] (num 10 c.toNat ++ 46 :: rest) = rest4 (done ++ [c]) [] rest := by
      intro c done rest
      have hc := oct_num c
      rw [go _ _ _ _ hc.2.1, List.nil_append, rest4_dot _ _ _ hc.2.1, hc.1]
    rw [one, one, one]
    have e := go [] (num 10 u.toNat) [] ([] ++ [x] ++ [y] ++ [z]) hu.2.1
    rw [List.append_nil, List.nil_append] at e
    show rest4 ([x] ++ [y] ++ [z]) [] (num 10 u.toNat) = _
    rw [e, List.nil_append, rest4_end _ _ hu.2.1, hu.1]
    rfl
theorem dots_okG (x : UInt8) : okG (num 10 x.toNat) := by
  have h := oct_num x
  refine ⟨?_, h.2.2.1, by omega⟩
  rw [List.all_eq_true]
  intro y hy
  exact isHex_dg y (by have := h.2.1; rw [List.all_eq_true] at this; exact this y hy)
theorem mapped_eq (b : List UInt8) (h : mapped b = true) : b = pre12 ++ b.drop 12 := by
  unfold mapped at h
  rw [beq_iff_eq] at h
  rw [← h, List.take_append_drop]
theorem text_addr (b : List UInt8) (h : b.length = 4 ∨ b.length = 16) : addr (text b) = some b := by
  unfold text
  rcases h with h | h
  · rw [if_pos h]
    unfold addr
    rw [dots_four b h]
  · rw [if_neg (by omega)]
    by_cases hm : mapped b = true
    · rw [if_pos hm, ← rest6_all _ (four_colon _ (by simp))]
      have hd : (b.drop 12).length = 4 := by rw [List.length_drop]; omega
      have hf := dots_four _ hd
      have he := mapped_eq b hm
      match h4 : b.drop 12, hd with
      | [x, y, z, u], _ =>
        rw [h4] at hf he
        show rest6 [] none (58 :: 58 :: ([102, 102, 102, 102] ++ 58 :: dots [x, y, z, u])) = _
        have hdx : dots [x, y, z, u] = num 10 x.toNat ++ 46 :: (num 10 y.toNat ++ 46 :: (num 10 z.toNat ++ 46 :: num 10 u.toNat)) := rfl
        have hok := dots_okG x
        have hh : (dots [x, y, z, u]).head? ≠ some 58 := by
          rw [hdx]
          have hc := hex_noC _ hok.1
          cases hn : num 10 x.toNat with
          | nil => have := hok.2.1; rw [hn] at this; simp at this
          | cons c t =>
            rw [hn] at hc
            have := (isC' c).1 (hc c (by simp))
            simpa using this
        rw [rest6_lead _ (by simp), rest6_group [] (some 0) [102, 102, 102, 102] _ (by unfold okG; decide) hh]
        rw [hdx, rest6_dot _ _ _ _ hok, ← hdx, hf]
        show fin6 ([] ++ grp [102, 102, 102, 102] ++ [x, y, z, u]) (some 0) = some b
        rw [he]
        rfl
    · rw [if_neg hm, ← rest6_all _ (four_colon _ (text6_colon b h))]
      exact tx_addr b h

end Go.Proofs.YtfkohahlpfejbaaDoor.pl

/- Net1: WALKS: net/netip's small functions. -/
namespace Go.Proofs.YtfkohahlpfejbaaDoor
open Go.RowKit

/-- the variables of net/netip: z0 (nil), z4, z6noz -/
structure IpVars (w : World) (g4 o4 g6 o6 : Nat) : Prop where
  z0 : w.cell? ⟨0, 0, none⟩ = some (.pointer none)
  z4 : w.cell? ⟨1, 0, none⟩ = some (.pointer (some ⟨g4, o4, none⟩))
  z6 : w.cell? ⟨2, 0, none⟩ = some (.pointer (some ⟨g6, o6, none⟩))
  ne : ¬ (g4 = g6 ∧ o4 = o6)
  a4 : w.cell? ⟨g4, o4 + 1, none⟩ = some (.string ⟨#[]⟩)
  a6 : w.cell? ⟨g6, o6 + 1, none⟩ = some (.string ⟨#[]⟩)
  b4 : w.cell? ⟨g4, o4, none⟩ = some (.bool false)
  b6 : w.cell? ⟨g6, o6, none⟩ = some (.bool true)
  h4 : ∃ c t, w.heap[g4]? = some (.cells c t (0, 0))
  h6 : ∃ c t, w.heap[g6]? = some (.cells c t (0, 0))

theorem cell_lt {w : World} {g o : Nat} {v : Value} (h : w.cell? ⟨g, o, none⟩ = some v) : g < w.heap.size := by
  rcases Nat.lt_or_ge g w.heap.size with h' | h'
  · exact h'
  · simp [World.cell?, Array.getElem?_eq_none h'] at h

theorem IpVars.below {w w' : World} {g4 o4 g6 o6 : Nat} (h : IpVars w g4 o4 g6 o6) {B : Nat} (hb : Below B w w') (hB : w.heap.size ≤ B) : IpVars w' g4 o4 g6 o6 := by
  have k : ∀ {g o : Nat} {v : Value}, w.cell? ⟨g, o, none⟩ = some v → w'.cell? ⟨g, o, none⟩ = some v := fun {g o v} hc => by
    rw [← hc]; simp only [World.cell?, hb.block g (Nat.lt_of_lt_of_le (cell_lt hc) hB)]
  have j : ∀ {g : Nat}, (∃ c t, w.heap[g]? = some (Obj.cells c t (0, 0))) → ∃ c t, w'.heap[g]? = some (Obj.cells c t (0, 0)) := fun {g} ⟨c, t, hc⟩ => ⟨c, t, by rw [hb.block g (Nat.lt_of_lt_of_le (Array.getElem?_eq_some_iff.1 hc).1 hB)]; exact hc⟩
  exact ⟨k h.z0, k h.z4, k h.z6, h.ne, k h.a4, k h.a6, k h.b4, k h.b6, j h.h4, j h.h6⟩

theorem cell_new_old {W : World} {a : Addr} {v : Value} (o : Obj) (h : W.cell? a = some v) : (W.alloc o).cell? a = some v := by
  have hb : a.block < W.heap.size := by
    rcases Nat.lt_or_ge a.block W.heap.size with h' | h'
    · exact h'
    · simp [World.cell?, Array.getElem?_eq_none h'] at h
  exact (World.cell?_alloc_old (w := W) (a := a) (o := o) (by omega)).trans h

/-- a struct of three cells is stored -/
theorem set3 {V : World} {g : Nat} {ty : TypeId} {y0 y1 y2 : Value} (x0 x1 x2 : Value) (h : Blk V g #[y0, y1, y2] ty) :
    Blk (((V.setCell ⟨g, 0, none⟩ x0).setCell ⟨g, 1, none⟩ x1).setCell ⟨g, 2, none⟩ x2) g #[x0, x1, x2] ty ∧ (∀ B w0, Below B w0 V → B ≤ g → Below B w0 (((V.setCell ⟨g, 0, none⟩ x0).setCell ⟨g, 1, none⟩ x1).setCell ⟨g, 2, none⟩ x2)) ∧ (∀ g' k v, g' ≠ g → V.cell? ⟨g', k, none⟩ = some v → (((V.setCell ⟨g, 0, none⟩ x0).setCell ⟨g, 1, none⟩ x1).setCell ⟨g, 2, none⟩ x2).cell? ⟨g', k, none⟩ = some v) := by
  have h1 : Blk (V.setCell ⟨g, 0, none⟩ x0) g #[x0, y1, y2] ty := h.set 0 x0
  have h2 : Blk ((V.setCell ⟨g, 0, none⟩ x0).setCell ⟨g, 1, none⟩ x1) g #[x0, x1, y2] ty := h1.set 1 x1
  have h3 : Blk (((V.setCell ⟨g, 0, none⟩ x0).setCell ⟨g, 1, none⟩ x1).setCell ⟨g, 2, none⟩ x2) g #[x0, x1, x2] ty := h2.set 2 x2
  refine ⟨h3, ?_, ?_⟩
  · intro B w0 hb hg
    exact ((hb.setCell (p := ⟨g, 0, none⟩) hg x0).setCell (p := ⟨g, 1, none⟩) hg x1).setCell (p := ⟨g, 2, none⟩) hg x2
  · intro g' k v hne hc
    rw [← hc]
    simp only [World.cell?, setCell_far _ _ _ _ _ (Ne.symm hne)]

theorem blk3 {V : World} {g : Nat} {ty : TypeId} {y0 y1 y2 : Value} (h : Blk V g #[y0, y1, y2] ty) :
    V.cell? ⟨g, 0, none⟩ = some y0 ∧ V.cell? ⟨g, 1, none⟩ = some y1 ∧ V.cell? ⟨g, 2, none⟩ = some y2 ∧ V.frozen? ⟨g, 0, none⟩ = false ∧ V.frozen? ⟨g, 1, none⟩ = false ∧ V.frozen? ⟨g, 2, none⟩ = false :=
  ⟨h.cell 0, h.cell 1, h.cell 2, h.frozen 0, h.frozen 1, h.frozen 2⟩

theorem results_cell_tmp_row {P : Program} {fn : Func} {p u : Tmp} {ty : TypeId} (h : fn.results = #[.cell p ty, .tmp u]) (tmps : Array Value) (w : World) (g : Nat) (t : TypeId) (cs : Array Value) (d : TypeDesc) (x : Value)
    (hp : tmps.getD p undef = .pointer (some ⟨g, 0, none⟩)) (hx : tmps.getD u undef = x) (hg : Blk w g cs t)
    (hu : P.underlying ty = some d) (hd : (match d with | .struct _ | .array _ _ => true | _ => false) = true) (hi : (P.info? ty).map (·.size) = some cs.size) :
    (results fn tmps).run P w = .ok (.tuple #[.agg cs, x]) w := by
  rw [results_cell_tmp h, hp, hx]
  simp [asAddr, run_loadVar_row w g t ty cs (0, 0) d hg hu hd hi, Result.andThen]

def pl.be (l : List UInt8) : Nat := l.foldl (fun n b => n * 256 + b.toNat) 0
theorem u64_hi (i : Nat) (x y : Int) (hx₀ : 0 ≤ x) (hx : x % 2 ^ i = 0) (hx₁ : x < 2 ^ 64) (hy₀ : 0 ≤ y) (hy : y < 2 ^ i) (hi : i ≤ 64) : bits .or .u64 x y = x + y :=
  bits_join .u64 64 (by decide) wraps_u64 i x y hx₀ hx hx₁ hy₀ hy (Int.lt_of_lt_of_le hy (by exact_mod_cast Nat.pow_le_pow_right (by decide) hi))
theorem u64_hi32 (x y : Int) (hx₀ : 0 ≤ x) (hx : x % 4294967296 = 0) (hx₁ : x < 18446744073709551616) (hy₀ : 0 ≤ y) (hy : y < 4294967296) : bits .or .u64 x y = x + y := u64_hi 32 x y hx₀ hx hx₁ hy₀ hy (by decide)
theorem u64_hi24 (x y : Int) (hx₀ : 0 ≤ x) (hx : x % 16777216 = 0) (hx₁ : x < 18446744073709551616) (hy₀ : 0 ≤ y) (hy : y < 16777216) : bits .or .u64 x y = x + y := u64_hi 24 x y hx₀ hx hx₁ hy₀ hy (by decide)
theorem u64_hi16 (x y : Int) (hx₀ : 0 ≤ x) (hx : x % 65536 = 0) (hx₁ : x < 18446744073709551616) (hy₀ : 0 ≤ y) (hy : y < 65536) : bits .or .u64 x y = x + y := u64_hi 16 x y hx₀ hx hx₁ hy₀ hy (by decide)
theorem u64_hi8 (x y : Int) (hx₀ : 0 ≤ x) (hx : x % 256 = 0) (hx₁ : x < 18446744073709551616) (hy₀ : 0 ≤ y) (hy : y < 256) : bits .or .u64 x y = x + y := u64_hi 8 x y hx₀ hx hx₁ hy₀ hy (by decide)
theorem IpVars.alloc {w : World} {g4 o4 g6 o6 : Nat} (h : IpVars w g4 o4 g6 o6) (o : Obj) : IpVars (w.alloc o) g4 o4 g6 o6 :=
  h.below ((Below.refl w.heap.size w).alloc (Nat.le_refl _) o) (Nat.le_refl _)
/-- whether two of the variables' addresses are one -/
theorem ptr_same_any {P : Program} (d : Nat) (w : World) (t e : TypeId) (j : TypeInfo) (a : Addr) (hu : P.underlying t = some (.pointer e)) (hj : P.info? e = some j) : (Op.equalIn (d + 1) t (.pointer (some a)) (.pointer (some a))).run P w = .ok true w := by
  simp [Op.equalIn, run_underlying hu, typeInfo, sizeOf, run_sameAddr_same, hj]
theorem ptr_nil_any {P : Program} (d : Nat) (w : World) (t e : TypeId) (a : Addr) (hu : P.underlying t = some (.pointer e)) : (Op.equalIn (d + 1) t (.pointer (some a)) (.pointer none)).run P w = .ok false w := by
  simp [Op.equalIn, run_underlying hu]
theorem ptr_other_any {P : Program} (d : Nat) (w : World) (t e : TypeId) (j : TypeInfo) (a b : Addr) (hu : P.underlying t = some (.pointer e)) (hj : P.info? e = some j) (hj0 : j.size ≠ 0) (hne : a ≠ b) (h4 : ∃ c t, w.heap[a.block]? = some (.cells c t (0, 0))) (h6 : ∃ c t, w.heap[b.block]? = some (.cells c t (0, 0))) :
    (Op.equalIn (d + 1) t (.pointer (some a)) (.pointer (some b))).run P w = .ok false w := by
  obtain ⟨c4, t4, h4⟩ := h4
  obtain ⟨c6, t6, h6⟩ := h6
  simp [Op.equalIn, run_underlying hu, typeInfo, sizeOf, hj, hj0, run_sameAddr_other w hne h4 h6]
theorem detail_under : Tryd.prog.underlying 115 = some (.pointer 146) := by kernel_rfl
theorem detail_info : ∃ j, Tryd.prog.info? 146 = some j ∧ j.size = 2 := by
  have h : (Tryd.prog.info? 146).map (·.size) = some 2 := by kernel_rfl
  generalize Tryd.prog.info? 146 = x at h
  cases x with
  | none => cases h
  | some j => injection h with h; exact ⟨j, rfl, h⟩
theorem ptr_same (w : World) (a : Addr) : (Op.equalIn 9999 115 (.pointer (some a)) (.pointer (some a))).run Tryd.prog w = .ok true w := by
  obtain ⟨j, hj, _⟩ := detail_info
  exact ptr_same_any 9998 w _ _ j a detail_under hj
theorem ptr_nil (w : World) (a : Addr) : (Op.equalIn 9999 115 (.pointer (some a)) (.pointer none)).run Tryd.prog w = .ok false w := ptr_nil_any 9998 w _ _ a detail_under
theorem ptr_other (w : World) (g4 o4 g6 o6 : Nat) (hn : ¬ (g4 = g6 ∧ o4 = o6)) (h4 : ∃ c t, w.heap[g4]? = some (.cells c t (0, 0))) (h6 : ∃ c t, w.heap[g6]? = some (.cells c t (0, 0))) :
    (Op.equalIn 9999 115 (.pointer (some ⟨g4, o4, none⟩)) (.pointer (some ⟨g6, o6, none⟩))).run Tryd.prog w = .ok false w := by
  obtain ⟨j, hj, h2⟩ := detail_info
  have hne : (⟨g4, o4, none⟩ : Addr) ≠ ⟨g6, o6, none⟩ := by
    intro e
    injection e with e1 e2
    exact hn ⟨e1, e2⟩
  exact ptr_other_any 9998 w _ _ j _ _ detail_under hj (by rw [h2]; decide) hne h4 h6
theorem IpVars.eqs {w : World} {g4 o4 g6 o6 : Nat} (h : IpVars w g4 o4 g6 o6) :
    (Op.equalIn 9999 115 (.pointer (some ⟨g4, o4, none⟩)) (.pointer (some ⟨g6, o6, none⟩))).run Tryd.prog w = .ok false w ∧ (Op.equalIn 9999 115 (.pointer (some ⟨g6, o6, none⟩)) (.pointer (some ⟨g4, o4, none⟩))).run Tryd.prog w = .ok false w :=
  ⟨ptr_other w _ _ _ _ h.ne h.h4 h.h6, ptr_other w _ _ _ _ (fun e => h.ne ⟨e.1.symm, e.2.symm⟩) h.h6 h.h4⟩

/-- an address as the package has it -/
def ipV (hi lo : Nat) (g o : Nat) : Value := .agg #[.int .u64 (hi : Int), .int .u64 (lo : Int), .pointer (some ⟨g, o, none⟩)]
def adr (g4 o4 g6 o6 : Nat) (b : List UInt8) : Value :=
  if b.length = 4 then ipV 0 (281470681743360 + pl.be b) g4 o4 else ipV (pl.be (b.take 8)) (pl.be (b.drop 8)) g6 o6

set_option maxHeartbeats 4000000 in
set_option maxRecDepth 100000 in
theorem be64_sp (g o n c : Nat) (b0 b1 b2 b3 b4 b5 b6 b7 : UInt8) (w : World) (hn : 8 ≤ n)
    (c0 : w.cell? ⟨g, o, none⟩ = some (pl.byteV b0)) (c1 : w.cell? ⟨g, o + 1, none⟩ = some (pl.byteV b1)) (c2 : w.cell? ⟨g, o + 2, none⟩ = some (pl.byteV b2)) (c3 : w.cell? ⟨g, o + 3, none⟩ = some (pl.byteV b3)) (c4 : w.cell? ⟨g, o + 4, none⟩ = some (pl.byteV b4)) (c5 : w.cell? ⟨g, o + 5, none⟩ = some (pl.byteV b5)) (c6 : w.cell? ⟨g, o + 6, none⟩ = some (pl.byteV b6)) (c7 : w.cell? ⟨g, o + 7, none⟩ = some (pl.byteV b7)) :
    Calls Tryd.prog 119 #[.slice (some ⟨g, o, none⟩) n c] w fun e w' => e = .returned (.int .u64 (pl.be [b0, b1, b2, b3, b4, b5, b6, b7] : Nat)) ∧ ∃ k, w' = w.drewN k := by
  unfold pl.byteV at c0 c1 c2 c3 c4 c5 c6 c7
  have h0 := b0.toNat_lt
  have h1 := b1.toNat_lt
  have h2 := b2.toNat_lt
  have h3 := b3.toNat_lt
  have h4 := b4.toNat_lt
  have h5 := b5.toNat_lt
  have h6 := b6.toNat_lt
  have h7 := b7.toNat_lt
  have hv : ((pl.be [b0, b1, b2, b3, b4, b5, b6, b7] : Nat) : Int) = (b7.toNat : Int) + (b6.toNat : Int) * 256 + (b5.toNat : Int) * 65536 + (b4.toNat : Int) * 16777216 + (b3.toNat : Int) * 4294967296 + (b2.toNat : Int) * 1099511627776 + (b1.toNat : Int) * 281474976710656 + (b0.toNat : Int) * 72057594037927936 := by
    simp only [pl.be, List.foldl_cons, List.foldl_nil]
    omega
  have q0 : 0 < n := by omega
  have q1 : (1 : Int) < (n : Int) := by omega
  have q2 : (2 : Int) < (n : Int) := by omega
  have q3 : (3 : Int) < (n : Int) := by omega
  have q4 : (4 : Int) < (n : Int) := by omega
  have q5 : (5 : Int) < (n : Int) := by omega
  have q6 : (6 : Int) < (n : Int) := by omega
  have q7 : (7 : Int) < (n : Int) := by omega
  go_enter Tryd.func119, Tryd.ntmps119
  go_wp2_with fail
  go_quiet (fail)
  go_wp2_with fail
  go_ret
  refine ⟨?_, _, rfl⟩
  simp (disch := omega) only [u64_or8, u64_or16, u64_or24, u64_or32, u64_or40, u64_or48, u64_or56]
  rw [hv]
  rfl

set_option maxHeartbeats 4000000 in
set_option maxRecDepth 100000 in
theorem af4_sp (g4 o4 g6 o6 : Nat) (b0 b1 b2 b3 : UInt8) (w : World) (hI : IpVars w g4 o4 g6 o6) :
    Calls Tryd.prog 107 #[.agg #[pl.byteV b0, pl.byteV b1, pl.byteV b2, pl.byteV b3]] w fun e w' => e = .returned (adr g4 o4 g6 o6 [b0, b1, b2, b3]) ∧ Below w.heap.size w w' := by
  have h0 := b0.toNat_lt
  have h1 := b1.toNat_lt
  have h2 := b2.toNat_lt
  have h3 := b3.toNat_lt
  have hz4 : ∀ x y, ((w.alloc x).alloc y).cell? ⟨1, 0, none⟩ = some (.pointer (some ⟨g4, o4, none⟩)) := fun x y => cell_new_old _ (cell_new_old _ hI.z4)
  have hv : ((281470681743360 + pl.be [b0, b1, b2, b3] : Nat) : Int) = 281470681743360 + (b0.toNat : Int) * 16777216 + (b1.toNat : Int) * 65536 + (b2.toNat : Int) * 256 + (b3.toNat : Int) := by
    simp only [pl.be, List.foldl_cons, List.foldl_nil]
    omega
  unfold pl.byteV
  go_enter Tryd.func107, Tryd.ntmps107
  go_wp2_with fail
  refine bodyPost_ret (results_cell_row rfl _ _ (w.heap.size + 1) _ _ _ _ rfl (by simpa [Blk] using Blk.new (w.alloc _) _ _) Tryd.underlying119 rfl (by kernel_rfl)) rfl ⟨?_, ?_⟩
  · have ha : adr g4 o4 g6 o6 [b0, b1, b2, b3] = ipV 0 (281470681743360 + pl.be [b0, b1, b2, b3]) g4 o4 := rfl
    rw [ha, ipV, hv]
    simp (disch := omega) only [u64_hi32, u64_hi24, u64_hi16, u64_hi8]
    rfl
  · exact ((Below.refl _ _).alloc (Nat.le_refl _) _).alloc (by simp) _

end Go.Proofs.YtfkohahlpfejbaaDoor

/- PlCid: PLAIN: an address with the length of a prefix. -/
namespace Go.Proofs.YtfkohahlpfejbaaDoor

/-- the address and the length of the prefix -/
def pl.cidr (s : List UInt8) : Option (List UInt8 × Nat) :=
  if (pl.cutS s 47).2.2 = true then
    match pl.addr (pl.cutS s 47).1, pl.decimal (pl.cutS s 47).2.1 with
    | some b, some n => if n ≤ 8 * b.length then some (b, n) else none
    | _, _ => none
  else none

def pl.long (b : List UInt8) : List UInt8 := if b.length = 4 then pl.pre12 ++ b else b

theorem pl.dec_small (l : List UInt8) (h : l.all pl.dg = true) (hl : l.length < 7) : pl.decV 0 l < 16777215 := by
  have h1 := pl.decV_lt l h
  have h2 : 10 ^ l.length ≤ 10 ^ 6 := Nat.pow_le_pow_right (by omega) (by omega)
  have : (10 : Nat) ^ 6 = 1000000 := by decide
  omega

theorem pl.dt_yes (l : List UInt8) (n : Nat) (h : pl.decimal l = some n) (hl : l.length < 7) : pl.dt l 0 0 = (n, l.length, true) := by
  have hn : n < 16777215 := by
    have h' := h
    unfold pl.decimal at h'
    split at h'
    · rename_i hc
      injection h' with h'
      rw [← h']
      exact pl.dec_small l hc.1 hl
    · cases h'
  have h1 := pl.dec_law l [] n h hn (by simp)
  rwa [List.append_nil] at h1

theorem pl.dt_no (l : List UInt8) (h : pl.decimal l = none) (hl : l.length < 7) : (pl.dt l 0 0).2.2 = false ∨ (pl.dt l 0 0).2.1 ≠ l.length := by
  have hs : l.takeWhile pl.dg ++ l.dropWhile pl.dg = l := List.takeWhile_append_dropWhile
  have hd : (l.takeWhile pl.dg).all pl.dg = true := by simp
  have hlen : (l.takeWhile pl.dg).length + (l.dropWhile pl.dg).length = l.length := by rw [← List.length_append, hs]
  have hv := pl.dec_small _ hd (by omega)
  have hr : ∀ b, (l.dropWhile pl.dg).head? = some b → pl.dg b = false := fun b hb => by
    have := List.head?_dropWhile_not pl.dg l
    rw [hb] at this
    simpa using this
  have he : pl.dt l 0 0 = pl.dt (l.dropWhile pl.dg) (pl.decV 0 (l.takeWhile pl.dg)) (l.takeWhile pl.dg).length := by
    have h1 := pl.dt_app (l.takeWhile pl.dg) (l.dropWhile pl.dg) 0 0 hd hv
    rw [hs, Nat.zero_add] at h1
    exact h1
  rw [he]
  by_cases h0 : (l.takeWhile pl.dg).length = 0
  · left
    rw [h0]
    cases hx : l.dropWhile pl.dg with
    | nil => rfl
    | cons b r =>
      rw [hx] at hr
      rw [pl.dt, if_neg (by rw [hr b rfl]; simp), if_pos rfl]
  · right
    rw [pl.dt_stop _ _ _ h0 hr]
    show (l.takeWhile pl.dg).length ≠ l.length
    intro hq
    have hnil : l.dropWhile pl.dg = [] := List.eq_nil_of_length_eq_zero (by omega)
    rw [hnil, List.append_nil] at hs
    rw [hs] at hd h0
    unfold pl.decimal at h
    rw [if_pos ⟨hd, by omega, by omega⟩] at h
    cases h

theorem pl.cidr_cases (s : List UInt8) : (pl.cutS s 47).2.2 = false ∧ pl.cidr s = none ∨ (pl.cutS s 47).2.2 = true ∧ (
    (pl.addr (pl.cutS s 47).1 = none ∧ pl.cidr s = none) ∨ ∃ b, pl.addr (pl.cutS s 47).1 = some b ∧
      ((pl.decimal (pl.cutS s 47).2.1 = none ∧ pl.cidr s = none) ∨ ∃ n, pl.decimal (pl.cutS s 47).2.1 = some n ∧ ((8 * b.length < n ∧ pl.cidr s = none) ∨ (n ≤ 8 * b.length ∧ pl.cidr s = some (b, n))))) := by
  unfold pl.cidr
  cases (pl.cutS s 47).2.2 with
  | false => left; exact ⟨rfl, by simp⟩
  | true =>
    right
    refine ⟨rfl, ?_⟩
    rw [if_pos rfl]
    cases pl.addr (pl.cutS s 47).1 with
    | none => left; exact ⟨rfl, rfl⟩
    | some b =>
      right
      refine ⟨b, rfl, ?_⟩
      cases pl.decimal (pl.cutS s 47).2.1 with
      | none => left; exact ⟨rfl, rfl⟩
      | some n =>
        right
        refine ⟨n, rfl, ?_⟩
        by_cases hn : n ≤ 8 * b.length
        · right; exact ⟨hn, by simp [hn]⟩
        · left; exact ⟨by omega, by simp [hn]⟩

theorem pl.and_and : ∀ b m : List UInt8, pl.and (pl.and b m) m = pl.and b m
  | [], m => by simp [pl.and]
  | b :: bs, [] => by simp [pl.and]
  | b :: bs, m :: ms => by
    have h := pl.and_and bs ms
    unfold pl.and at h ⊢
    rw [List.zipWith_cons_cons, List.zipWith_cons_cons, h, UInt8.and_assoc, UInt8.and_self]

theorem pl.num_dec (n : Nat) (hn : n ≤ 128) : pl.decimal (pl.num 10 n) = some n ∧ (pl.num 10 n).length < 4 ∧ (37 : UInt8) ∉ pl.num 10 n := by
  have : ∀ n : Fin 129, pl.decimal (pl.num 10 n.val) = some n.val ∧ (pl.num 10 n.val).length < 4 ∧ (37 : UInt8) ∉ pl.num 10 n.val := by decide
  exact this ⟨n, by omega⟩

theorem pl.cutS_app (a b : List UInt8) (h : (47 : UInt8) ∉ a) : pl.cutS (a ++ 47 :: b) 47 = (a, b, true) := by
  have hx : ∀ x ∈ a, pl.isB 47 x = false := fun x hx => by
    unfold pl.isB
    have hne : x ≠ 47 := fun e => h (e ▸ hx)
    have hn : x.toNat ≠ 47 := fun e => hne (UInt8.toNat_inj.1 (by rw [e]; rfl))
    simpa using (by omega : ¬ ((x.toNat : Int) = 47))
  have hk := pl.cutS_hit ⟨(a ++ 47 :: b).toArray⟩ 47 a.length (by show a.length < (a ++ 47 :: b).length; simp) (by show ∀ x ∈ (a ++ 47 :: b).take a.length, _; rw [List.take_left]; exact hx) (by
    have e : (⟨(a ++ 47 :: b).toArray⟩ : ByteArray)[a.length]'(by show a.length < (a ++ 47 :: b).length; simp) = 47 := by
      show (a ++ 47 :: b)[a.length]'(by simp) = 47
      rw [List.getElem_append_right (Nat.le_refl _)]
      simp
    rw [e]; rfl)
  have e1 : (⟨(a ++ 47 :: b).toArray⟩ : ByteArray).data.toList = a ++ 47 :: b := rfl
  rw [e1, List.take_left] at hk
  rw [hk]
  have : (a ++ 47 :: b).drop (a.length + 1) = b := by
    rw [← List.drop_drop, List.drop_left]; rfl
  rw [this]

end Go.Proofs.YtfkohahlpfejbaaDoor

/- Net2: WALKS: net/netip: an address of 16 bytes. -/
namespace Go.Proofs.YtfkohahlpfejbaaDoor
open Go.RowKit

/-- 8 of 16 bytes of a block -/
theorem be64_lo (g : Nat) (l : List UInt8) (ty : TypeId) (W0 : World) (hl : l.length = 16) (h : BBlk W0 g l ty) (W : World) (hW : W.heap = W0.heap) :
    Calls Tryd.prog 119 #[.slice (some ⟨g, 0, none⟩) 8 16] W fun e w' => e = .returned (.int .u64 (pl.be (l.take 8) : Nat)) ∧ ∃ k, w' = W.drewN k := by
  have h' : BBlk W g l ty := by unfold BBlk Blk at h ⊢; rw [hW]; exact h
  match l, hl with
  | [b0, b1, b2, b3, b4, b5, b6, b7, b8, b9, b10, b11, b12, b13, b14, b15], _ =>
    exact be64_sp g 0 8 16 b0 b1 b2 b3 b4 b5 b6 b7 W (Nat.le_refl _) (h'.cell 0 (by simp)) (h'.cell 1 (by simp)) (h'.cell 2 (by simp)) (h'.cell 3 (by simp)) (h'.cell 4 (by simp)) (h'.cell 5 (by simp)) (h'.cell 6 (by simp)) (h'.cell 7 (by simp))
theorem be64_hi (g : Nat) (l : List UInt8) (ty : TypeId) (W0 : World) (hl : l.length = 16) (h : BBlk W0 g l ty) (W : World) (hW : W.heap = W0.heap) :
    Calls Tryd.prog 119 #[.slice (some ⟨g, 8, none⟩) 8 8] W fun e w' => e = .returned (.int .u64 (pl.be (l.drop 8) : Nat)) ∧ ∃ k, w' = W.drewN k := by
  have h' : BBlk W g l ty := by unfold BBlk Blk at h ⊢; rw [hW]; exact h
  match l, hl with
  | [b0, b1, b2, b3, b4, b5, b6, b7, b8, b9, b10, b11, b12, b13, b14, b15], _ =>
    exact be64_sp g 8 8 8 b8 b9 b10 b11 b12 b13 b14 b15 W (Nat.le_refl _) (h'.cell 8 (by simp)) (h'.cell 9 (by simp)) (h'.cell 10 (by simp)) (h'.cell 11 (by simp)) (h'.cell 12 (by simp)) (h'.cell 13 (by simp)) (h'.cell 14 (by simp)) (h'.cell 15 (by simp))

set_option maxHeartbeats 4000000 in
set_option maxRecDepth 100000 in
theorem af16_sp (g4 o4 g6 o6 : Nat) (l : List UInt8) (w : World) (hl : l.length = 16) (hI : IpVars w g4 o4 g6 o6) :
    Calls Tryd.prog 111 #[.agg (l.map pl.byteV).toArray] w fun e w' => e = .returned (ipV (pl.be (l.take 8)) (pl.be (l.drop 8)) g6 o6) ∧ Below w.heap.size w w' := by
  obtain ⟨x, hx⟩ : ∃ x, pl.be (l.take 8) = x := ⟨_, rfl⟩
  obtain ⟨y, hy⟩ : ∃ y, pl.be (l.drop 8) = y := ⟨_, rfl⟩
  rw [hx, hy]
  go_enter Tryd.func111, Tryd.ntmps111
  obtain ⟨arr, harr⟩ : ∃ arr, (l.map pl.byteV).toArray = arr := ⟨_, rfl⟩
  rw [harr]
  go_wp2_with fail
  have hB0 : Blk (w.alloc (Obj.cells arr 127)) w.heap.size arr 127 := Blk.new _ _ _
  have hB := hB0.alloc (Obj.cells #[Value.int IntKind.u64 0, Value.int IntKind.u64 0, Value.pointer none] 119)
  have hR := Blk.new (w.alloc (Obj.cells arr 127)) #[Value.int IntKind.u64 0, Value.int IntKind.u64 0, Value.pointer none] 119
  have hb1 : Below w.heap.size w ((w.alloc (Obj.cells arr 127)).alloc (Obj.cells #[Value.int IntKind.u64 0, Value.int IntKind.u64 0, Value.pointer none] 119)) := ((Below.refl _ _).alloc (Nat.le_refl _) _).alloc (by simp) _
  have hs1 : (w.alloc (Obj.cells arr 127)).heap.size = w.heap.size + 1 := by simp
  rw [hs1] at hR
  have hI1 := hI.below hb1 (Nat.le_refl _)
  generalize (w.alloc (Obj.cells arr 127)).alloc (Obj.cells #[Value.int IntKind.u64 0, Value.int IntKind.u64 0, Value.pointer none] 119) = W1 at *
  have hBB : BBlk W1 w.heap.size l 127 := by unfold BBlk; rw [harr]; exact hB
  obtain ⟨g, hg⟩ : ∃ g, w.heap.size = g := ⟨_, rfl⟩
  rw [hg] at hR hBB hb1 ⊢
  have hlo := be64_lo g l _ W1 hl hBB
  have hhi := be64_hi g l _ W1 hl hBB
  have hz := hI1.z6
  rw [hx] at hlo
  rw [hy] at hhi
  have hbo : ∀ (W : World) (o n c : Nat), W.heap = W1.heap → (o = 0 ∧ n = 8 ∧ c = 16) ∨ (o = 8 ∧ n = 8 ∧ c = 8) → Calls Tryd.prog 119 #[.slice (some ⟨g, o, none⟩) n c] W fun e w' => e = .returned (.int .u64 ((if o = 0 then x else y : Nat) : Int)) ∧ ∃ k, w' = W.drewN k := by
    rintro W o n c hW (⟨rfl, rfl, rfl⟩ | ⟨rfl, rfl, rfl⟩)
    · exact hlo W hW
    · exact hhi W hW
  have HBO := Lib.hid hbo
  have HB1 := Lib.hid hb1
  have hc0 := hR.cell 0
  have hc1 := hR.cell 1
  have hc2 := hR.cell 2
  have hf0 := hR.frozen 0
  have hf1 := hR.frozen 1
  have hf2 := hR.frozen 2
  have hst := fun k => set3 (.int .u64 (x : Int)) (.int .u64 (y : Int)) (.pointer (some ⟨g6, o6, none⟩)) (hR.drewN k)
  have HST := Lib.hid hst
  have hg2 := cell_lt hI.z6
  rw [hg] at hg2
  clear hlo hhi hbo hB0 hB hs1 hI1 hBB hR hb1 hx hy harr hI hst
  have hzz : ∀ W : World, W.heap = W1.heap → W.cell? ⟨2, 0, none⟩ = some (.pointer (some ⟨g6, o6, none⟩)) := fun W h => by rw [← hz]; simp only [World.cell?, h]
  have HZ := Lib.hid hzz
  clear hzz
  go_region_held3 (fun w' => w'.cell? ⟨2, 0, none⟩ = some (.pointer (some ⟨g6, o6, none⟩)))
    (first | exact hz | exact HZ.out _ (by rfl) | exact (HST.out _).2.2 _ _ _ (by omega) (HZ.out _ (by rfl)))
    (first | (go_at_call 119; refine (HBO.out _ _ _ _ (by rfl) (by simp)).mono ?_; rintro e w' ⟨rfl, k, rfl⟩))
  go_wp2_with fail
  refine bodyPost_ret (results_cell_row rfl _ _ (g + 1) _ _ _ _ rfl (HST.out _).1 Tryd.underlying119 rfl (by kernel_rfl)) rfl ?_
  refine ⟨rfl, ?_⟩
  rw [hg]
  exact (HST.out _).2.1 g w (below_drewN HB1.out _) (Nat.le_succ _)

end Go.Proofs.YtfkohahlpfejbaaDoor

/- Net3: WALKS: net/netip: parseIPv4; Is6, WithZone, IPv6Unspecified. -/
namespace Go.Proofs.YtfkohahlpfejbaaDoor
open Go.RowKit

def IpRes (g4 o4 g6 o6 : Nat) (w w' : World) (e : Ending) (r : Option (List UInt8)) : Prop :=
  Below w.heap.size w w' ∧ ((r = none ∧ ∃ t x, e = .returned (.tuple #[.agg #[.int .u64 0, .int .u64 0, .pointer none], .iface t x])) ∨ (∃ b, r = some b ∧ (b.length = 4 ∨ b.length = 16) ∧ e = .returned (.tuple #[adr g4 o4 g6 o6 b, .nilIface])))

set_option maxRecDepth 100000 in
set_option maxHeartbeats 4000000 in
set_option maxRecDepth 100000 in
theorem v4_sp (g4 o4 g6 o6 : Nat) (s : ByteArray) (w : World) (hs : s.size ≤ 2147483648) (hI : IpVars w g4 o4 g6 o6) :
    Calls Tryd.prog 98 #[.string s] w fun e w' => IpRes g4 o4 g6 o6 w w' e (pl.four s.data.toList) := by
  obtain ⟨W1, hW1⟩ : ∃ W1, (w.alloc (Obj.cells #[Value.int IntKind.u64 0, Value.int IntKind.u64 0, Value.pointer none] 119)).alloc (Obj.cells #[Value.int IntKind.u8 0, Value.int IntKind.u8 0, Value.int IntKind.u8 0, Value.int IntKind.u8 0] 152) = W1 := ⟨_, rfl⟩
  obtain ⟨g, hg⟩ : ∃ g, w.heap.size = g := ⟨_, rfl⟩
  have hR : Blk W1 g #[Value.int IntKind.u64 0, Value.int IntKind.u64 0, Value.pointer none] 119 := by
    rw [← hW1, ← hg]; exact (Blk.new w _ _).alloc _
  have hF : BBlk W1 (g + 1) [0, 0, 0, 0] 152 := by
    have h := Blk.new (w.alloc (Obj.cells #[Value.int IntKind.u64 0, Value.int IntKind.u64 0, Value.pointer none] 119)) #[Value.int IntKind.u8 0, Value.int IntKind.u8 0, Value.int IntKind.u8 0, Value.int IntKind.u8 0] 152
    rw [hW1, show (w.alloc (Obj.cells #[Value.int IntKind.u64 0, Value.int IntKind.u64 0, Value.pointer none] 119)).heap.size = g + 1 by simp [hg]] at h
    exact h
  have hb1 : Below g w W1 := by rw [← hW1, ← hg]; exact ((Below.refl _ _).alloc (Nat.le_refl _) _).alloc (by simp) _
  have hv := v4f_sp s 0 s.size s (by simp) W1 (g + 1) 0 4 [0, 0, 0, 0] 152 hF (by simp) (Nat.zero_le _) (Nat.le_refl _) hs
  have hv' : Calls Tryd.prog 106 #[.string s, .int .i64 0, .int .i64 (s.size : Int), .slice (some ⟨g + 1, 0, none⟩) 4 4] W1 fun e w' => V4Res W1 w' (g + 1) [0, 0, 0, 0] 0 152 e (pl.four s.data.toList) := hv
  rcases hfour : pl.four s.data.toList with _ | l
  · have hno : Calls Tryd.prog 106 #[.string s, .int .i64 0, .int .i64 (s.size : Int), .slice (some ⟨g + 1, 0, none⟩) 4 4] W1 fun e w' => (∃ t v, e = .returned (.iface t v)) ∧ Below g w w' ∧ Blk w' g #[Value.int IntKind.u64 0, Value.int IntKind.u64 0, Value.pointer none] 119 := by
      refine hv'.mono fun e w' ⟨hb, _, hr⟩ => ?_
      rcases hr with ⟨_, h⟩ | ⟨l, h, _⟩
      · exact ⟨h, hb1.trans (hb.mono (by omega)), hR.below hb (by omega)⟩
      · rw [hfour] at h; cases h
    have HV := Lib.hid hno
    clear hv hv' hno hfour
    go_enter Tryd.func98, Tryd.ntmps98
    go_wp2_with (go_at_call 106; refine HV.out.mono ?_; rintro e w2 ⟨⟨t, v, rfl⟩, hb3, hR2⟩; obtain ⟨hc0, hc1, hc2, hf0, hf1, hf2⟩ := blk3 hR2; have HST := Lib.hid (set3 (.int .u64 0) (.int .u64 0) (.pointer none) hR2); clear hR2)
    obtain ⟨hR3, hB3, _⟩ := HST.out
    refine bodyPost_ret (results_cell_tmp_row rfl _ _ g _ _ _ _ rfl rfl hR3 Tryd.underlying119 rfl (by kernel_rfl)) rfl ?_
    exact ⟨hg ▸ hB3 g w hb3 (Nat.le_refl _), .inl ⟨rfl, _, _, rfl⟩⟩
  · have hl4 := pl.four_l4 _ _ hfour
    have hyes : Calls Tryd.prog 106 #[.string s, .int .i64 0, .int .i64 (s.size : Int), .slice (some ⟨g + 1, 0, none⟩) 4 4] W1 fun e w' => e = .returned .nilIface ∧ Below g w w' ∧ Blk w' g #[Value.int IntKind.u64 0, Value.int IntKind.u64 0, Value.pointer none] 119 ∧ BBlk w' (g + 1) l 152 := by
      refine hv'.mono fun e w' ⟨hb, _, hr⟩ => ?_
      rcases hr with ⟨h, _⟩ | ⟨m, h, he, hk⟩
      · rw [hfour] at h; cases h
      · rw [hfour] at h
        injection h with h
        subst h
        refine ⟨he, hb1.trans (hb.mono (by omega)), hR.below hb (by omega), ?_⟩
        have : (List.take 0 [(0 : UInt8), 0, 0, 0] ++ l ++ List.drop (0 + l.length) [0, 0, 0, 0]) = l := by rw [hl4]; simp
        rw [this] at hk
        exact hk
    match l, hl4 with
    | [a, b, c, d], _ =>
      have hp : ∀ W : World, Below g w W → Calls Tryd.prog 107 #[.agg #[pl.byteV a, pl.byteV b, pl.byteV c, pl.byteV d]] W fun e w' => e = .returned (adr g4 o4 g6 o6 [a, b, c, d]) ∧ Below W.heap.size W w' := fun W hb => af4_sp g4 o4 g6 o6 a b c d W (hI.below hb (by omega))
      have hadr : adr g4 o4 g6 o6 [a, b, c, d] = .agg #[.int .u64 0, .int .u64 (281470681743360 + pl.be [a, b, c, d] : Nat), .pointer (some ⟨g4, o4, none⟩)] := rfl
      obtain ⟨z, hz⟩ : ∃ z : Nat, 281470681743360 + pl.be [a, b, c, d] = z := ⟨_, rfl⟩
      rw [hz] at hadr
      rw [hadr] at hp
      have HV := Lib.hid hyes
      have HP := Lib.hid hp
      have HA := Lib.hid hadr
      clear hv hv' hyes hfour hp hadr hz
      go_enter Tryd.func98, Tryd.ntmps98
      go_wp2_with (first
        | (go_at_call 106; refine HV.out.mono ?_; rintro e w2 ⟨rfl, hb3, hR2, hF2⟩; have c0 := hF2.cell 0 (by simp); have c1 := hF2.cell 1 (by simp); have c2 := hF2.cell 2 (by simp); have c3 := hF2.cell 3 (by simp); have hR2l := hR2.lt)
        | (go_at_call 107; refine (HP.out _ hb3).mono ?_; rintro e w3 ⟨rfl, hb4⟩; have hR3 := hR2.below hb4 hR2l; have hb5 := hb3.trans (hb4.mono (by have := hb3.size; omega)); obtain ⟨hc0, hc1, hc2, hf0, hf1, hf2⟩ := blk3 hR3; have HST := Lib.hid (set3 (.int .u64 0) (.int .u64 (z : Int)) (.pointer (some ⟨g4, o4, none⟩)) hR3); clear hR3))
      obtain ⟨hR4, hB4, _⟩ := HST.out
      refine bodyPost_ret (results_cell_tmp_row rfl _ _ g _ _ _ _ rfl rfl hR4 Tryd.underlying119 rfl (by kernel_rfl)) rfl ?_
      exact ⟨hg ▸ hB4 g w hb5 (Nat.le_refl _), .inr ⟨_, rfl, .inl rfl, by rw [HA.out]; rfl⟩⟩

set_option maxRecDepth 100000 in
set_option maxHeartbeats 4000000 in
theorem is6_6 (g4 o4 g6 o6 hi lo : Nat) (w : World) (hI : IpVars w g4 o4 g6 o6) :
    Calls Tryd.prog 114 #[ipV hi lo g6 o6] w fun e w' => e = .returned (.bool true) ∧ Below w.heap.size w w' := by
  have h0 := fun o => (hI.alloc o).z0
  have h4 := fun o => (hI.alloc o).z4
  have e1 := fun o => (hI.alloc o).eqs.1
  have e2 := fun o => (hI.alloc o).eqs.2
  have n4 := fun o => ptr_nil (w.alloc o) ⟨g4, o4, none⟩
  have n6 := fun o => ptr_nil (w.alloc o) ⟨g6, o6, none⟩
  have s4 := fun o => ptr_same (w.alloc o) ⟨g4, o4, none⟩
  unfold ipV
  go_enter Tryd.func114, Tryd.ntmps114
  go_wp2_with fail
  go_ret
  exact ⟨rfl, (Below.refl _ _).alloc (Nat.le_refl _) _⟩

set_option maxRecDepth 100000 in
set_option maxHeartbeats 4000000 in
theorem is6_4 (g4 o4 g6 o6 hi lo : Nat) (w : World) (hI : IpVars w g4 o4 g6 o6) :
    Calls Tryd.prog 114 #[ipV hi lo g4 o4] w fun e w' => e = .returned (.bool false) ∧ Below w.heap.size w w' := by
  have h0 := fun o => (hI.alloc o).z0
  have h4 := fun o => (hI.alloc o).z4
  have e1 := fun o => (hI.alloc o).eqs.1
  have e2 := fun o => (hI.alloc o).eqs.2
  have n4 := fun o => ptr_nil (w.alloc o) ⟨g4, o4, none⟩
  have n6 := fun o => ptr_nil (w.alloc o) ⟨g6, o6, none⟩
  have s4 := fun o => ptr_same (w.alloc o) ⟨g4, o4, none⟩
  unfold ipV
  go_enter Tryd.func114, Tryd.ntmps114
  go_wp2_with fail
  go_ret
  exact ⟨rfl, (Below.refl _ _).alloc (Nat.le_refl _) _⟩

set_option maxRecDepth 100000 in
set_option maxHeartbeats 4000000 in
theorem un_sp (g4 o4 g6 o6 : Nat) (w : World) (hI : IpVars w g4 o4 g6 o6) :
    Calls Tryd.prog 109 #[] w fun e w' => e = .returned (ipV 0 0 g6 o6) ∧ Below w.heap.size w w' := by
  have h6 := fun o => (hI.alloc o).z6
  go_enter Tryd.func109, Tryd.ntmps109
  go_wp2_with fail
  refine bodyPost_ret (results_cell_row rfl _ _ w.heap.size _ _ _ _ rfl (Blk.new w _ _) Tryd.underlying119 rfl (by kernel_rfl)) rfl ?_
  exact ⟨rfl, (Below.refl _ _).alloc (Nat.le_refl _) _⟩

set_option maxRecDepth 100000 in
set_option maxHeartbeats 4000000 in
theorem wz_sp (g4 o4 g6 o6 hi lo : Nat) (w : World) (hI : IpVars w g4 o4 g6 o6) :
    Calls Tryd.prog 110 #[ipV hi lo g6 o6, .string ⟨#[]⟩] w fun e w' => e = .returned (ipV hi lo g6 o6) ∧ Below w.heap.size w w' := by
  obtain ⟨g, hg⟩ : ∃ g, w.heap.size = g := ⟨_, rfl⟩
  obtain ⟨W0, hW0⟩ : ∃ W0, w.alloc (Obj.cells #[Value.int IntKind.u64 (hi : Int), Value.int IntKind.u64 (lo : Int), Value.pointer (some ⟨g6, o6, none⟩)] 119) = W0 := ⟨_, rfl⟩
  obtain ⟨W1, hW1⟩ : ∃ W1, W0.alloc (Obj.cells #[Value.int IntKind.u64 0, Value.int IntKind.u64 0, Value.pointer none] 119) = W1 := ⟨_, rfl⟩
  have hs0 : W0.heap.size = g + 1 := by rw [← hW0, ← hg]; simp
  have hA : Blk W1 g #[Value.int IntKind.u64 (hi : Int), Value.int IntKind.u64 (lo : Int), Value.pointer (some ⟨g6, o6, none⟩)] 119 := by
    rw [← hW1, ← hW0, ← hg]; exact (Blk.new w _ _).alloc _
  have hR : Blk W1 (g + 1) #[Value.int IntKind.u64 0, Value.int IntKind.u64 0, Value.pointer none] 119 := by
    rw [← hW1, ← hs0]; exact Blk.new W0 _ _
  have hb1 : Below g w W1 := by rw [← hW1, ← hW0, ← hg]; exact ((Below.refl _ _).alloc (Nat.le_refl _) _).alloc (by simp) _
  have hI1 := hI.below hb1 (by omega)
  have hgs : g ≤ W1.heap.size := by rw [← hg]; exact hb1.size
  have his := is6_6 g4 o4 g6 o6 hi lo W1 hI1
  have HIS := Lib.hid his
  have HI := Lib.hid hI1
  obtain ⟨c0, c1, c2, _⟩ := blk3 hA
  have hz0 := hI1.z6
  clear his hI1 hI
  unfold ipV at *
  go_enter Tryd.func110, Tryd.ntmps110
  go_wp2_with (go_at_call 114; refine HIS.out.mono ?_; rintro e w2 ⟨rfl, hb2⟩; have hA2 := hA.below hb2 hA.lt; have hR2 := hR.below hb2 hR.lt; have hI2 := HI.out.below hb2 (Nat.le_refl _); have hz := hI2.z6; have hb3 := hb1.trans (hb2.mono hgs); obtain ⟨d0, d1, d2, _, _, f2⟩ := blk3 hA2; obtain ⟨c0, c1, c2, k0, k1, k2⟩ := blk3 hR2)
  have hst := set3 (.int .u64 (hi : Int)) (.int .u64 (lo : Int)) (.pointer (some ⟨g6, o6, none⟩)) (hR2.other g 2 (.pointer (some ⟨g6, o6, none⟩)) (by omega))
  refine bodyPost_ret (results_cell_row rfl _ _ (g + 1) _ _ _ _ rfl hst.1 Tryd.underlying119 rfl (by kernel_rfl)) rfl ?_
  exact ⟨rfl, hg ▸ hst.2.1 g w (hb3.setCell (Nat.le_refl _) _) (Nat.le_succ _)⟩

end Go.Proofs.YtfkohahlpfejbaaDoor

/- V6L: WALKS: parseIPv6: what its walk leans on. -/
namespace Go.Proofs.YtfkohahlpfejbaaDoor
open Go.RowKit

theorem pl.noByte (l : List UInt8) (c : UInt8) (h : c ∉ l) : Lib.indexByte l c = -1 := by
  induction l with
  | nil => rfl
  | cons b l ih =>
    have hb : ¬ b = c := fun e => h (by simp [e])
    have hl := ih (fun e => h (by simp [e]))
    simp [Lib.indexByte, hb, hl]

theorem pc_run (s : ByteArray) (w : World) (h : (37 : UInt8) ∉ s.data.toList) :
    (callFunc 108 #[.string s, .int .u8 37]).run Tryd.prog w = .ok (.value (.int .i64 (-1))) w := by
  rw [run_callFunc_extern Tryd.func108 (by kernel_rfl) (by kernel_rfl) (by kernel_rfl) (e := Extern.BytealgIndexByte.indexByte) (by kernel_rfl), Lib.run_indexByteString]
  rw [show (37 : Int).toNat.toUInt8 = 37 from rfl, pl.noByte _ _ h]
  rfl

/-- the world in the midst of parseIPv6 -/
structure V6W (g : Nat) (w W1 wr : World) (acc : List UInt8) : Prop where
  bel : Below (g + 1) W1 wr
  siz : wr.heap.size = g + 2
  len : acc.length ≤ 16
  blk : BBlk wr (g + 1) (acc ++ List.replicate (16 - acc.length) 0) 127

theorem v6_err {g4 o4 g6 o6 g : Nat} {w W : World} {a : Act} {F : Option (List UInt8)} {t : TypeId} {v : Value} (hF : F = none) (hR : Blk W g #[Value.int IntKind.u64 0, Value.int IntKind.u64 0, Value.pointer none] 119) (hb : Below g w W) (hg : w.heap.size = g)
    (h2 : a.tmps.getD 2 undef = .pointer (some ⟨g, 0, none⟩)) (h3 : a.tmps.getD 3 undef = .iface t v) (hd : a.defers = []) :
    bodyPost Tryd.prog Tryd.f99 (fun e w' => IpRes g4 o4 g6 o6 w w' e F) .ret a (((W.setCell ⟨g, 0, none⟩ (.int .u64 0)).setCell ⟨g, 1, none⟩ (.int .u64 0)).setCell ⟨g, 2, none⟩ (.pointer none)) := by
  have hst := set3 (.int .u64 0) (.int .u64 0) (.pointer none) hR
  refine bodyPost_ret (results_cell_tmp_row rfl _ _ g _ _ _ _ h2 h3 hst.1 Tryd.underlying119 rfl (by kernel_rfl)) hd ?_
  exact ⟨hg ▸ hst.2.1 g w hb (Nat.le_refl _), .inl ⟨hF, _, _, rfl⟩⟩

theorem V6W.cell {g : Nat} {w W1 wr : World} {acc : List UInt8} (h : V6W g w W1 wr acc) (k : Nat) (hk : k < 16) : ∃ x, wr.cell? ⟨g + 1, k, none⟩ = some x := by
  have hl : (acc ++ List.replicate (16 - acc.length) 0).length = 16 := by have := h.len; simp; omega
  exact ⟨_, h.blk.cell k (by rw [hl]; exact hk)⟩
theorem V6W.put {g : Nat} {w W1 wr : World} {acc : List UInt8} (h : V6W g w W1 wr acc) (i : Nat) (hi : acc.length = i) (h2 : i + 2 ≤ 16) (a b : UInt8) :
    V6W g w W1 ((wr.setCell ⟨g + 1, i, none⟩ (pl.byteV a)).setCell ⟨g + 1, i + 1, none⟩ (pl.byteV b)) (acc ++ [a, b]) := by
  subst hi
  refine ⟨(h.bel.setCell (Nat.le_refl _) _).setCell (Nat.le_refl _) _, by rw [← h.siz]; simp [World.setCell], by simp; omega, ?_⟩
  have h3 := (h.blk.set acc.length a).set (acc.length + 1) b
  have e : ((acc ++ List.replicate (16 - acc.length) 0).set acc.length a).set (acc.length + 1) b = (acc ++ [a, b]) ++ List.replicate (16 - (acc ++ [a, b]).length) 0 := by
    have e1 : 16 - acc.length = (16 - (acc ++ [a, b]).length) + 1 + 1 := by simp; omega
    rw [e1, List.replicate_succ, List.replicate_succ, List.set_append_right _ _ (Nat.le_refl _), Nat.sub_self, List.set_cons_zero, List.set_append_right _ _ (by omega), show acc.length + 1 - acc.length = 0 + 1 by omega, List.set_cons_succ, List.set_cons_zero]
    simp
  rw [e] at h3
  exact h3
theorem V6W.four {g : Nat} {w W1 wr w2 : World} {acc l : List UInt8} (h : V6W g w W1 wr acc) (i : Nat) (hi : acc.length = i) (hl : l.length = 4) (h4 : i + 4 ≤ 16) (hb : Below (g + 1) wr w2) (hs : w2.heap.size = wr.heap.size)
    (hk : BBlk w2 (g + 1) ((acc ++ List.replicate (16 - acc.length) 0).take i ++ l ++ (acc ++ List.replicate (16 - acc.length) 0).drop (i + l.length)) 127) : V6W g w W1 w2 (acc ++ l) := by
  subst hi
  refine ⟨h.bel.trans hb, by rw [hs, h.siz], by simp; omega, ?_⟩
  rw [List.take_left, List.drop_append, List.drop_replicate, List.drop_eq_nil_of_le (by omega), List.nil_append] at hk
  rw [show 16 - (acc ++ l).length = 16 - acc.length - (acc.length + l.length - acc.length) by simp; omega]
  exact hk
theorem pl.ext_size (S : ByteArray) (k : Nat) : (S.extract k S.size).size = S.size - k := by simp
theorem pl.ext_at (S : ByteArray) (k : Nat) (h : k < S.size) (h0 : 0 < (S.extract k S.size).size) : (S.extract k S.size)[0] = S[k] := by
  simp [ByteArray.getElem_extract]
theorem pl.suf_ext (s S : ByteArray) (q : List UInt8) (h : s.data.toList = q ++ S.data.toList) : s.extract q.length s.size = S ∧ s.size = q.length + S.size := by
  have hl : s.size = q.length + S.size := by
    have := congrArg List.length h
    simpa using this
  refine ⟨?_, hl⟩
  have h2 := pl.ext_drop s q.length
  rw [h, List.drop_left] at h2
  rw [h2]
theorem pl.no58 (x : UInt8) (h : x ≠ 58) : ((x.toNat : Int) == 58) = false ∧ ((x.toNat : Int) != 58) = true := by
  have : ((x.toNat : Int) == 58) = false := by
    rw [beq_eq_false_iff_ne]; intro e; exact h (UInt8.toNat_inj.1 (by show x.toNat = 58; omega))
  exact ⟨this, by rw [bne, this]; rfl⟩
theorem pl.no46 (x : UInt8) (h : x ≠ 46) : ((x.toNat : Int) == 46) = false := by
  rw [beq_eq_false_iff_ne]; intro e; exact h (UInt8.toNat_inj.1 (by show x.toNat = 46; omega))
theorem beqN (a b : Nat) (h : a ≠ b) : ((a : Int) == (b : Int)) = false := by rw [beq_eq_false_iff_ne]; omega

theorem pl.list16 (L : List UInt8) (h : L.length = 16) : ∃ b0 b1 b2 b3 b4 b5 b6 b7 b8 b9 b10 b11 b12 b13 b14 b15, L = [b0, b1, b2, b3, b4, b5, b6, b7, b8, b9, b10, b11, b12, b13, b14, b15] := by
  match L, h with
  | [b0, b1, b2, b3, b4, b5, b6, b7, b8, b9, b10, b11, b12, b13, b14, b15], _ => exact ⟨b0, b1, b2, b3, b4, b5, b6, b7, b8, b9, b10, b11, b12, b13, b14, b15, rfl⟩
theorem BBlk.setCells {g : Nat} {ty : TypeId} : ∀ (bs : List UInt8) {w : World} {l : List UInt8} (o : Nat), BBlk w g l ty → o + bs.length ≤ l.length → BBlk (w.setCells g o (bs.map pl.byteV)) g (l.take o ++ bs ++ l.drop (o + bs.length)) ty
  | [], w, l, o, h, _ => by
    have e : l.take o ++ [] ++ l.drop (o + 0) = l := by simp
    show BBlk w g (l.take o ++ [] ++ l.drop (o + 0)) ty
    rw [e]; exact h
  | b :: bs, w, l, o, h, hl => by
    have h1 := h.set o b
    have h2 := BBlk.setCells bs (o + 1) h1 (by rw [List.length_set]; simp at hl; omega)
    have hlt : o < l.length := by simp at hl; omega
    have e : (l.set o b).take (o + 1) ++ bs ++ (l.set o b).drop (o + 1 + bs.length) = l.take o ++ (b :: bs) ++ l.drop (o + (b :: bs).length) := by
      rw [List.drop_set_of_lt (by omega), List.take_add_one, List.take_set_of_le (Nat.le_refl _), List.getElem?_set_self hlt]
      simp only [Option.toList_some, List.append_assoc, List.cons_append, List.nil_append, List.length_cons]
      rw [show o + (bs.length + 1) = o + 1 + bs.length by omega]
    rw [e] at h2
    exact h2
theorem Below.setCells {B g : Nat} (hg : B ≤ g) : ∀ (vs : List Value) {w0 w : World} (o : Nat), Below B w0 w → Below B w0 (w.setCells g o vs)
  | [], _, _, _, h => h
  | v :: vs, _, _, o, h => Below.setCells hg vs (o + 1) (h.setCell (p := ⟨g, o, none⟩) hg v)
/-- one byte is moved up -/
theorem pl.move_one (acc md : List UInt8) (z : UInt8) (c : Nat) (hc : c < acc.length) :
    (acc.take (c + 1) ++ (md ++ [z]) ++ acc.drop (c + 1)).set (c + (md.length + 1)) acc[c] = acc.take c ++ (acc[c] :: md) ++ acc.drop c := by
  obtain ⟨x, hx⟩ : ∃ x, acc[c] = x := ⟨_, rfl⟩
  have h1 : acc.take (c + 1) = acc.take c ++ [x] := by rw [List.take_add_one, List.getElem?_eq_getElem hc, hx]; rfl
  have h2 : acc.drop c = x :: acc.drop (c + 1) := by rw [← hx]; exact List.drop_eq_getElem_cons hc
  rw [hx, h1, h2]
  have hl : (acc.take c ++ [x] ++ md).length = c + (md.length + 1) := by
    rw [List.length_append, List.length_append, List.length_take]; simp; omega
  rw [show acc.take c ++ [x] ++ (md ++ [z]) ++ acc.drop (c + 1) = (acc.take c ++ [x] ++ md) ++ (z :: acc.drop (c + 1)) by simp only [List.append_assoc, List.cons_append, List.nil_append]]
  rw [List.set_append_right _ _ (by omega), hl, Nat.sub_self, List.set_cons_zero]
  simp only [List.append_assoc, List.cons_append, List.nil_append]
theorem slice_any (g i n : Nat) (w : World) (h : i + n ≤ 16) (hn : 0 < n) : (Instr.sliceAt 127 (.pointer (some ⟨g, 0, none⟩)) (some (.int .i64 (i : Int))) (some (.int .i64 ((i : Int) + (n : Int)))) none).run Tryd.prog w = .ok (.slice (some ⟨g, i, none⟩) n (16 - i)) w := by
  have ht : Tryd.prog.underlying 127 = some (.array (Tryd.prog.arrayLen 127) (Tryd.prog.elem 127)) := by kernel_rfl
  have hl : Tryd.prog.arrayLen 127 = 16 := by kernel_rfl
  have he : Tryd.prog.elem 127 = 5 := by kernel_rfl
  obtain ⟨i0, hi, _, _, hs⟩ := info_parts infoByte
  have hsz : (sizeOf 5).run Tryd.prog w = .ok 1 w := by
    have h1 : i0.size = 1 := by
      have := infoByte
      rw [hi] at this
      simp at this
      exact this.2.1
    simp [sizeOf, typeInfo, hi, h1]
  have hv : slicedAt ⟨g, 0, none⟩ ((i : Int)).toNat ((i : Int) + (n : Int)).toNat 16 1 = .slice (some ⟨g, i, none⟩) n (16 - i) := by
    unfold slicedAt
    rw [show ((i : Int) + (n : Int)).toNat = i + n by omega, Int.toNat_natCast, if_neg (by omega), Addr.add_lit, Nat.mul_one, Nat.zero_add, Nat.add_sub_cancel_left]
  rw [run_sliceAt_array_lh w _ _ ht .i64 .i64 (i : Int) ((i : Int) + (n : Int)) (by omega) (by omega) (by rw [hl]; omega), he, hsz, hl]
  show Result.ok (slicedAt _ _ _ 16 1) w = _
  rw [hv]

def ellI : Option Nat → Int
  | none => -1
  | some e => e

end Go.Proofs.YtfkohahlpfejbaaDoor
