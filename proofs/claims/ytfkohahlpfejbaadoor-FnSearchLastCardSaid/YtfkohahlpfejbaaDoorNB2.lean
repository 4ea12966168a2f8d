/-
  THE BASE of the statements over net/netip, part 2 of 6: PlRead, Mem, Blk, Num, Split, Four, BytApp, Hex, Groups, V4F, PlTxt, PlRead6.
-/
import Derived.Test.YtfkohahlpfejbaaDoorNB1
import Derived.Test.YtfkohahlpfejbaaDoorRows
import Derived.WalkKit
import Derived.WalkSpells
import Derived.WalkLawsBesides
import Derived.Lib.Hide
import Derived.Outline
import Derived.BigQuiet
import Derived.Deep.QuietTactic
import Derived.Laws.IdiomStrings
import Derived.Laws.AppendOwnNone

/- PlRead: PLAIN: what the package's reading of an address has yet to find, against the reference's. -/
namespace Go.Proofs.YtfkohahlpfejbaaDoor.pl

/-! ### split, from its head -/
theorem runS_app (c : Int) (p : List UInt8) (a : List (List UInt8) × List UInt8) (h : ∀ x ∈ p, isB c x = false) : p.foldl (stepS c) a = (a.1, a.2 ++ p) := by
  induction p generalizing a with
  | nil => simp
  | cons x p ih =>
    rw [List.foldl_cons, stepS, h x (by simp)]
    simp only [Bool.false_eq_true, if_false]
    rw [ih _ (fun y hy => h y (by simp [hy]))]
    simp
theorem runS_pre (c : Int) (l : List UInt8) (a : List (List UInt8)) (b : List UInt8) : l.foldl (stepS c) (a, b) = (a ++ (l.foldl (stepS c) ([], b)).1, (l.foldl (stepS c) ([], b)).2) := by
  induction l generalizing a b with
  | nil => simp
  | cons x l ih =>
    rw [List.foldl_cons, List.foldl_cons]
    by_cases hx : isB c x = true
    · have e : ∀ y : List (List UInt8) × List UInt8, stepS c y x = (y.1 ++ [y.2], []) := fun y => by unfold stepS; rw [if_pos hx]
      rw [e, e, ih, ih ([] ++ [b])]
      simp
    · have e : ∀ y : List (List UInt8) × List UInt8, stepS c y x = (y.1, y.2 ++ [x]) := fun y => by unfold stepS; rw [if_neg hx]
      rw [e, e]
      exact ih _ _
theorem split_one (c : Int) (p : List UInt8) (h : ∀ x ∈ p, isB c x = false) : split c p = [p] := by
  unfold split runS
  rw [runS_app c p _ h]
  simp
theorem split_app (c : Int) (p : List UInt8) (x : UInt8) (r : List UInt8) (h : ∀ y ∈ p, isB c y = false) (hx : isB c x = true) : split c (p ++ x :: r) = p :: split c r := by
  unfold split runS
  rw [List.foldl_append, runS_app c p _ h, List.foldl_cons, stepS]
  simp only [hx, if_true]
  rw [runS_pre]
  simp
theorem first_at (c : Int) (l : List UInt8) : (∀ y ∈ l, isB c y = false) ∨ ∃ p x r, l = p ++ x :: r ∧ (∀ y ∈ p, isB c y = false) ∧ isB c x = true := by
  induction l with
  | nil => left; simp
  | cons a l ih =>
    by_cases ha : isB c a = true
    · exact .inr ⟨[], a, l, rfl, by simp, ha⟩
    · have ha' : isB c a = false := by simpa using ha
      rcases ih with h | ⟨p, x, r, rfl, hp, hx⟩
      · left; intro y hy
        rcases List.mem_cons.1 hy with rfl | hy
        · exact ha'
        · exact h y hy
      · refine .inr ⟨a :: p, x, r, rfl, fun y hy => ?_, hx⟩
        rcases List.mem_cons.1 hy with rfl | hy
        · exact ha'
        · exact hp y hy

/-! ### IPv4: the finished numbers, the digits since the last point, what stands -/
theorem oct_nil : oct [] = none := rfl
theorem oct_bad_digit (p : List UInt8) (x : UInt8) (hx : x ∈ p) (hd : dg x = false) : oct p = none := by
  have : decimal p = none := by
    unfold decimal
    rw [if_neg]
    rintro ⟨ha, _⟩
    rw [List.all_eq_true] at ha
    rw [ha x hx] at hd
    cases hd
  unfold oct
  rw [this]
theorem oct_zero (p : List UInt8) (x : UInt8) : oct (48 :: x :: p) = none := by
  unfold oct
  cases decimal (48 :: x :: p) with
  | none => rfl
  | some n => show (if _ then _ else _) = _; rw [if_pos]; right; simp
theorem decV_more (n : Nat) (p q : List UInt8) : decV n p ≤ decV n (p ++ q) := by
  unfold decV
  rw [List.foldl_append]
  exact decV_ge q _
theorem oct_large (p q : List UInt8) (h : 255 < decV 0 p) : oct (p ++ q) = none := by
  have := decV_more 0 p q
  unfold oct decimal
  by_cases hc : (p ++ q).all dg = true ∧ 1 ≤ (p ++ q).length ∧ (p ++ q).length ≤ 9
  · rw [if_pos hc]; show (if _ then _ else _) = _; rw [if_pos]; left; omega
  · rw [if_neg hc]

theorem decV_small (b : UInt8) (p : List UInt8) (hb : dg b = true) (h0 : b ≠ 48) : 10 ^ p.length ≤ decV 0 (b :: p) := by
  have hb2 : 1 ≤ b.toNat - 48 := by
    have h1 := (dg_int b).1 hb
    have h2 : b.toNat ≠ 48 := fun e => h0 (UInt8.toNat_inj.1 (by simpa using e))
    omega
  have : ∀ (p : List UInt8) (n : Nat), n * 10 ^ p.length ≤ decV n p := by
    intro p
    induction p with
    | nil => intro n; simp [decV]
    | cons x p ih =>
      intro n
      rw [decV_cons]
      have := ih (n * 10 + (x.toNat - 48))
      rw [List.length_cons, Nat.pow_succ]
      have h2 : n * 10 * 10 ^ p.length ≤ (n * 10 + (x.toNat - 48)) * 10 ^ p.length := Nat.mul_le_mul_right _ (by omega)
      have e : n * (10 ^ p.length * 10) = n * 10 * 10 ^ p.length := by rw [Nat.mul_comm (10 ^ p.length) 10, Nat.mul_assoc]
      omega
  rw [decV_cons]
  have h3 := this p (0 * 10 + (b.toNat - 48))
  have h4 : 1 * 10 ^ p.length ≤ (0 * 10 + (b.toNat - 48)) * 10 ^ p.length := Nat.mul_le_mul_right _ (by omega)
  omega

/-- digits up to 255, and no nought ahead -/
theorem oct_good (cur : List UInt8) (hne : cur ≠ []) (hd : cur.all dg = true) (hv : decV 0 cur ≤ 255) (h0 : 1 < cur.length → cur.head? ≠ some 48) : oct cur = some (UInt8.ofNat (decV 0 cur)) := by
  have hlen : cur.length ≤ 3 := by
    cases cur with
    | nil => simp
    | cons b p =>
      rw [List.all_cons, Bool.and_eq_true] at hd
      by_cases hp : p = []
      · subst hp; simp
      · have h1 : b ≠ 48 := fun e => h0 (by have := List.length_pos_iff.2 hp; simp; omega) (by simp [e])
        have h2 := decV_small b p hd.1 h1
        rcases Nat.lt_or_ge p.length 3 with h3 | h3
        · simp; omega
        · have h4 : 10 ^ 3 ≤ 10 ^ p.length := Nat.pow_le_pow_right (by omega) h3
          omega
  have h1 := List.length_pos_iff.2 hne
  unfold oct decimal
  rw [if_pos ⟨hd, h1, by omega⟩]
  show (if _ then _ else _) = _
  rw [if_neg]
  rintro (h | ⟨h2, h3⟩)
  · omega
  · exact h0 h2 h3

/-- what is left to find of an address of IPv4 -/
def rest4 (done cur rest : List UInt8) : Option (List UInt8) :=
  match octs (split 46 (cur ++ rest)) with
  | some l => if done.length + l.length = 4 then some (done ++ l) else none
  | none => none
theorem rest4_start (s : List UInt8) : rest4 [] [] s = four s := by
  unfold rest4 four
  rw [List.nil_append]
  cases octs (split 46 s) with
  | none => rfl
  | some l => simp

theorem dg_no46 (p : List UInt8) (h : p.all dg = true) : ∀ y ∈ p, isB 46 y = false := by
  intro y hy
  rw [List.all_eq_true] at h
  have := (dg_int y).1 (h y hy)
  unfold isB
  rw [beq_eq_false_iff_ne]
  omega
/-- the first part begins with these digits -/
theorem split_head (c : Int) (p r : List UInt8) (h : ∀ y ∈ p, isB c y = false) : ∃ q t, split c (p ++ r) = (p ++ q) :: t ∧ ((q = r ∧ t = []) ∨ ∃ x r', r = q ++ x :: r' ∧ isB c x = true ∧ t = split c r') := by
  rcases first_at c r with hr | ⟨q, x, r', rfl, hp, hx⟩
  · exact ⟨r, [], split_one c (p ++ r) (fun y hy => (List.mem_append.1 hy).elim (h y) (hr y)), .inl ⟨rfl, rfl⟩⟩
  · refine ⟨q, split c r', ?_, .inr ⟨x, r', rfl, hx, rfl⟩⟩
    rw [← List.append_assoc]
    exact split_app c (p ++ q) x r' (fun y hy => (List.mem_append.1 hy).elim (h y) (hp y)) hx

theorem octs_cons (p : List UInt8) (r : List (List UInt8)) : octs (p :: r) = (match oct p, octs r with
    | some a, some b => some (a :: b)
    | _, _ => none) := rfl
theorem octs_head_bad (p : List UInt8) (t : List (List UInt8)) (h : oct p = none) : octs (p :: t) = none := octs_bad [] t p h

/-- a further digit -/
theorem rest4_digit (done cur rest : List UInt8) (b : UInt8) : rest4 done cur (b :: rest) = rest4 done (cur ++ [b]) rest := by
  unfold rest4
  rw [List.append_assoc]
  rfl
theorem rest4_zero (done rest : List UInt8) (b : UInt8) (hb : dg b = true) : rest4 done [48] (b :: rest) = none := by
  have h2 : ∀ y ∈ [48, b], isB 46 y = false := dg_no46 _ (by simp [hb]; decide)
  obtain ⟨q, t, e, _⟩ := split_head 46 [48, b] rest h2
  unfold rest4
  show (match octs (split 46 ([48, b] ++ rest)) with | some l => _ | none => _) = _
  rw [e, octs_head_bad _ _ (show oct ([48, b] ++ q) = none from oct_zero q b)]
theorem rest4_large (done cur rest : List UInt8) (hd : cur.all dg = true) (h : 255 < decV 0 cur) : rest4 done cur rest = none := by
  obtain ⟨q, t, e, _⟩ := split_head 46 cur rest (dg_no46 cur hd)
  unfold rest4
  rw [e, octs_head_bad _ _ (oct_large cur q h)]
theorem rest4_char (done cur rest : List UInt8) (b : UInt8) (hd : cur.all dg = true) (hb : dg b = false) (h46 : b ≠ 46) : rest4 done cur (b :: rest) = none := by
  obtain ⟨q, t, e, h⟩ := split_head 46 cur (b :: rest) (dg_no46 cur hd)
  have hm : b ∈ cur ++ q := by
    rcases h with ⟨rfl, _⟩ | ⟨x, r', hr, hx, _⟩
    · simp
    · cases q with
      | nil =>
        simp at hr
        exfalso
        rw [← hr.1] at hx
        unfold isB at hx
        have : (b.toNat : Int) = 46 := by simpa using hx
        exact h46 (UInt8.toNat_inj.1 (by simpa using (by omega : b.toNat = 46)))
      | cons y q => simp at hr; simp [hr.1]
  unfold rest4
  rw [e, octs_head_bad _ _ (oct_bad_digit _ b hm hb)]
theorem rest4_dot (done cur rest : List UInt8) (hd : cur.all dg = true) : rest4 done cur (46 :: rest) = (match oct cur with
    | some b => rest4 (done ++ [b]) [] rest
    | none => none) := by
  unfold rest4
  rw [split_app 46 cur 46 rest (dg_no46 cur hd) (by decide)]
  rw [octs_cons]
  cases oct cur with
  | none => rfl
  | some b =>
    rw [List.nil_append]
    cases octs (split 46 rest) with
    | none => rfl
    | some l =>
      show (if done.length + (b :: l).length = 4 then some (done ++ b :: l) else none) = (if (done ++ [b]).length + l.length = 4 then some (done ++ [b] ++ l) else none)
      have e1 : (done ++ [b]).length + l.length = done.length + (b :: l).length := by simp; omega
      rw [e1, List.append_assoc]
      rfl
theorem rest4_dot_empty (done rest : List UInt8) : rest4 done [] (46 :: rest) = none := by rw [rest4_dot _ _ _ rfl, oct_nil]
theorem rest4_nil_nil (done : List UInt8) : rest4 done [] [] = none := rfl
theorem rest4_dot_last (done cur : List UInt8) (hd : cur.all dg = true) : rest4 done cur [46] = none := by
  rw [rest4_dot _ _ _ hd]
  cases oct cur with
  | none => rfl
  | some b => exact rest4_nil_nil _
theorem octs_pos (c : Int) (s l : List UInt8) (h : octs (split c s) = some l) : 1 ≤ l.length := by
  rw [octs_len _ _ h]
  unfold split
  simp
theorem rest4_four (done cur rest : List UInt8) (hd : cur.all dg = true) (h3 : done.length = 3) : rest4 done cur (46 :: rest) = none := by
  rw [rest4_dot _ _ _ hd]
  cases oct cur with
  | none => rfl
  | some b =>
    unfold rest4
    simp only [List.nil_append]
    cases ho : octs (split 46 rest) with
    | none => rfl
    | some l =>
      have := octs_pos _ _ _ ho
      simp only [List.length_append, List.length_cons, List.length_nil]
      rw [if_neg (by omega)]
theorem rest4_end (done cur : List UInt8) (hd : cur.all dg = true) : rest4 done cur [] = (match oct cur with
    | some b => if done.length = 3 then some (done ++ [b]) else none
    | none => none) := by
  unfold rest4
  rw [List.append_nil, split_one 46 cur (dg_no46 cur hd)]
  rw [octs_cons]
  cases oct cur with
  | none => rfl
  | some b =>
    show (if done.length + [b].length = 4 then some (done ++ [b]) else none) = (if done.length = 3 then some (done ++ [b]) else none)
    by_cases h : done.length = 3
    · rw [if_pos (by simp [h]), if_pos h]
    · rw [if_neg (by simp; omega), if_neg h]
theorem rest4_short (done cur : List UInt8) (hd : cur.all dg = true) (h : done.length < 3) : rest4 done cur [] = none := by
  rw [rest4_end _ _ hd]
  cases oct cur with
  | none => rfl
  | some b => simp only; rw [if_neg (by omega)]

end Go.Proofs.YtfkohahlpfejbaaDoor.pl

/- Mem: WORDS FOR MEMORY: a row of bytes that the call itself has made. -/
namespace Go.Proofs.YtfkohahlpfejbaaDoor
open Go.RowKit

/-- Block g begins with the bytes l; none of these cells is frozen. -/
def ByteRow (w : World) (g : Nat) (l : List UInt8) : Prop :=
  ∃ (rest : List Value) (m n : Nat), w.heap[g]? = some (.cells (l.map (fun b => Value.int .u8 b.toNat) ++ rest).toArray 5 (m, n)) ∧ ∀ j, j < l.length → ¬ (m ≤ j ∧ j < n)

section
variable {w w' : World} {g : Nat} {l : List UInt8}
theorem ByteRow.lt (h : ByteRow w g l) : g < w.heap.size := by
  obtain ⟨_, _, _, h, _⟩ := h
  exact (Array.getElem?_eq_some_iff.1 h).1

theorem ByteRow.cell (h : ByteRow w g l) (j : Nat) (b : UInt8) (hj : l[j]? = some b) : w.cell? ⟨g, j, none⟩ = some (.int .u8 (b.toNat : Int)) := by
  obtain ⟨rest, m, n, hh, _⟩ := h
  obtain ⟨hl, hb⟩ := List.getElem?_eq_some_iff.1 hj
  simp only [World.cell?, hh]
  simp [List.getElem?_append, hl, hb]

theorem ByteRow.frozen (h : ByteRow w g l) (j : Nat) (hj : j < l.length) : w.frozen? ⟨g, j, none⟩ = false := by
  obtain ⟨rest, m, n, hh, hf⟩ := h
  have := hf j hj
  simp only [World.frozen?, hh]
  simp
  omega

theorem ByteRow.keep (h : ByteRow w g l) (e : w'.heap[g]? = w.heap[g]?) : ByteRow w' g l := by
  obtain ⟨rest, m, n, hh, hf⟩ := h
  exact ⟨rest, m, n, e.trans hh, hf⟩

theorem ByteRow.drewN (h : ByteRow w g l) (n : Nat) : ByteRow (w.drewN n) g l := h.keep rfl

theorem ByteRow.set (h : ByteRow w g l) (j : Nat) (b : UInt8) (hj : j < l.length) : ByteRow (w.setCell ⟨g, j, none⟩ (.int .u8 (b.toNat : Int))) g (l.set j b) := by
  obtain ⟨rest, m, n, hh, hf⟩ := h
  refine ⟨rest, m, n, ?_, by simpa using hf⟩
  have e : (l.set j b).map (fun b => Value.int .u8 b.toNat) = (l.map (fun b => Value.int .u8 b.toNat)).set j (.int .u8 b.toNat) := by
    rw [List.map_set]
  simp [World.setCell, Array.getElem?_modify, hh, e, hj]

theorem ByteRow.of_string (w : World) (s : ByteArray) (cap : Nat) :
    ByteRow (w.drew.alloc (.cells (bytesRow s cap) 5 ((bytesRow s cap).size, (bytesRow s cap).size + 1))) w.heap.size s.data.toList := by
  refine ⟨List.replicate (cap - s.size) (.int .u8 0), (bytesRow s cap).size, (bytesRow s cap).size + 1, ?_, ?_⟩
  · show (w.heap.push _)[w.heap.size]? = _
    simp [bytesRow]
  · intro j hj
    have h1 : s.data.size ≤ (bytesRow s cap).size := by simp [bytesRow]
    rw [Array.length_toList] at hj
    omega
end

theorem infoStr : (Tryd.prog.info? 9).map (fun i => (i.zero, i.size, i.bytes)) = some (some (.string ⟨#[]⟩), 1, 16) := by kernel_rfl

/-- The slice value v owns the strings l, from block B on. -/
def Strs (w : World) (B : Nat) (v : Value) (l : List (List UInt8)) : Prop := w.ownsRow B 9 1 v l.length (l.map pl.strV)

theorem Strs.nil (w : World) (B : Nat) : Strs w B (.slice none 0 0) [] := World.ownsRow_nil _ _ _ _

/-- 'out = append(out, p)' of one string. -/
theorem app_str {ops : Array Oper} {rest : List Oper} {o : Oper} {a : Act} {Q : Exit → Act → World → Prop} {w wr : World} {v : Value} {l : List (List UInt8)} {x : Value} (p : List UInt8)
    (hgd : o.guard = none) (s y : Operand) (ho : o.op = .call { callee := .builtin .append, args := #[s, y], argTypes := #[31, 31] })
    (hs : a.eval s = v) (B : Nat) (hown : Strs wr B v l) (hy : a.eval y = .slice (some ⟨wr.heap.size, 0, none⟩) 1 1) (hp : x = pl.strV p) (hlen : l.length < 8796093022207) (hb : Below B w wr) (hB : B ≤ w.heap.size)
    (h : ∀ v' w', Strs w' B v' (l ++ [p]) → Below B w w' → (wr.alloc (.cells #[x] 9)).grownBy w' v.ownBlock → wpList Tryd.prog ops Q rest (a.put o.dst v') w') : wpList Tryd.prog ops Q (o :: rest) a (wr.alloc (.cells #[x] 9)) := by
  obtain ⟨i0, hi, hz0, hz1, hz2⟩ := info_parts infoStr
  have hsz := hb.size
  refine wpList_append_own _ hgd s y 31 ho B 9 i0 (.string ⟨#[]⟩) 1 16 Tryd.underlying31 hi hz0 hz1 hz2 rfl (by decide) v l.length (l.map pl.strV) hs (World.ownsRow.alloc hown _) ⟨wr.heap.size, 0, none⟩ 1 1 [x] hy rfl (cell_one_new _ _ _) ?_ ?_ ?_ ?_ ?_
  · intro u hu
    rw [List.mem_singleton] at hu
    subst hu
    rw [hp]
    rfl
  · unfold maxLen; omega
  · omega
  · simp; omega
  · intro v' w' h1 h2 _
    refine h v' w' ?_ ?_ h2
    · subst hp
      unfold Strs
      rw [List.length_append, List.map_append]
      exact h1
    · have hb2 : Below B w (wr.alloc (.cells #[x] 9)) := hb.alloc (by omega) _
      exact hb2.grown h2 (by simp; omega) (fun k hk => ((World.ownsRow.lt hown) k hk).1)

/-- What a later world that keeps all from B on, but for new blocks, leaves owned. -/
theorem Strs.below {w w' : World} {B : Nat} {v : Value} {l : List (List UInt8)} (h : Strs w B v l) (hb : Below w.heap.size w w') : Strs w' B v l :=
  World.ownsRow.kept (row := none) h ⟨hb.os, hb.tape, hb.output, hb.size, fun k hk _ => hb.block k hk⟩ (by cases v.ownBlock <;> simp)

/-- The shape of an owned value: its length, and each of its cells. -/
theorem Strs.form {w : World} {B : Nat} {v : Value} {l : List (List UInt8)} (h : Strs w B v l) :
    ∃ a cap, v = .slice a l.length cap ∧ ∀ k p, l[k]? = some p → ∃ g, a = some ⟨g, 0, none⟩ ∧ g < w.heap.size ∧ B ≤ g ∧ w.cell? ⟨g, k, none⟩ = some (pl.strV p) := by
  have h0 := h
  rcases h.2 with ⟨rfl, hn⟩ | ⟨g, cap, cur, rfl, hg, hh, _⟩
  · refine ⟨none, 0, by rw [hn], ?_⟩
    intro k p hk
    have : l = [] := List.eq_nil_of_length_eq_zero hn
    rw [this] at hk
    simp at hk
  · refine ⟨_, cap, rfl, ?_⟩
    intro k p hk
    have hc := World.ownsRow.cells h0 (g := g) rfl k (pl.strV p) (by simp [hk])
    rw [Addr.add_lit, Nat.zero_add] at hc
    exact ⟨g, rfl, (Array.getElem?_eq_some_iff.1 hh).1, hg, hc⟩

end Go.Proofs.YtfkohahlpfejbaaDoor

/- Blk: WORDS FOR MEMORY: a whole block of cells (a struct that lies behind a pointer). -/
namespace Go.Proofs.YtfkohahlpfejbaaDoor
open Go.RowKit

/-- Block g holds these cells, none of them frozen. -/
def Blk (w : World) (g : Nat) (arr : Array Value) (ty : TypeId) : Prop := w.heap[g]? = some (.cells arr ty (0, 0))

theorem Blk.new (w : World) (arr : Array Value) (ty : TypeId) : Blk (w.alloc (.cells arr ty)) w.heap.size arr ty := by
  show (w.heap.push _)[w.heap.size]? = _
  simp
theorem Blk.lt {w : World} {g : Nat} {arr : Array Value} {ty : TypeId} (h : Blk w g arr ty) : g < w.heap.size := (Array.getElem?_eq_some_iff.1 h).1
theorem Blk.cell {w : World} {g : Nat} {arr : Array Value} {ty : TypeId} (h : Blk w g arr ty) (k : Nat) : w.cell? ⟨g, k, none⟩ = arr[k]? := by
  unfold Blk at h
  simp [World.cell?, h]
theorem Blk.frozen {w : World} {g : Nat} {arr : Array Value} {ty : TypeId} (h : Blk w g arr ty) (k : Nat) : w.frozen? ⟨g, k, none⟩ = false := by
  unfold Blk at h
  simp [World.frozen?, h]
theorem Blk.set {w : World} {g : Nat} {arr : Array Value} {ty : TypeId} (h : Blk w g arr ty) (k : Nat) (v : Value) : Blk (w.setCell ⟨g, k, none⟩ v) g (arr.setIfInBounds k v) ty := by
  unfold Blk at h ⊢
  simp [World.setCell, Array.getElem?_modify, h]
theorem Blk.keep {w w' : World} {g : Nat} {arr : Array Value} {ty : TypeId} (h : Blk w g arr ty) (hk : w'.heap[g]? = w.heap[g]?) : Blk w' g arr ty := by
  unfold Blk at h ⊢
  rw [hk]; exact h
theorem Blk.below {w w' : World} {B g : Nat} {arr : Array Value} {ty : TypeId} (h : Blk w g arr ty) (hb : Below B w w') (hg : g < B) : Blk w' g arr ty := h.keep (hb.block g hg)
theorem Blk.drewN {w : World} {g : Nat} {arr : Array Value} {ty : TypeId} (h : Blk w g arr ty) (n : Nat) : Blk (w.drewN n) g arr ty := h.keep rfl
theorem Blk.alloc {w : World} {g : Nat} {arr : Array Value} {ty : TypeId} (h : Blk w g arr ty) (o : Obj) : Blk (w.alloc o) g arr ty :=
  h.below ((Below.refl _ _).alloc (Nat.le_refl _) o) h.lt
theorem Blk.other {w : World} {g : Nat} {arr : Array Value} {ty : TypeId} (h : Blk w g arr ty) (g' k : Nat) (v : Value) (hne : g' ≠ g) : Blk (w.setCell ⟨g', k, none⟩ v) g arr ty :=
  h.keep (by simp [World.setCell, Array.getElem?_modify, hne])

theorem setCell_far (w : World) (g k g' : Nat) (v : Value) (hne : g ≠ g') : (w.setCell ⟨g, k, none⟩ v).heap[g']? = w.heap[g']? := by
  simp [World.setCell, Array.getElem?_modify, hne]

/-- A store below the base of an owned row leaves it. -/
theorem ownsRow_far {w : World} {B : Nat} {e : TypeId} {size : Nat} {v : Value} {n : Nat} {xs : List Value} (h : w.ownsRow B e size v n xs) (g k : Nat) (x : Value) (hg : g < B) : (w.setCell ⟨g, k, none⟩ x).ownsRow B e size v n xs :=
  ⟨h.1, h.2.imp id (fun ⟨g', cap, cur, h1, h2, h3, h4⟩ => ⟨g', cap, cur, h1, h2, (setCell_far w g k g' x (by omega)).trans h3, h4⟩)⟩
theorem Strs.far {w : World} {B : Nat} {v : Value} {l : List (List UInt8)} (h : Strs w B v l) (g k : Nat) (x : Value) (hg : g < B) : Strs (w.setCell ⟨g, k, none⟩ x) B v l := ownsRow_far h g k x hg
theorem Strs.mono {w : World} {B B' : Nat} {v : Value} {l : List (List UInt8)} (h : Strs w B v l) (hb : B' ≤ B) : Strs w B' v l :=
  ⟨h.1, h.2.imp id (fun ⟨g, cap, cur, h1, h2, h3⟩ => ⟨g, cap, cur, h1, Nat.le_trans hb h2, h3⟩)⟩

end Go.Proofs.YtfkohahlpfejbaaDoor

/- Num: WALKS: Decimal, dtoi, Digit, xtoi. -/
namespace Go.Proofs.YtfkohahlpfejbaaDoor
open Go.RowKit

/-- what Decimal returns -/
def DecRes (l : List UInt8) (w : World) (e : Ending) (w' : World) : Prop :=
  ((∃ v : Nat, pl.decimal l = some v ∧ e = .returned (.tuple #[.int .i64 v, .bool true])) ∨ (pl.decimal l = none ∧ ∃ n : Int, e = .returned (.tuple #[.int .i64 n, .bool false]))) ∧ w = w'

theorem ret_ib {a c : Int} {x y : Bool} (h1 : a = c) (h2 : x = y) : Ending.returned (.tuple #[.int .i64 a, .bool x]) = .returned (.tuple #[.int .i64 c, .bool y]) := by rw [h1, h2]

set_option maxHeartbeats 1000000 in
theorem dec_sp (s : ByteArray) (w : World) (hs : s.size ≤ 17592186044416) :
    Calls Tryd.prog 53 #[.string s] w (DecRes s.data.toList w) := by
  have hl : s.data.toList.length = s.size := by simp
  go_enter Tryd.func53, Tryd.ntmps53
  go_wp2
  go_loop [4, 8] (fun v i => ∃ (k : Nat) (n : Int), k ≤ s.size ∧ i = .int .i64 k ∧ v = .int .i64 n ∧ Hid ((s.data.toList.take k).all pl.dg = true) ∧ Hid (k ≤ 9 → n = pl.decV 0 (s.data.toList.take k))) (fun _ i => s.size - (intOf i).toNat)
  case atStart => exact ⟨0, 0, Nat.zero_le _, rfl, rfl, Lib.hid (by simp), Lib.hid (fun _ => rfl)⟩
  case round =>
    obtain ⟨k, n, hk, rfl, rfl, HA, HN⟩ := hrel
    by_cases hlt : k < s.size
    · obtain ⟨x, hx⟩ : ∃ x, s[k] = x := ⟨_, rfl⟩
      have hby := UInt8.toNat_lt x
      rcases hd : pl.dg x with _ | _
      · have hno : pl.decimal s.data.toList = none := pl.dg_not s k hlt (by rw [hx]; exact hd)
        have HNO := Lib.hid hno
        have hnd : ¬ (48 ≤ (x.toNat : Int) ∧ (x.toNat : Int) ≤ 57) := fun h => by rw [(pl.dg_int x).2 h] at hd; cases hd
        clear hno hd
        rcases (show (x.toNat : Int) < 48 ∨ (48 ≤ (x.toNat : Int) ∧ 57 < (x.toNat : Int)) by omega) with h | ⟨h, h'⟩
        all_goals
          clear hnd
          go_wp2
          go_ret2
          exact ⟨Or.inr ⟨HNO.out, 0, rfl⟩, rfl⟩
      · obtain ⟨h1, h2⟩ := (pl.dg_int x).1 hd
        have HD := Lib.hid (pl.all_dg_succ s k hlt HA.out (by rw [hx]; exact hd))
        clear hd
        by_cases hk9 : k ≤ 8
        · have hb := pl.decV_bound _ HA.out (by rw [List.length_take]; omega)
          have hnn := HN.out (by omega)
          obtain ⟨m, hm⟩ : ∃ m, pl.decV 0 (s.data.toList.take k) = m := ⟨_, rfl⟩
          rw [hm] at hb hnn
          subst hnn
          have HM := Lib.hid hm
          clear hm HN
          go_wp2
          go_round
          case rel => exact ⟨k + 1, _, by omega, by go_num, rfl, HD, Lib.hid (fun _ => by rw [pl.take_succ s k hlt, pl.decV_snoc, HM.out, hx]; omega)⟩
          case measure => simp [intOf]; omega
        · go_wp2
          go_round
          case rel => exact ⟨k + 1, _, by omega, by go_num, rfl, HD, Lib.hid (fun h => absurd h (by omega))⟩
          case measure => simp [intOf]; omega
    · have ek := pl.take_all s k (by omega)
      rw [ek] at HA HN
      clear ek
      have hke : k = s.size := by omega
      by_cases h1 : 1 ≤ s.size
      · by_cases h9 : s.size ≤ 9
        · have hv : pl.decimal s.data.toList = some (pl.decV 0 s.data.toList) := by unfold pl.decimal; rw [if_pos ⟨HA.out, by omega, by omega⟩]
          have HV := Lib.hid hv
          have HE := Lib.hid (HN.out (by omega))
          clear hv hke
          go_wp2
          go_ret2
          exact ⟨Or.inl ⟨_, HV.out, ret_ib HE.out (by simp; omega)⟩, rfl⟩
        · have hv : pl.decimal s.data.toList = none := by unfold pl.decimal; rw [if_neg (by rintro ⟨_, _, h⟩; omega)]
          have HV := Lib.hid hv
          clear hv hke
          go_wp2
          go_ret2
          exact ⟨Or.inr ⟨HV.out, n, ret_ib rfl (by simp; omega)⟩, rfl⟩
      · have hv : pl.decimal s.data.toList = none := by unfold pl.decimal; rw [if_neg (by rintro ⟨_, h, _⟩; omega)]
        have HV := Lib.hid hv
        have h3 : ¬ (1 : Int) ≤ (s.size : Int) := by omega
        clear hv hke h1
        go_wp2
        go_ret2
        exact ⟨Or.inr ⟨HV.out, n, rfl⟩, rfl⟩

theorem ret_iib {a b c d : Int} {x y : Bool} (h1 : a = c) (h2 : b = d) (h3 : x = y) : Ending.returned (.tuple #[.int .i64 a, .int .i64 b, .bool x]) = .returned (.tuple #[.int .i64 c, .int .i64 d, .bool y]) := by rw [h1, h2, h3]

set_option maxHeartbeats 1000000 in
theorem dtoi_any (s : ByteArray) (w : World) (hs : s.size ≤ 17592186044416) :
    Calls Tryd.prog 72 #[.string s] w fun e w' => e = .returned (.tuple #[.int .i64 (pl.dt s.data.toList 0 0).1, .int .i64 (pl.dt s.data.toList 0 0).2.1, .bool (pl.dt s.data.toList 0 0).2.2]) ∧ w = w' := by
  have hl : s.data.toList.length = s.size := by simp
  go_enter Tryd.func72, Tryd.ntmps72
  go_wp2
  go_loop [2, 3] (fun v i => ∃ (k n : Nat), k ≤ s.size ∧ i = .int .i64 k ∧ v = .int .i64 n ∧ n < 16777215 ∧ Hid (pl.dt s.data.toList 0 0 = pl.dt (s.data.toList.drop k) n k)) (fun _ i => s.size - (intOf i).toNat)
  case atStart => exact ⟨0, 0, Nat.zero_le _, rfl, rfl, by omega, Lib.hid rfl⟩
  case round =>
    obtain ⟨k, n, hk, rfl, rfl, hn, HD⟩ := hrel
    by_cases hlt : k < s.size
    · obtain ⟨x, hx⟩ : ∃ x, s[k] = x := ⟨_, rfl⟩
      have hby := UInt8.toNat_lt x
      rw [pl.drop_cons' s k hlt, hx] at HD
      rcases hd : pl.dg x with _ | _
      · have hnd : ¬ (48 ≤ (x.toNat : Int) ∧ (x.toNat : Int) ≤ 57) := fun h => by rw [(pl.dg_int x).2 h] at hd; cases hd
        have HE := Lib.hid (show pl.dt s.data.toList 0 0 = if k = 0 then (0, 0, false) else (n, k, true) by rw [HD.out, pl.dt, if_neg (by rw [hd]; simp)])
        clear hd
        rcases (show ¬ 48 ≤ (x.toNat : Int) ∨ (48 ≤ (x.toNat : Int) ∧ ¬ (x.toNat : Int) ≤ 57) by omega) with h | ⟨h, h'⟩
        all_goals
          clear hnd
          rcases hk0 : ((k : Int) == 0) with _ | _
        all_goals
          have H0 := Lib.hid hk0
          go_wp2
          go_ret3
          have h0 := H0.out
          simp only [beq_iff_eq, beq_eq_false_iff_ne] at h0
          first | (rw [HE.out, if_pos (by omega)]; exact ⟨rfl, rfl⟩) | (rw [HE.out, if_neg (by omega)]; exact ⟨rfl, rfl⟩)
      · obtain ⟨h1, h2⟩ := (pl.dg_int x).1 hd
        have HE := Lib.hid (show pl.dt s.data.toList 0 0 = if 16777215 ≤ n * 10 + (x.toNat - 48) then (16777215, k, false) else pl.dt (s.data.toList.drop (k + 1)) (n * 10 + (x.toNat - 48)) (k + 1) by rw [HD.out, pl.dt, if_pos hd])
        clear hd
        by_cases hbig : 16777215 ≤ n * 10 + (x.toNat - 48)
        · rw [if_pos hbig] at HE
          have hbi : (16777215 : Int) ≤ (n : Int) * 10 + ((x.toNat : Int) - 48) := by omega
          clear hbig
          go_wp2
          go_ret3
          rw [HE.out]
          exact ⟨rfl, rfl⟩
        · rw [if_neg hbig] at HE
          have hbi : ¬ (16777215 : Int) ≤ (n : Int) * 10 + ((x.toNat : Int) - 48) := by omega
          go_wp2
          go_round
          case rel => exact ⟨k + 1, _, by omega, by go_num, by rw [show (n : Int) * 10 + ((x.toNat : Int) - 48) = ((n * 10 + (x.toNat - 48) : Nat) : Int) by omega], by omega, HE⟩
          case measure => simp [intOf]; omega
    · rw [List.drop_of_length_le (by omega)] at HD
      have HE := Lib.hid (show pl.dt s.data.toList 0 0 = if k = 0 then (0, 0, false) else (n, k, true) by rw [HD.out, pl.dt])
      rcases hk0 : ((k : Int) == 0) with _ | _
      all_goals
        have H0 := Lib.hid hk0
        go_wp2
        go_ret3
        have h0 := H0.out
        simp only [beq_iff_eq, beq_eq_false_iff_ne] at h0
        first | (rw [HE.out, if_pos (by omega)]; exact ⟨rfl, rfl⟩) | (rw [HE.out, if_neg (by omega)]; exact ⟨rfl, rfl⟩)

end Go.Proofs.YtfkohahlpfejbaaDoor

/- Split: WALKS: Split. -/
namespace Go.Proofs.YtfkohahlpfejbaaDoor
open Go.RowKit

set_option maxHeartbeats 400000 in
theorem split_sp (s : ByteArray) (c : Int) (w : World) (hs : s.size ≤ 4398046511104) :
    Calls Tryd.prog 61 #[.string s, .int .u8 c] w fun e w' => ∃ v, e = .returned v ∧ Strs w' w.heap.size v (pl.split c s.data.toList) ∧ Below w.heap.size w w' := by
  go_enter Tryd.func61, Tryd.ntmps61
  go_wp2_with fail
  go_loopw [5, 6, 10] (fun v f i wr => ∃ k fr : Nat, k ≤ s.size ∧ fr ≤ k ∧ i = .int .i64 k ∧ f = .int .i64 fr ∧ Strs wr w.heap.size v (pl.runS c (s.data.toList.take k)).1 ∧ (pl.runS c (s.data.toList.take k)).2 = (s.data.toList.take k).drop fr ∧ Below w.heap.size w wr) (fun _ _ i _ => s.size - (intOf i).toNat)
  case atStart => exact ⟨0, 0, Nat.zero_le _, Nat.le_refl _, rfl, rfl, World.ownsRow_nil _ _ _ _, rfl, Below.refl _ _⟩
  case round =>
    obtain ⟨k, fr, hk, hf, rfl, rfl, hown, hcur, hb⟩ := hrel
    have HC := Lib.hid hcur
    clear hcur
    by_cases hlt : k < s.size
    · have hle := pl.runS_len c (s.data.toList.take k)
      have hll : (s.data.toList.take k).length ≤ k := List.length_take_le _ _
      go_wp2_with (at_builtin; refine app_str (w := w) ((s.data.toList.take k).drop fr) rfl _ _ rfl rfl w.heap.size hown rfl (pl.extract_strV ..) (by omega) hb (Nat.le_refl _) ?_)
      · intro v' w' hown' hb' _
        have HS := pl.runS_succ c s k hlt
        have hc : (↑s[k].toNat == c) = true := by assumption
        rw [pl.stepS, if_pos (show pl.isB c s[k] = true from hc), HC.out] at HS
        have HS := Lib.hid HS
        clear hown hb hc
        go_wp2
        go_roundw
        case rel => exact ⟨k + 1, k + 1, by omega, Nat.le_refl _, by go_num, by go_num, by rw [HS.out]; exact hown', by rw [HS.out]; simp, hb'⟩
        case measure => simp [intOf]; omega
      · have HS := pl.runS_succ c s k hlt
        have hc : (↑s[k].toNat == c) = false := by assumption
        rw [pl.stepS, if_neg (by rw [pl.isB, hc]; simp), HC.out] at HS
        have HS := Lib.hid HS
        clear hc
        go_roundw
        case rel => exact ⟨k + 1, fr, by omega, by omega, by go_num, rfl, by rw [HS.out]; exact hown, by rw [HS.out, pl.take_drop_succ s fr k hf hlt], hb⟩
        case measure => simp [intOf]; omega
    · have hle := pl.runS_len c s.data.toList
      have hll : s.data.toList.length = s.size := by simp
      rw [pl.take_all s k (by omega)] at HC hown
      go_wp2_with (at_builtin; refine app_str (w := w) (s.data.toList.drop fr) rfl _ _ rfl rfl w.heap.size hown rfl (by rw [pl.extract_strV, ← hll, List.take_length]) (by omega) hb (Nat.le_refl _) ?_)
      intro v' w' hown' hb' _
      clear hown hb
      go_wp2
      go_ret
      exact ⟨_, rfl, by rw [pl.split, HC.out]; exact hown', hb'⟩

end Go.Proofs.YtfkohahlpfejbaaDoor

/- Four: WALK: the reference's four. -/
namespace Go.Proofs.YtfkohahlpfejbaaDoor
open Go.RowKit

/-- bytes and whether they are some: what a reader of the reference's returns -/
def BytRes (w w' : World) (e : Ending) (o : Option (List UInt8)) : Prop :=
  Below w.heap.size w w' ∧ ((∃ v l, o = some l ∧ e = .returned (.tuple #[v, .bool true]) ∧ Byts w' w.heap.size v l) ∨ (o = none ∧ ∃ a n c, e = .returned (.tuple #[.slice a n c, .bool false])))

theorem pl.four_ok (s l : List UInt8) (h : pl.octs (pl.split 46 s) = some l) (hl : l.length = 4) : pl.four s = some l := by unfold pl.four; rw [h]; exact if_pos hl
theorem pl.four_len (s l : List UInt8) (h : pl.octs (pl.split 46 s) = some l) (hl : l.length ≠ 4) : pl.four s = none := by unfold pl.four; rw [h]; exact if_neg hl
theorem pl.four_bad (s : List UInt8) (h : pl.octs (pl.split 46 s) = none) : pl.four s = none := by unfold pl.four; rw [h]

theorem pl.octs_at (ps : List (List UInt8)) (k : Nat) (p : List UInt8) (hk : ps[k]? = some p) (h : pl.oct p = none) : pl.octs ps = none := by
  have hlt : k < ps.length := (List.getElem?_eq_some_iff.1 hk).1
  have e : ps = ps.take k ++ p :: ps.drop (k + 1) := by
    have h1 := List.take_append_drop k ps
    have h2 : ps.drop k = p :: ps.drop (k + 1) := by
      rw [List.drop_eq_getElem_cons hlt]
      congr 1
      exact (List.getElem?_eq_some_iff.1 hk).2
    rw [h2] at h1
    exact h1.symm
  rw [e]
  exact pl.octs_bad _ _ p h

theorem pl.octs_next (ps : List (List UInt8)) (k : Nat) (p l : List UInt8) (b : UInt8) (hk : ps[k]? = some p) (h : pl.octs (ps.take k) = some l) (hb : pl.oct p = some b) : pl.octs (ps.take (k + 1)) = some (l ++ [b]) := by
  rw [List.take_add_one, hk]
  exact pl.octs_snoc _ p l b h hb

theorem pl.head_is (s : ByteArray) (h : 0 < s.size) (hh : s.data.toList.head? = some 48) : ((s[0].toNat : Int) == 48) = true := by
  have h1 := pl.getElem_data s 0 h
  rw [← List.head?_eq_getElem?, hh] at h1
  injection h1 with h1
  rw [← h1]
  rfl
theorem pl.head_not (s : ByteArray) (h : 0 < s.size) (hh : s.data.toList.head? ≠ some 48) : ((s[0].toNat : Int) == 48) = false := by
  have h1 := pl.getElem_data s 0 h
  rw [← List.head?_eq_getElem?] at h1
  rw [beq_eq_false_iff_ne]
  intro e
  apply hh
  rw [h1]
  congr 1
  exact UInt8.toNat_inj.1 (by have : (48 : UInt8).toNat = 48 := rfl; omega)

theorem dec_val (s : ByteArray) (n : Nat) (w : World) (hs : s.size ≤ 17592186044416) (h : pl.decimal s.data.toList = some n) :
    Calls Tryd.prog 53 #[.string s] w fun e w' => e = .returned (.tuple #[.int .i64 n, .bool true]) ∧ w = w' := by
  refine (dec_sp s w hs).mono fun e w' ⟨he, hw⟩ => ⟨?_, hw⟩
  rcases he with ⟨v, hv, he⟩ | ⟨hn, _⟩
  · rw [h] at hv
    injection hv with hv
    rw [he, hv]
  · rw [h] at hn
    cases hn

theorem dec_no (s : ByteArray) (w : World) (hs : s.size ≤ 17592186044416) (h : pl.decimal s.data.toList = none) :
    Calls Tryd.prog 53 #[.string s] w fun e w' => (∃ n : Int, e = .returned (.tuple #[.int .i64 n, .bool false])) ∧ w = w' := by
  refine (dec_sp s w hs).mono fun e w' ⟨he, hw⟩ => ⟨?_, hw⟩
  rcases he with ⟨v, hv, he⟩ | ⟨_, he⟩
  · rw [h] at hv
    cases hv
  · exact he

set_option maxRecDepth 100000 in
set_option maxHeartbeats 2000000 in
theorem four_sp (s : ByteArray) (w : World) (hs : s.size ≤ 2147483648) :
    Calls Tryd.prog 43 #[.string s] w fun e w' => BytRes w w' e (pl.four s.data.toList) := by
  have hl : s.data.toList.length = s.size := by simp
  have hpl := pl.split_len 46 s
  obtain ⟨F, hF⟩ : ∃ F, pl.four s.data.toList = F := ⟨_, rfl⟩
  rw [hF]
  obtain ⟨L, hL⟩ : ∃ L, pl.split 46 s.data.toList = L := ⟨_, rfl⟩
  have hpart := pl.split_size 46 s
  have hok := pl.four_ok s.data.toList
  have hfl := pl.four_len s.data.toList
  have hbad := pl.four_bad s.data.toList
  have hsp := split_sp s 46 w (by omega)
  rw [hL] at hpl hpart hok hfl hbad hsp
  rw [hF] at hok hfl hbad
  have HO := Lib.hid hok
  have HFL := Lib.hid hfl
  have HB := Lib.hid hbad
  have HP := Lib.hid hpart
  have HS := Lib.hid hsp
  clear hok hfl hbad hpart hsp hL hF hl
  go_enter Tryd.func43, Tryd.ntmps43
  go_wp2_with (go_at_call 61; refine HS.out.mono ?_; rintro e w1 ⟨vl, rfl, hS, hb1⟩; obtain ⟨a1, k1, rfl, hcell⟩ := hS.form)
  have HC := Lib.hid hcell
  clear hcell
  go_loopw [4, 12] (fun v iv wr => ∃ (k : Nat) (acc : List UInt8), k ≤ L.length ∧ iv = .int .i64 k ∧ Hid (pl.octs (L.take k) = some acc) ∧ Hid (acc.length = k) ∧ Byts wr w1.heap.size v acc ∧ Below w1.heap.size w1 wr) (fun _ iv _ => L.length - (intOf iv).toNat)
  case atStart => exact ⟨0, [], Nat.zero_le _, rfl, Lib.hid rfl, Lib.hid rfl, Byts.nil _ _, Below.refl _ _⟩
  case round =>
    obtain ⟨k, acc, hk, rfl, HK, HAL, hown, hbel⟩ := hrel
    by_cases hlt : k < L.length
    · obtain ⟨P, hp⟩ : ∃ P : ByteArray, L[k]? = some P.data.toList := ⟨⟨(L[k]).toArray⟩, by rw [List.getElem?_eq_getElem hlt]⟩
      obtain ⟨g, rfl, hg, hB, hc⟩ := HC.out k _ hp
      have hc' : wr.cell? ⟨g, k, none⟩ = some (.string P) := by rw [below_cell hbel _ _ hg]; exact hc
      have hps := HP.out k P hp
      have hpll : P.data.toList.length = P.size := by simp
      have hoc := pl.oct_cases P.data.toList
      have hat := pl.octs_at L k _ hp
      have hnext := fun b => pl.octs_next L k _ acc b hp HK.out
      rw [hpll] at hoc
      have HP0 := Lib.hid hp
      clear hc hp hpll
      rcases hoc with ⟨hd, ho⟩ | ⟨n, hd, h1, ho⟩ | ⟨n, hd, h1, h2, h3, ho⟩ | ⟨n, hd, h1, h2, ho⟩
      · have hn := HB.out (hat ho)
        have HN := Lib.hid hn
        have HD := Lib.hid hd
        clear hn hd ho hat hnext
        go_wp2_with (go_at_call 53; refine (dec_no P _ (by omega) HD.out).mono ?_; rintro e w' ⟨⟨n, rfl⟩, rfl⟩)
        go_ret2
        exact ⟨hb1.trans (hbel.mono hb1.size), .inr ⟨HN.out, _, _, _, rfl⟩⟩
      · have hn := HB.out (hat ho)
        have HN := Lib.hid hn
        have HD := Lib.hid hd
        have h1' : (255 : Int) < (n : Int) := by omega
        clear hn hd ho hat hnext
        go_wp2_with (go_at_call 53; refine (dec_val P n _ (by omega) HD.out).mono ?_; rintro e w' ⟨rfl, rfl⟩)
        go_ret2
        exact ⟨hb1.trans (hbel.mono hb1.size), .inr ⟨HN.out, _, _, _, rfl⟩⟩
      · have hn := HB.out (hat ho)
        have HN := Lib.hid hn
        have HD := Lib.hid hd
        have h1' : ¬ (255 : Int) < (n : Int) := by omega
        have h0 : 0 < P.size := by omega
        have h0v : ((P[0].toNat : Int) == 48) = true := pl.head_is P h0 h3
        clear hn hd ho hat hnext h3
        go_wp2_with (go_at_call 53; refine (dec_val P n _ (by omega) HD.out).mono ?_; rintro e w' ⟨rfl, rfl⟩)
        go_ret2
        exact ⟨hb1.trans (hbel.mono hb1.size), .inr ⟨HN.out, _, _, _, rfl⟩⟩
      · have hn := hnext _ ho
        have hal := HAL.out
        have HN := Lib.hid hn
        have HD := Lib.hid hd
        have h1' : ¬ (255 : Int) < (n : Int) := by omega
        have hu : Value.int IntKind.u8 (n : Int) = pl.byteV (UInt8.ofNat n) := by
          unfold pl.byteV
          rw [UInt8.toNat_ofNat_of_lt' (by show n < 256; omega)]
        obtain ⟨u, hU⟩ : ∃ u, UInt8.ofNat n = u := ⟨_, rfl⟩
        rw [hU] at hu HN
        have HU := Lib.hid hu
        have hkb : acc.length < 70368744177664 := by omega
        clear hn hd ho hat hnext hU hu hal
        by_cases hbig : 1 < P.size
        · have h0 : 0 < P.size := by omega
          have h0v : ((P[0].toNat : Int) == 48) = false := pl.head_not P h0 (by
            rcases h2 with h | h
            · exact absurd hbig h
            · exact h)
          have hbig' : (1 : Int) < (P.size : Int) := by omega
          clear h2
          go_wp2_with (first | (go_at_call 53; refine (dec_val P n _ (by omega) HD.out).mono ?_; rintro e w' ⟨rfl, rfl⟩) | (at_builtin; refine app_byte (w := w1) u 26 Tryd.underlying26 rfl _ _ rfl rfl w1.heap.size hown rfl HU.out hkb hbel (Nat.le_refl _) ?_))
          intro v1 w2 hown1 hbel1
          go_wp2_with fail
          go_roundw
          case rel => exact ⟨k + 1, _, by omega, by go_num, HN, Lib.hid (by rw [List.length_append, List.length_singleton, HAL.out]), hown1, hbel1⟩
          case measure => simp [intOf]; omega
        · have hbig' : ¬ (1 : Int) < (P.size : Int) := by omega
          clear h2
          go_wp2_with (first | (go_at_call 53; refine (dec_val P n _ (by omega) HD.out).mono ?_; rintro e w' ⟨rfl, rfl⟩) | (at_builtin; refine app_byte (w := w1) u 26 Tryd.underlying26 rfl _ _ rfl rfl w1.heap.size hown rfl HU.out hkb hbel (Nat.le_refl _) ?_))
          intro v1 w2 hown1 hbel1
          go_wp2_with fail
          go_roundw
          case rel => exact ⟨k + 1, _, by omega, by go_num, HN, Lib.hid (by rw [List.length_append, List.length_singleton, HAL.out]), hown1, hbel1⟩
          case measure => simp [intOf]; omega
    · have hke : k = L.length := by omega
      have hka : pl.octs L = some acc := by rw [← HK.out, hke, List.take_length]
      obtain ⟨a2, k2, rfl, _⟩ := hown.reads
      have HKA := Lib.hid hka
      clear hka hke
      by_cases h4 : acc.length = 4
      · have hf := HO.out acc HKA.out h4
        have HF4 := Lib.hid hf
        have h4' : ((acc.length : Int) == 4) = true := by rw [h4]; rfl
        clear hf h4
        go_wp2_with fail
        go_ret2
        exact ⟨hb1.trans (hbel.mono hb1.size), .inl ⟨_, acc, HF4.out, rfl, hown.mono hb1.size⟩⟩
      · have hf := HFL.out acc HKA.out h4
        have HF4 := Lib.hid hf
        have h4' : ((acc.length : Int) == 4) = false := by rw [beq_eq_false_iff_ne]; omega
        clear hf h4
        go_wp2_with fail
        go_ret2
        exact ⟨hb1.trans (hbel.mono hb1.size), .inr ⟨HF4.out, _, _, _, rfl⟩⟩

end Go.Proofs.YtfkohahlpfejbaaDoor

/- BytApp: THE LAW: 'append(out, x...)' of bytes, x nil or not. -/
namespace Go.Proofs.YtfkohahlpfejbaaDoor
open Go.RowKit

theorem app_bytes {ops : Array Oper} {rest : List Oper} {o : Oper} {a : Act} {Q : Exit → Act → World → Prop} {w wr : World} {v yv : Value} {l m : List UInt8} (t : TypeId) (hu : Tryd.prog.underlying t = some (.slice 5))
    (hgd : o.guard = none) (s y : Operand) (ho : o.op = .call { callee := .builtin .append, args := #[s, y], argTypes := #[t, t] })
    (hs : a.eval s = v) (B : Nat) (hown : Byts wr B v l) (hy : a.eval y = yv) (hr : Reads wr yv m) (hlen : l.length + m.length ≤ 70368744177664) (hb : Below B w wr) (hB : B ≤ w.heap.size)
    (h : ∀ v' w', Byts w' B v' (l ++ m) → Below B w w' → wpList Tryd.prog ops Q rest (a.put o.dst v') w') : wpList Tryd.prog ops Q (o :: rest) a wr := by
  obtain ⟨i0, hi, hz0, hz1, hz2⟩ := info_parts infoByte
  have hsz := hb.size
  obtain ⟨ao, cap, rfl, h1, h2, h0, h3⟩ := hr
  rcases ao with _ | x
  · have hm : m = [] := List.eq_nil_of_length_eq_zero (by have := h0 rfl; omega)
    have hc0 : cap = 0 := h0 rfl
    rw [hm] at hy
    rw [hc0] at hy
    refine wpList_append_own_none hgd s y t ho B 5 i0 1 hu hi v l.length (l.map pl.byteV) hs hown hy (h v wr ?_ hb)
    rw [hm, List.append_nil]
    exact hown
  · refine wpList_append_own _ hgd s y t ho B 5 i0 (.int .u8 0) 1 1 hu hi hz0 hz1 hz2 rfl (by decide) v l.length (l.map pl.byteV) hs hown x m.length cap (m.map pl.byteV) hy (by simp) ?_ ?_ ?_ ?_ ?_ ?_
    · intro j u hj
      rw [List.getElem?_map, Option.map_eq_some_iff] at hj
      obtain ⟨b, hb', rfl⟩ := hj
      obtain ⟨g, off, ha, _, hc⟩ := h3 j b hb'
      rw [Option.some.inj ha, Addr.add_lit]
      exact hc
    · intro u hu
      obtain ⟨b, _, rfl⟩ := List.mem_map.1 hu
      rfl
    · unfold maxLen; omega
    · omega
    · omega
    · intro v' w' h1 h2 _
      refine h v' w' ?_ ?_
      · unfold Byts
        rw [List.length_append, List.map_append]
        exact h1
      · exact hb.grown h2 (by omega) (fun k hk => ((World.ownsRow.lt hown) k hk).1)

end Go.Proofs.YtfkohahlpfejbaaDoor

/- Hex: WALKS: Digit, xtoi; the thin package's Dtoi and Xtoi. -/
namespace Go.Proofs.YtfkohahlpfejbaaDoor
open Go.RowKit

/-- what Digit returns -/
theorem dig_sp (b : UInt8) (w : World) :
    Calls Tryd.prog 62 #[.int .u8 b.toNat] w fun e w' => e = .returned (.tuple #[.int .i64 ((pl.hexv b).getD 0 : Nat), .bool (pl.hexv b).isSome]) ∧ w = w' := by
  have hby := UInt8.toNat_lt b
  have HE := pl.hexv_cases b
  obtain ⟨x, hx⟩ : ∃ x : Int, (b.toNat : Int) = x := ⟨_, rfl⟩
  rw [hx] at HE ⊢
  have hx0 : 0 ≤ x := by omega
  have hx1 : x < 256 := by omega
  clear hx
  rcases HE with ⟨HE, h1, h2⟩ | ⟨HE, h1, h2⟩ | ⟨HE, h1, h2⟩ | ⟨HE, h1⟩ | ⟨HE, h1, h2⟩ | ⟨HE, h1, h2⟩ | ⟨HE, h1⟩
  all_goals
    go_enter Tryd.func62, Tryd.ntmps62
    go_wp2
    go_ret2
    exact ⟨ret_ib HE.1.out.symm HE.2.out.symm, rfl⟩

end Go.Proofs.YtfkohahlpfejbaaDoor

/- Groups: WALK: the reference's groups. -/
namespace Go.Proofs.YtfkohahlpfejbaaDoor
open Go.RowKit

/-- 'out = append(out, a, b)' of two bytes. -/
theorem app_two {ops : Array Oper} {rest : List Oper} {o : Oper} {a : Act} {Q : Exit → Act → World → Prop} {w wr : World} {v : Value} {l : List UInt8} {x y : Value} (b c : UInt8) (t : TypeId) (hu : Tryd.prog.underlying t = some (.slice 5))
    (hgd : o.guard = none) (s y' : Operand) (ho : o.op = .call { callee := .builtin .append, args := #[s, y'], argTypes := #[t, t] })
    (hs : a.eval s = v) (B : Nat) (hown : Byts wr B v l) (hy : a.eval y' = .slice (some ⟨wr.heap.size, 0, none⟩) 2 2) (hp : x = pl.byteV b) (hq : y = pl.byteV c) (hlen : l.length < 70368744177664) (hb : Below B w wr) (hB : B ≤ w.heap.size)
    (h : ∀ v' w', Byts w' B v' (l ++ [b, c]) → Below B w w' → wpList Tryd.prog ops Q rest (a.put o.dst v') w') : wpList Tryd.prog ops Q (o :: rest) a (wr.alloc (.cells #[x, y] 5)) := by
  obtain ⟨i0, hi, hz0, hz1, hz2⟩ := info_parts infoByte
  have hsz := hb.size
  refine wpList_append_own _ hgd s y' t ho B 5 i0 (.int .u8 0) 1 1 hu hi hz0 hz1 hz2 rfl (by decide) v l.length (l.map pl.byteV) hs (World.ownsRow.alloc hown _) ⟨wr.heap.size, 0, none⟩ 2 2 [x, y] hy rfl ?_ ?_ ?_ ?_ ?_ ?_
  · intro j u hj
    have hn : (wr.alloc (.cells #[x, y] 5)).heap[wr.heap.size]? = some (.cells #[x, y] 5 (0, 0)) := heap_alloc_new _ _
    rw [Addr.add_lit]
    show (wr.alloc (.cells #[x, y] 5)).cell? ⟨wr.heap.size, 0 + j, none⟩ = some u
    rw [Nat.zero_add, cell_of_row _ _ _ _ _ _ hn]
    simpa using hj
  · intro u hu
    rw [List.mem_cons, List.mem_singleton] at hu
    rcases hu with rfl | rfl
    · rw [hp]; rfl
    · rw [hq]; rfl
  · unfold maxLen; omega
  · omega
  · simp; omega
  · intro v' w' h1 h2 _
    refine h v' w' ?_ ?_
    · subst hp hq
      unfold Byts
      rw [List.length_append, List.map_append]
      exact h1
    · have hb2 : Below B w (wr.alloc (.cells #[x, y] 5)) := hb.alloc (by omega) _
      exact hb2.grown h2 (by simp; omega) (fun k hk => ((World.ownsRow.lt hown) k hk).1)

theorem four_no (P : ByteArray) (W : World) (hs : P.size ≤ 2147483648) (h : pl.four P.data.toList = none) :
    Calls Tryd.prog 43 #[.string P] W fun e w' => ∃ a n c, e = .returned (.tuple #[.slice a n c, .bool false]) ∧ Below W.heap.size W w' := by
  refine (four_sp P W hs).mono fun e w' hr => ?_
  rw [h] at hr
  obtain ⟨hb, ⟨v, l, h1, _⟩ | ⟨_, a, n, c, he⟩⟩ := hr
  · cases h1
  · exact ⟨a, n, c, he, hb⟩

theorem four_yes (P : ByteArray) (W : World) (b : List UInt8) (hs : P.size ≤ 2147483648) (h : pl.four P.data.toList = some b) :
    Calls Tryd.prog 43 #[.string P] W fun e w' => ∃ v, e = .returned (.tuple #[v, .bool true]) ∧ Byts w' W.heap.size v b ∧ Below W.heap.size W w' := by
  refine (four_sp P W hs).mono fun e w' hr => ?_
  rw [h] at hr
  obtain ⟨hb, ⟨v, l, h1, he, hY⟩ | ⟨h1, _⟩⟩ := hr
  · injection h1 with h1; subst h1; exact ⟨v, he, hY, hb⟩
  · cases h1

theorem pl.four_l4 (s b : List UInt8) (h : pl.four s = some b) : b.length = 4 := by
  unfold pl.four at h
  split at h
  · split at h
    · injection h with h; subst h; assumption
    · cases h
  · cases h

theorem pl.hexG_bad (P : ByteArray) (j : Nat) (hj : j < P.size) (h : pl.hexv P[j] = none) : pl.hexG P.data.toList = none := by
  unfold pl.hexG
  rw [if_neg]
  rintro ⟨h1, _⟩
  have := List.all_eq_true.1 h1 P[j] (List.mem_of_getElem? (pl.getElem_data P j hj))
  unfold pl.isHex at this
  rw [h] at this
  cases this

theorem pl.all_hex_succ (s : ByteArray) (k : Nat) (h : k < s.size) (hd : (s.data.toList.take k).all pl.isHex = true) (hb : pl.isHex s[k] = true) : (s.data.toList.take (k + 1)).all pl.isHex = true := by
  rw [pl.take_succ s k h, List.all_append, hd]; simp [hb]

theorem pl.hexV_le (l : List UInt8) (n : Nat) (h : l.length ≤ n) : pl.hexV 0 l < 16 ^ n :=
  Nat.lt_of_lt_of_le (pl.hexV_lt l) (Nat.pow_le_pow_right (by omega) h)

theorem pl.hexG_ok (P : ByteArray) (h : P.data.toList.all pl.isHex = true) (h1 : 1 ≤ P.size) (h4 : P.size ≤ 4) : pl.hexG P.data.toList = some [UInt8.ofNat (pl.hexV 0 P.data.toList / 256), UInt8.ofNat (pl.hexV 0 P.data.toList)] := by
  unfold pl.hexG
  rw [if_pos ⟨h, by simp; omega, by simp; omega⟩]
theorem pl.hexG_len (P : ByteArray) (h : ¬ (1 ≤ P.size ∧ P.size ≤ 4)) : pl.hexG P.data.toList = none := by
  unfold pl.hexG
  rw [if_neg]
  rintro ⟨_, h1, h2⟩
  have hl : P.data.toList.length = P.size := by simp
  exact h ⟨by omega, by omega⟩
theorem pl.byte_hi (m : Nat) (h : m < 65536) : Value.int IntKind.u8 ((m : Int) / 256) = pl.byteV (UInt8.ofNat (m / 256)) := by
  unfold pl.byteV
  rw [UInt8.toNat_ofNat_of_lt' (by show m / 256 < 256; omega)]
  rfl
theorem pl.byte_lo (m : Nat) : Value.int IntKind.u8 ((m : Int) % 256) = pl.byteV (UInt8.ofNat m) := by
  unfold pl.byteV
  have e : ((UInt8.ofNat m).toNat : Int) = (m : Int) % 256 := by simp
  rw [e]

set_option maxRecDepth 100000 in
set_option maxHeartbeats 4000000 in
theorem groups_sp (s : ByteArray) (last : Bool) (w : World) (hs : s.size ≤ 2147483648) :
    Calls Tryd.prog 44 #[.string s, .bool last] w fun e w' => BytRes w w' e (pl.groups s.data.toList last) := by
  by_cases h0 : s.size = 0
  · have he := pl.emp_of s h0
    have hn := pl.nil_of s h0
    have hg : pl.groups s.data.toList last = some [] := by unfold pl.groups; rw [if_pos hn]
    rw [hg]
    clear h0 hn hg
    go_enter Tryd.func44, Tryd.ntmps44
    go_wp2_with fail
    go_ret2
    exact ⟨Below.refl _ _, .inl ⟨_, [], rfl, rfl, Byts.nil _ _⟩⟩
  · have he := pl.ne_empty s h0
    have hg : pl.groups s.data.toList last = pl.grps last (pl.split 58 s.data.toList) := by unfold pl.groups; rw [if_neg (pl.data_ne s h0)]
    rw [hg]
    have hpl := pl.split_len 58 s
    have hpart := pl.split_size 58 s
    have hsp := split_sp s 58 w (by omega)
    obtain ⟨L, hL⟩ : ∃ L, pl.split 58 s.data.toList = L := ⟨_, rfl⟩
    rw [hL] at hpl hpart hsp
    rw [hL]
    obtain ⟨G, hG⟩ : ∃ G, pl.grps last L = G := ⟨_, rfl⟩
    rw [hG]
    have HG := Lib.hid hG
    have HP := Lib.hid hpart
    have HS := Lib.hid hsp
    clear hg hpart hsp hL hG h0
    go_enter Tryd.func44, Tryd.ntmps44
    go_wp2_with (go_at_call 61; refine HS.out.mono ?_; rintro e w1 ⟨vl, rfl, hS, hb1⟩; obtain ⟨a1, k1, rfl, hcell⟩ := hS.form)
    have HC := Lib.hid hcell
    clear hcell
    go_loopw [6, 22] (fun v iv wr => ∃ (k : Nat) (acc : List UInt8), k ≤ L.length ∧ iv = .int .i64 k ∧ Hid (pl.hexAll (L.take k) = some acc) ∧ Hid (acc.length ≤ 2 * k) ∧ Hid (k = L.length → G = some acc) ∧ Byts wr w1.heap.size v acc ∧ Below w1.heap.size w1 wr) (fun _ iv _ => L.length - (intOf iv).toNat)
    case atStart =>
      refine ⟨0, [], Nat.zero_le _, rfl, Lib.hid rfl, Lib.hid (Nat.le_refl _), Lib.hid (fun h => ?_), Byts.nil _ _, Below.refl _ _⟩
      have : L = [] := List.eq_nil_of_length_eq_zero h.symm
      rw [← HG.out, this]; rfl
    case round =>
      obtain ⟨k, acc, hk, rfl, HK, HAL, HE, hown, hbel⟩ := hrel
      by_cases hlt : k < L.length
      · obtain ⟨P, hp⟩ : ∃ P : ByteArray, L[k]? = some P.data.toList := ⟨⟨(L[k]).toArray⟩, by rw [List.getElem?_eq_getElem hlt]⟩
        obtain ⟨g, rfl, hg, hB, hc⟩ := HC.out k _ hp
        have hc' : wr.cell? ⟨g, k, none⟩ = some (.string P) := by rw [below_cell hbel _ _ hg]; exact hc
        have hps := HP.out k P hp
        have HP0 := Lib.hid hp
        have hal := HAL.out
        clear hc hp
        rcases hF : pl.four P.data.toList with _ | b
        · have hcase := fun W => four_no P W (by omega) hF
          have HF := Lib.hid hcase
          have hbad : pl.hexG P.data.toList = none → G = none := fun h => by rw [← HG.out]; exact pl.grps_bad last L k _ acc HP0.out HK.out h (fun _ _ => hF)
          have hend : ∀ b, pl.hexG P.data.toList = some b → k + 1 = L.length → G = some (acc ++ b) := fun b h hl => by rw [← HG.out]; exact pl.grps_end last L k _ acc b HP0.out hl HK.out h (fun _ => hF)
          have HBAD := Lib.hid hbad
          have HEND := Lib.hid hend
          clear hbad hend hF hcase
          go_wp2_with (go_at_call 43; refine (HF.out _).mono ?_; rintro e w2 ⟨af, nf, cf, rfl, hb2⟩)
          have hown2 := hown.below hb2
          have hbel2 := hbel.trans (hb2.mono hbel.size)
          go_loopw [12, 48] (fun nv jv wi => ∃ (j : Nat) (n : Int), j ≤ P.size ∧ jv = .int .i64 j ∧ nv = .int .i64 n ∧ Hid ((P.data.toList.take j).all pl.isHex = true) ∧ Hid (j ≤ 4 → n = pl.hexV 0 (P.data.toList.take j)) ∧ wi = w2) (fun _ jv _ => P.size - (intOf jv).toNat)
          case atStart => exact ⟨0, 0, Nat.zero_le _, rfl, rfl, Lib.hid (by simp), Lib.hid (fun _ => rfl), rfl⟩
          case round =>
            obtain ⟨j, n, hj, rfl, rfl, HA, HN, rfl⟩ := hrel
            by_cases hjl : j < P.size
            · obtain ⟨x, hx⟩ : ∃ x, P[j] = x := ⟨_, rfl⟩
              have hdg := dig_sp x
              rcases hh : pl.hexv x with _ | d
              · have hno := HBAD.out (pl.hexG_bad P j hjl (by rw [hx]; exact hh))
                rw [hh] at hdg
                have hdg' : ∀ W, Calls Tryd.prog 62 #[.int .u8 x.toNat] W fun e w' => e = .returned (.tuple #[.int .i64 0, .bool false]) ∧ W = w' := hdg
                have HD := Lib.hid hdg'
                have HNO := Lib.hid hno
                clear hdg hdg' hh hno
                go_wp2_with (go_at_call 62; refine (HD.out _).mono ?_; rintro e w' ⟨rfl, rfl⟩)
                go_ret2
                exact ⟨hb1.trans (hbel2.mono hb1.size), .inr ⟨HNO.out, _, _, _, rfl⟩⟩
              · have hd := pl.hexv_lt x d hh
                have hall := pl.all_hex_succ P j hjl HA.out (by rw [hx]; unfold pl.isHex; rw [hh]; rfl)
                rw [hh] at hdg
                have hdg' : ∀ W, Calls Tryd.prog 62 #[.int .u8 x.toNat] W fun e w' => e = .returned (.tuple #[.int .i64 (d : Int), .bool true]) ∧ W = w' := hdg
                have HD := Lib.hid hdg'
                have HALL := Lib.hid hall
                have HH := Lib.hid hh
                clear hdg hdg' hh hall
                by_cases hj4 : j ≤ 3
                · have hnn := HN.out (by omega)
                  have hbd := pl.hexV_le (P.data.toList.take j) 3 (by rw [List.length_take]; omega)
                  obtain ⟨m, hm⟩ : ∃ m, pl.hexV 0 (P.data.toList.take j) = m := ⟨_, rfl⟩
                  rw [hm] at hbd hnn
                  subst hnn
                  have HM := Lib.hid hm
                  clear hm HN
                  go_wp2_with (go_at_call 62; refine (HD.out _).mono ?_; rintro e w' ⟨rfl, rfl⟩)
                  go_roundw
                  case rel => exact ⟨j + 1, _, by omega, by go_num, rfl, HALL, Lib.hid (fun _ => by rw [pl.take_succ P j hjl, pl.hexV_snoc, HM.out, hx, HH.out]; simp), by first | rfl | trivial⟩
                  case measure => simp [intOf]; omega
                · go_wp2_with (go_at_call 62; refine (HD.out _).mono ?_; rintro e w' ⟨rfl, rfl⟩)
                  go_roundw
                  case rel => exact ⟨j + 1, _, by omega, by go_num, rfl, HALL, Lib.hid (fun h => absurd h (by omega)), by first | rfl | trivial⟩
                  case measure => simp [intOf]; omega
            · have ej := pl.take_all P j (by omega)
              rw [ej] at HA HN
              have hje : j = P.size := by omega
              clear ej
              by_cases h14 : 1 ≤ P.size ∧ P.size ≤ 4
              · obtain ⟨h1, h4⟩ := h14
                have hnn := HN.out (by omega)
                have hbd := pl.hexV_le P.data.toList 4 (by simp; omega)
                have hgx := pl.hexG_ok P HA.out h1 h4
                obtain ⟨m, hm⟩ : ∃ m, pl.hexV 0 P.data.toList = m := ⟨_, rfl⟩
                rw [hm] at hbd hnn hgx
                subst hnn
                have hnx := pl.hexAll_next L k _ acc _ HP0.out HK.out hgx
                have hen := HEND.out _ hgx
                have hu1 : Value.int IntKind.u8 ((m : Int) / 256) = pl.byteV (UInt8.ofNat (m / 256)) := pl.byte_hi m hbd
                have hu2 : Value.int IntKind.u8 ((m : Int) % 256) = pl.byteV (UInt8.ofNat m) := pl.byte_lo m
                have HNX := Lib.hid hnx
                have HEN := Lib.hid hen
                have HU1 := Lib.hid hu1
                have HU2 := Lib.hid hu2
                obtain ⟨U1, hU1⟩ : ∃ u, UInt8.ofNat (m / 256) = u := ⟨_, rfl⟩
                obtain ⟨U2, hU2⟩ : ∃ u, UInt8.ofNat m = u := ⟨_, rfl⟩
                rw [hU1] at HU1 HNX HEN
                rw [hU2] at HU2 HNX HEN
                clear hm HN HA hgx hnx hen hu1 hu2 hU1 hU2
                have hkb : acc.length < 70368744177664 := by omega
                go_wp2_with (at_builtin; refine app_two (w := w1) U1 U2 26 Tryd.underlying26 rfl _ _ rfl rfl w1.heap.size hown2 rfl HU1.out HU2.out hkb hbel2 (Nat.le_refl _) ?_)
                intro v1 w3 hown3 hbel3
                go_wp2_with fail
                go_roundw
                case rel => exact ⟨k + 1, _, by omega, by go_num, HNX, Lib.hid (by rw [List.length_append, List.length_cons, List.length_singleton]; omega), Lib.hid HEN.out, hown3, hbel3⟩
                case measure => simp [intOf]; omega
              · have hgx : pl.hexG P.data.toList = none := pl.hexG_len P h14
                have hno := HBAD.out hgx
                have HNO := Lib.hid hno
                clear hno hgx HN
                rcases (show ¬ (1 ≤ P.size) ∨ (1 ≤ P.size ∧ 4 < P.size) by omega) with h1 | ⟨h1, h4⟩
                · have h1' : (P.size : Int) < 1 := by omega
                  clear h14 h1
                  go_wp2_with fail
                  go_ret2
                  exact ⟨hb1.trans (hbel2.mono hb1.size), .inr ⟨HNO.out, _, _, _, rfl⟩⟩
                · have h1' : ¬ (P.size : Int) < 1 := by omega
                  have h4' : (4 : Int) < (P.size : Int) := by omega
                  clear h14 h1 h4
                  go_wp2_with fail
                  go_ret2
                  exact ⟨hb1.trans (hbel2.mono hb1.size), .inr ⟨HNO.out, _, _, _, rfl⟩⟩
        · have hcase := fun W => four_yes P W b (by omega) hF
          have HF := Lib.hid hcase
          by_cases hret : last = true ∧ k + 1 = L.length
          · obtain ⟨rfl, hkl⟩ := hret
            have hgr : G = some (acc ++ b) := by rw [← HG.out]; exact pl.grps_four L k _ acc b HP0.out hkl HK.out hF
            have hb4 := pl.four_l4 _ b hF
            have hkl' : ((k : Int) == (L.length : Int) - 1) = true := by rw [beq_iff_eq]; omega
            have HGR := Lib.hid hgr
            clear hgr hF hcase
            go_wp2_with (first | (go_at_call 43; refine (HF.out _).mono ?_; rintro e w2 ⟨vf, rfl, hYf, hb2⟩; have hown2 := hown.below hb2; have hbel2 := hbel.trans (hb2.mono hbel.size)) | (at_builtin; refine app_bytes (w := w1) 26 Tryd.underlying26 rfl _ _ rfl rfl w1.heap.size hown2 rfl hYf.reads (by omega) hbel2 (Nat.le_refl _) ?_))
            intro v1 w3 hown3 hbel3
            go_wp2_with fail
            go_ret2
            exact ⟨hb1.trans (hbel3.mono hb1.size), .inl ⟨_, _, HGR.out, rfl, hown3.mono hb1.size⟩⟩
          · have hbad : pl.hexG P.data.toList = none → G = none := fun h => by rw [← HG.out]; exact pl.grps_bad last L k _ acc HP0.out HK.out h (fun h1 h2 => absurd ⟨h1, h2⟩ hret)
            have hend : ∀ b, pl.hexG P.data.toList = some b → k + 1 = L.length → G = some (acc ++ b) := fun b h hl => by rw [← HG.out]; exact pl.grps_end last L k _ acc b HP0.out hl HK.out h (fun h1 => absurd ⟨h1, hl⟩ hret)
            have HBAD := Lib.hid hbad
            have HEND := Lib.hid hend
            clear hbad hend hF hcase
            rcases last with _ | _
            · clear hret
              go_wp2_with (go_at_call 43; refine (HF.out _).mono ?_; rintro e w2 ⟨vf, rfl, _, hb2⟩)
              have hown2 := hown.below hb2
              have hbel2 := hbel.trans (hb2.mono hbel.size)
              go_loopw [12, 48] (fun nv jv wi => ∃ (j : Nat) (n : Int), j ≤ P.size ∧ jv = .int .i64 j ∧ nv = .int .i64 n ∧ Hid ((P.data.toList.take j).all pl.isHex = true) ∧ Hid (j ≤ 4 → n = pl.hexV 0 (P.data.toList.take j)) ∧ wi = w2) (fun _ jv _ => P.size - (intOf jv).toNat)
              case atStart => exact ⟨0, 0, Nat.zero_le _, rfl, rfl, Lib.hid (by simp), Lib.hid (fun _ => rfl), rfl⟩
              case round =>
                obtain ⟨j, n, hj, rfl, rfl, HA, HN, rfl⟩ := hrel
                by_cases hjl : j < P.size
                · obtain ⟨x, hx⟩ : ∃ x, P[j] = x := ⟨_, rfl⟩
                  have hdg := dig_sp x
                  rcases hh : pl.hexv x with _ | d
                  · have hno := HBAD.out (pl.hexG_bad P j hjl (by rw [hx]; exact hh))
                    rw [hh] at hdg
                    have hdg' : ∀ W, Calls Tryd.prog 62 #[.int .u8 x.toNat] W fun e w' => e = .returned (.tuple #[.int .i64 0, .bool false]) ∧ W = w' := hdg
                    have HD := Lib.hid hdg'
                    have HNO := Lib.hid hno
                    clear hdg hdg' hh hno
                    go_wp2_with (go_at_call 62; refine (HD.out _).mono ?_; rintro e w' ⟨rfl, rfl⟩)
                    go_ret2
                    exact ⟨hb1.trans (hbel2.mono hb1.size), .inr ⟨HNO.out, _, _, _, rfl⟩⟩
                  · have hd := pl.hexv_lt x d hh
                    have hall := pl.all_hex_succ P j hjl HA.out (by rw [hx]; unfold pl.isHex; rw [hh]; rfl)
                    rw [hh] at hdg
                    have hdg' : ∀ W, Calls Tryd.prog 62 #[.int .u8 x.toNat] W fun e w' => e = .returned (.tuple #[.int .i64 (d : Int), .bool true]) ∧ W = w' := hdg
                    have HD := Lib.hid hdg'
                    have HALL := Lib.hid hall
                    have HH := Lib.hid hh
                    clear hdg hdg' hh hall
                    by_cases hj4 : j ≤ 3
                    · have hnn := HN.out (by omega)
                      have hbd := pl.hexV_le (P.data.toList.take j) 3 (by rw [List.length_take]; omega)
                      obtain ⟨m, hm⟩ : ∃ m, pl.hexV 0 (P.data.toList.take j) = m := ⟨_, rfl⟩
                      rw [hm] at hbd hnn
                      subst hnn
                      have HM := Lib.hid hm
                      clear hm HN
                      go_wp2_with (go_at_call 62; refine (HD.out _).mono ?_; rintro e w' ⟨rfl, rfl⟩)
                      go_roundw
                      case rel => exact ⟨j + 1, _, by omega, by go_num, rfl, HALL, Lib.hid (fun _ => by rw [pl.take_succ P j hjl, pl.hexV_snoc, HM.out, hx, HH.out]; simp), by first | rfl | trivial⟩
                      case measure => simp [intOf]; omega
                    · go_wp2_with (go_at_call 62; refine (HD.out _).mono ?_; rintro e w' ⟨rfl, rfl⟩)
                      go_roundw
                      case rel => exact ⟨j + 1, _, by omega, by go_num, rfl, HALL, Lib.hid (fun h => absurd h (by omega)), by first | rfl | trivial⟩
                      case measure => simp [intOf]; omega
                · have ej := pl.take_all P j (by omega)
                  rw [ej] at HA HN
                  have hje : j = P.size := by omega
                  clear ej
                  by_cases h14 : 1 ≤ P.size ∧ P.size ≤ 4
                  · obtain ⟨h1, h4⟩ := h14
                    have hnn := HN.out (by omega)
                    have hbd := pl.hexV_le P.data.toList 4 (by simp; omega)
                    have hgx := pl.hexG_ok P HA.out h1 h4
                    obtain ⟨m, hm⟩ : ∃ m, pl.hexV 0 P.data.toList = m := ⟨_, rfl⟩
                    rw [hm] at hbd hnn hgx
                    subst hnn
                    have hnx := pl.hexAll_next L k _ acc _ HP0.out HK.out hgx
                    have hen := HEND.out _ hgx
                    have hu1 : Value.int IntKind.u8 ((m : Int) / 256) = pl.byteV (UInt8.ofNat (m / 256)) := pl.byte_hi m hbd
                    have hu2 : Value.int IntKind.u8 ((m : Int) % 256) = pl.byteV (UInt8.ofNat m) := pl.byte_lo m
                    have HNX := Lib.hid hnx
                    have HEN := Lib.hid hen
                    have HU1 := Lib.hid hu1
                    have HU2 := Lib.hid hu2
                    obtain ⟨U1, hU1⟩ : ∃ u, UInt8.ofNat (m / 256) = u := ⟨_, rfl⟩
                    obtain ⟨U2, hU2⟩ : ∃ u, UInt8.ofNat m = u := ⟨_, rfl⟩
                    rw [hU1] at HU1 HNX HEN
                    rw [hU2] at HU2 HNX HEN
                    clear hm HN HA hgx hnx hen hu1 hu2 hU1 hU2
                    have hkb : acc.length < 70368744177664 := by omega
                    go_wp2_with (at_builtin; refine app_two (w := w1) U1 U2 26 Tryd.underlying26 rfl _ _ rfl rfl w1.heap.size hown2 rfl HU1.out HU2.out hkb hbel2 (Nat.le_refl _) ?_)
                    intro v1 w3 hown3 hbel3
                    go_wp2_with fail
                    go_roundw
                    case rel => exact ⟨k + 1, _, by omega, by go_num, HNX, Lib.hid (by rw [List.length_append, List.length_cons, List.length_singleton]; omega), Lib.hid HEN.out, hown3, hbel3⟩
                    case measure => simp [intOf]; omega
                  · have hgx : pl.hexG P.data.toList = none := pl.hexG_len P h14
                    have hno := HBAD.out hgx
                    have HNO := Lib.hid hno
                    clear hno hgx HN
                    rcases (show ¬ (1 ≤ P.size) ∨ (1 ≤ P.size ∧ 4 < P.size) by omega) with h1 | ⟨h1, h4⟩
                    · have h1' : (P.size : Int) < 1 := by omega
                      clear h14 h1
                      go_wp2_with fail
                      go_ret2
                      exact ⟨hb1.trans (hbel2.mono hb1.size), .inr ⟨HNO.out, _, _, _, rfl⟩⟩
                    · have h1' : ¬ (P.size : Int) < 1 := by omega
                      have h4' : (4 : Int) < (P.size : Int) := by omega
                      clear h14 h1 h4
                      go_wp2_with fail
                      go_ret2
                      exact ⟨hb1.trans (hbel2.mono hb1.size), .inr ⟨HNO.out, _, _, _, rfl⟩⟩
            · have hkl' : ((k : Int) == (L.length : Int) - 1) = false := by
                rw [beq_eq_false_iff_ne]
                intro h
                exact hret ⟨rfl, by omega⟩
              clear hret
              go_wp2_with (go_at_call 43; refine (HF.out _).mono ?_; rintro e w2 ⟨vf, rfl, _, hb2⟩)
              have hown2 := hown.below hb2
              have hbel2 := hbel.trans (hb2.mono hbel.size)
              go_loopw [12, 48] (fun nv jv wi => ∃ (j : Nat) (n : Int), j ≤ P.size ∧ jv = .int .i64 j ∧ nv = .int .i64 n ∧ Hid ((P.data.toList.take j).all pl.isHex = true) ∧ Hid (j ≤ 4 → n = pl.hexV 0 (P.data.toList.take j)) ∧ wi = w2) (fun _ jv _ => P.size - (intOf jv).toNat)
              case atStart => exact ⟨0, 0, Nat.zero_le _, rfl, rfl, Lib.hid (by simp), Lib.hid (fun _ => rfl), rfl⟩
              case round =>
                obtain ⟨j, n, hj, rfl, rfl, HA, HN, rfl⟩ := hrel
                by_cases hjl : j < P.size
                · obtain ⟨x, hx⟩ : ∃ x, P[j] = x := ⟨_, rfl⟩
                  have hdg := dig_sp x
                  rcases hh : pl.hexv x with _ | d
                  · have hno := HBAD.out (pl.hexG_bad P j hjl (by rw [hx]; exact hh))
                    rw [hh] at hdg
                    have hdg' : ∀ W, Calls Tryd.prog 62 #[.int .u8 x.toNat] W fun e w' => e = .returned (.tuple #[.int .i64 0, .bool false]) ∧ W = w' := hdg
                    have HD := Lib.hid hdg'
                    have HNO := Lib.hid hno
                    clear hdg hdg' hh hno
                    go_wp2_with (go_at_call 62; refine (HD.out _).mono ?_; rintro e w' ⟨rfl, rfl⟩)
                    go_ret2
                    exact ⟨hb1.trans (hbel2.mono hb1.size), .inr ⟨HNO.out, _, _, _, rfl⟩⟩
                  · have hd := pl.hexv_lt x d hh
                    have hall := pl.all_hex_succ P j hjl HA.out (by rw [hx]; unfold pl.isHex; rw [hh]; rfl)
                    rw [hh] at hdg
                    have hdg' : ∀ W, Calls Tryd.prog 62 #[.int .u8 x.toNat] W fun e w' => e = .returned (.tuple #[.int .i64 (d : Int), .bool true]) ∧ W = w' := hdg
                    have HD := Lib.hid hdg'
                    have HALL := Lib.hid hall
                    have HH := Lib.hid hh
                    clear hdg hdg' hh hall
                    by_cases hj4 : j ≤ 3
                    · have hnn := HN.out (by omega)
                      have hbd := pl.hexV_le (P.data.toList.take j) 3 (by rw [List.length_take]; omega)
                      obtain ⟨m, hm⟩ : ∃ m, pl.hexV 0 (P.data.toList.take j) = m := ⟨_, rfl⟩
                      rw [hm] at hbd hnn
                      subst hnn
                      have HM := Lib.hid hm
                      clear hm HN
                      go_wp2_with (go_at_call 62; refine (HD.out _).mono ?_; rintro e w' ⟨rfl, rfl⟩)
                      go_roundw
                      case rel => exact ⟨j + 1, _, by omega, by go_num, rfl, HALL, Lib.hid (fun _ => by rw [pl.take_succ P j hjl, pl.hexV_snoc, HM.out, hx, HH.out]; simp), by first | rfl | trivial⟩
                      case measure => simp [intOf]; omega
                    · go_wp2_with (go_at_call 62; refine (HD.out _).mono ?_; rintro e w' ⟨rfl, rfl⟩)
                      go_roundw
                      case rel => exact ⟨j + 1, _, by omega, by go_num, rfl, HALL, Lib.hid (fun h => absurd h (by omega)), by first | rfl | trivial⟩
                      case measure => simp [intOf]; omega
                · have ej := pl.take_all P j (by omega)
                  rw [ej] at HA HN
                  have hje : j = P.size := by omega
                  clear ej
                  by_cases h14 : 1 ≤ P.size ∧ P.size ≤ 4
                  · obtain ⟨h1, h4⟩ := h14
                    have hnn := HN.out (by omega)
                    have hbd := pl.hexV_le P.data.toList 4 (by simp; omega)
                    have hgx := pl.hexG_ok P HA.out h1 h4
                    obtain ⟨m, hm⟩ : ∃ m, pl.hexV 0 P.data.toList = m := ⟨_, rfl⟩
                    rw [hm] at hbd hnn hgx
                    subst hnn
                    have hnx := pl.hexAll_next L k _ acc _ HP0.out HK.out hgx
                    have hen := HEND.out _ hgx
                    have hu1 : Value.int IntKind.u8 ((m : Int) / 256) = pl.byteV (UInt8.ofNat (m / 256)) := pl.byte_hi m hbd
                    have hu2 : Value.int IntKind.u8 ((m : Int) % 256) = pl.byteV (UInt8.ofNat m) := pl.byte_lo m
                    have HNX := Lib.hid hnx
                    have HEN := Lib.hid hen
                    have HU1 := Lib.hid hu1
                    have HU2 := Lib.hid hu2
                    obtain ⟨U1, hU1⟩ : ∃ u, UInt8.ofNat (m / 256) = u := ⟨_, rfl⟩
                    obtain ⟨U2, hU2⟩ : ∃ u, UInt8.ofNat m = u := ⟨_, rfl⟩
                    rw [hU1] at HU1 HNX HEN
                    rw [hU2] at HU2 HNX HEN
                    clear hm HN HA hgx hnx hen hu1 hu2 hU1 hU2
                    have hkb : acc.length < 70368744177664 := by omega
                    go_wp2_with (at_builtin; refine app_two (w := w1) U1 U2 26 Tryd.underlying26 rfl _ _ rfl rfl w1.heap.size hown2 rfl HU1.out HU2.out hkb hbel2 (Nat.le_refl _) ?_)
                    intro v1 w3 hown3 hbel3
                    go_wp2_with fail
                    go_roundw
                    case rel => exact ⟨k + 1, _, by omega, by go_num, HNX, Lib.hid (by rw [List.length_append, List.length_cons, List.length_singleton]; omega), Lib.hid HEN.out, hown3, hbel3⟩
                    case measure => simp [intOf]; omega
                  · have hgx : pl.hexG P.data.toList = none := pl.hexG_len P h14
                    have hno := HBAD.out hgx
                    have HNO := Lib.hid hno
                    clear hno hgx HN
                    rcases (show ¬ (1 ≤ P.size) ∨ (1 ≤ P.size ∧ 4 < P.size) by omega) with h1 | ⟨h1, h4⟩
                    · have h1' : (P.size : Int) < 1 := by omega
                      clear h14 h1
                      go_wp2_with fail
                      go_ret2
                      exact ⟨hb1.trans (hbel2.mono hb1.size), .inr ⟨HNO.out, _, _, _, rfl⟩⟩
                    · have h1' : ¬ (P.size : Int) < 1 := by omega
                      have h4' : (4 : Int) < (P.size : Int) := by omega
                      clear h14 h1 h4
                      go_wp2_with fail
                      go_ret2
                      exact ⟨hb1.trans (hbel2.mono hb1.size), .inr ⟨HNO.out, _, _, _, rfl⟩⟩
      · have hke : k = L.length := by omega
        have hG2 := HE.out hke
        have HG2 := Lib.hid hG2
        clear hG2 hke
        obtain ⟨a2, k2, rfl, _⟩ := hown.reads
        go_wp2_with fail
        go_ret2
        exact ⟨hb1.trans (hbel.mono hb1.size), .inl ⟨_, acc, HG2.out, rfl, hown.mono hb1.size⟩⟩

end Go.Proofs.YtfkohahlpfejbaaDoor

/- V4F: WALK: the package's four numbers (parseIPv4Fields). -/
namespace Go.Proofs.YtfkohahlpfejbaaDoor
open Go.RowKit

/-- Block g holds these bytes. -/
def BBlk (w : World) (g : Nat) (l : List UInt8) (ty : TypeId) : Prop := Blk w g (l.map pl.byteV).toArray ty
theorem BBlk.set {w : World} {g : Nat} {l : List UInt8} {ty : TypeId} (h : BBlk w g l ty) (k : Nat) (b : UInt8) : BBlk (w.setCell ⟨g, k, none⟩ (pl.byteV b)) g (l.set k b) ty := by
  have := Blk.set h k (pl.byteV b)
  unfold BBlk
  rw [List.map_set, ← List.setIfInBounds_toArray]
  exact this
theorem BBlk.cell {w : World} {g : Nat} {l : List UInt8} {ty : TypeId} (h : BBlk w g l ty) (k : Nat) (hk : k < l.length) : w.cell? ⟨g, k, none⟩ = some (pl.byteV l[k]) := by
  rw [Blk.cell h k]
  simp [hk]
theorem BBlk.frozen {w : World} {g : Nat} {l : List UInt8} {ty : TypeId} (h : BBlk w g l ty) (k : Nat) : w.frozen? ⟨g, k, none⟩ = false := Blk.frozen h k

theorem pl.put_at (ip done : List UInt8) (o : Nat) (b : UInt8) (h : o + done.length < ip.length) :
    (ip.take o ++ done ++ ip.drop (o + done.length)).set (o + done.length) b = ip.take o ++ (done ++ [b]) ++ ip.drop (o + (done ++ [b]).length) := by
  have hl : (ip.take o ++ done).length = o + done.length := by rw [List.length_append, List.length_take]; omega
  rw [List.set_append_right _ _ (by omega), hl, Nat.sub_self, List.drop_eq_getElem_cons h, List.set_cons_zero]
  simp only [List.length_append, List.length_cons, List.length_nil, List.append_assoc, List.cons_append, List.nil_append]
  rfl

theorem byteV_small (m : Nat) (h : m < 256) : Value.int IntKind.u8 (m : Int) = pl.byteV (UInt8.ofNat m) := by
  unfold pl.byteV
  rw [UInt8.toNat_ofNat_of_lt' (by show m < 256; omega)]

def V4Res (w w' : World) (g : Nat) (ip : List UInt8) (o : Nat) (ty : TypeId) (e : Ending) (r : Option (List UInt8)) : Prop :=
  Below g w w' ∧ w'.heap.size = w.heap.size ∧ ((r = none ∧ ∃ t v, e = .returned (.iface t v)) ∨ (∃ l, r = some l ∧ e = .returned .nilIface ∧ BBlk w' g (ip.take o ++ l ++ ip.drop (o + l.length)) ty))

set_option maxRecDepth 100000 in
set_option maxHeartbeats 4000000 in
theorem v4f_sp (s : ByteArray) (off fin : Nat) (S : ByteArray) (hS : s.extract off fin = S) (w : World) (g o cap : Nat) (ip : List UInt8) (ty : TypeId) (hB : BBlk w g ip ty) (ho : o + 4 ≤ ip.length)
    (h1 : off ≤ fin) (h2 : fin ≤ s.size) (hs : s.size ≤ 2147483648) :
    Calls Tryd.prog 106 #[.string s, .int .i64 (off : Int), .int .i64 (fin : Int), .slice (some ⟨g, o, none⟩) 4 cap] w fun e w' => V4Res w w' g ip o ty e (pl.four S.data.toList) := by
  have hsz : S.size = fin - off := by rw [← hS]; simp; omega
  have hS31 : S.size ≤ 2147483648 := by omega
  clear hsz
  obtain ⟨F, hF⟩ : ∃ F, pl.four S.data.toList = F := ⟨_, rfl⟩
  rw [hF]
  have HF := Lib.hid hF
  have HSE := Lib.hid hS
  clear hF hS
  have hx0 : s.extract off fin = S := HSE.out
  have hip : (ip.take o ++ [] ++ ip.drop (o + 0)) = ip := by simp
  go_enter Tryd.func106, Tryd.ntmps106
  go_wp2_with fail

  clear hx0
  go_loopw [9, 10, 11, 13] (fun vv pv dv iv wr => ∃ (i m n d : Nat) (done cur : List UInt8), i ≤ S.size ∧ iv = .int .i64 i ∧ vv = .int .i64 m ∧ pv = .int .i64 n ∧ dv = .int .i64 d ∧ m ≤ 255 ∧ n ≤ 3 ∧ d ≤ i ∧ Hid (m = pl.decV 0 cur) ∧ Hid (done.length = n) ∧ Hid (cur.length = d)
    ∧ Hid (F = pl.rest4 done cur (S.data.toList.drop i)) ∧ Hid (cur.all pl.dg = true) ∧ Hid (1 < cur.length → cur.head? ≠ some 48) ∧ Hid (d = 0 → (i = 0 ∧ n = 0) ∨ i < S.size) ∧ Hid (∀ (h : i - 1 < S.size), 0 < i → (d = 0 ↔ S[i - 1] = 46))
    ∧ BBlk wr g (ip.take o ++ done ++ ip.drop (o + n)) ty ∧ Below g w wr ∧ Hid (wr.heap.size = w.heap.size)) (fun _ _ _ iv _ => S.size - (intOf iv).toNat)
  case atStart => exact ⟨0, 0, 0, 0, [], [], Nat.zero_le _, rfl, rfl, rfl, rfl, by omega, by omega, by omega, Lib.hid rfl, Lib.hid rfl, Lib.hid rfl, Lib.hid (by rw [List.drop_zero, pl.rest4_start, HF.out]), Lib.hid rfl, Lib.hid (by simp), Lib.hid (fun _ => .inl ⟨rfl, rfl⟩), Lib.hid (fun _ h => absurd h (by omega)), by rw [hip]; exact hB, Below.refl _ _, Lib.hid rfl⟩
  case round =>
    obtain ⟨i, m, n, d, done, cur, hi, rfl, rfl, rfl, rfl, hm, hn, hdi, HM, HDL, HCL, HR, HA, HZ, HE, HP, hblk, hbel, HSZ⟩ := hrel
    by_cases hlt : i < S.size
    · obtain ⟨x, hx⟩ : ∃ x, S[i] = x := ⟨_, rfl⟩
      have hr := HR.out
      rw [pl.drop_cons' S i hlt, hx] at hr
      by_cases hdg : pl.dg x = true
      · have hxd := (pl.dg_int x).1 hdg
        obtain ⟨hx1, hx2⟩ := hxd
        by_cases hz : d = 1 ∧ m = 0
        · obtain ⟨rfl, rfl⟩ := hz
          have hno : F = none := by
            have hc : cur = [48] := by
              have h1 := HCL.out
              match cur, h1 with
              | [c], _ =>
                have ha := HA.out
                have hv := HM.out
                simp [pl.decV] at ha hv
                have := (pl.dg_int c).1 ha
                rw [show c = 48 from UInt8.toNat_inj.1 (by show c.toNat = 48; omega)]
            rw [hr, hc]; exact pl.rest4_zero done _ x hdg
          have HNO := Lib.hid hno
          clear hr hno hdg
          go_wp2_with fail
          go_ret
          exact ⟨hbel, HSZ.out, .inl ⟨HNO.out, _, _, rfl⟩⟩
        · obtain ⟨m', hm'⟩ : ∃ m', pl.decV 0 (cur ++ [x]) = m' := ⟨_, rfl⟩
          have hmi : (m' : Int) = (m : Int) * 10 + (x.toNat : Int) - 48 := by
            rw [← hm', pl.decV_snoc, ← HM.out]; omega
          have hall : (cur ++ [x]).all pl.dg = true := by rw [List.all_append, HA.out]; simp [hdg]
          rw [pl.rest4_digit] at hr
          by_cases hbig : 255 < m'
          · have hno : F = none := by rw [hr]; exact pl.rest4_large done _ _ hall (by rw [hm']; exact hbig)
            have HNO := Lib.hid hno
            clear hr hno hdg hm' hall
            rcases Nat.lt_trichotomy d 1 with hd1 | hd1 | hd1
            · go_wp2_with fail
              go_ret
              exact ⟨hbel, HSZ.out, .inl ⟨HNO.out, _, _, rfl⟩⟩
            · have hm0 : m ≠ 0 := fun h => hz ⟨hd1, h⟩
              subst hd1
              clear hz
              go_wp2_with fail
              go_ret
              exact ⟨hbel, HSZ.out, .inl ⟨HNO.out, _, _, rfl⟩⟩
            · go_wp2_with fail
              go_ret
              exact ⟨hbel, HSZ.out, .inl ⟨HNO.out, _, _, rfl⟩⟩
          · have hnz : 1 < (cur ++ [x]).length → (cur ++ [x]).head? ≠ some 48 := by
              intro h
              match hc : cur with
              | [] => simp at h
              | [c] =>
                intro e
                simp at e
                subst e
                have h1 := HCL.out
                have h2 := HM.out
                simp [pl.decV] at h1 h2
                exact hz ⟨h1.symm, h2⟩
              | c :: c' :: r =>
                have := HZ.out (by simp)
                simpa using this
            have HR2 := Lib.hid hr
            have HA2 := Lib.hid hall
            have HM2 := Lib.hid hm'
            have HZ2 := Lib.hid hnz
            have hx46 : x ≠ 46 := by intro e; subst e; exact absurd hdg (by decide)
            have HP2 : Hid (∀ (h : i + 1 - 1 < S.size), 0 < i + 1 → (d + 1 = 0 ↔ S[i + 1 - 1] = 46)) := Lib.hid (fun h _ => ⟨fun h => by omega, fun h => by
              have e : S[i + 1 - 1] = x := hx
              rw [e] at h; exact absurd h hx46⟩)
            have HCL2 : Hid ((cur ++ [x]).length = d + 1) := Lib.hid (by rw [List.length_append, HCL.out]; rfl)
            clear hr hall hm' hnz hx46 hdg
            rcases Nat.lt_trichotomy d 1 with hd1 | hd1 | hd1
            · go_wp2_with fail
              go_roundw
              case rel => exact ⟨i + 1, m', n, d + 1, done, cur ++ [x], by omega, by go_num, by go_num, rfl, by go_num, by omega, hn, by omega, Lib.hid HM2.out.symm, HDL, HCL2, HR2, HA2, HZ2, Lib.hid (fun h => by omega), HP2, hblk, hbel, HSZ⟩
              case measure => simp [intOf]; omega
            · have hm0 : m ≠ 0 := fun h => hz ⟨hd1, h⟩
              subst hd1
              clear hz
              go_wp2_with fail
              go_roundw
              case rel => exact ⟨i + 1, m', n, 1 + 1, done, cur ++ [x], by omega, by go_num, by go_num, rfl, by go_num, by omega, hn, by omega, Lib.hid HM2.out.symm, HDL, HCL2, HR2, HA2, HZ2, Lib.hid (fun h => by omega), HP2, hblk, hbel, HSZ⟩
              case measure => simp [intOf]; omega
            · go_wp2_with fail
              go_roundw
              case rel => exact ⟨i + 1, m', n, d + 1, done, cur ++ [x], by omega, by go_num, by go_num, rfl, by go_num, by omega, hn, by omega, Lib.hid HM2.out.symm, HDL, HCL2, HR2, HA2, HZ2, Lib.hid (fun h => by omega), HP2, hblk, hbel, HSZ⟩
              case measure => simp [intOf]; omega
      · have hdf : pl.dg x = false := by simpa using hdg
        by_cases h46 : x = 46
        · subst h46
          have h1 : ((46 : UInt8).toNat : Int) = 46 := rfl
          clear hdg hdf
          rcases Nat.eq_zero_or_pos i with hi0 | hi0
          · have hno : F = none := by
              have : cur = [] := List.eq_nil_of_length_eq_zero (by rw [HCL.out]; omega)
              rw [hr, this]; exact pl.rest4_dot_empty _ _
            have HNO := Lib.hid hno
            clear hr hno
            subst hi0
            go_wp2_with fail
            go_ret
            exact ⟨hbel, HSZ.out, .inl ⟨HNO.out, _, _, rfl⟩⟩
          · by_cases hlast : i + 1 = S.size
            · have hno : F = none := by
                rw [hr, List.drop_eq_nil_of_le (by simp; omega)]; exact pl.rest4_dot_last _ _ HA.out
              have HNO := Lib.hid hno
              clear hr hno
              go_wp2_with fail
              go_ret
              exact ⟨hbel, HSZ.out, .inl ⟨HNO.out, _, _, rfl⟩⟩
            · obtain ⟨y, hy⟩ : ∃ y, S[i - 1] = y := ⟨_, rfl⟩
              have hp := HP.out (by omega) hi0
              rw [hy] at hp
              by_cases hd0 : d = 0
              · have hno : F = none := by
                  have : cur = [] := List.eq_nil_of_length_eq_zero (by rw [HCL.out]; omega)
                  rw [hr, this]; exact pl.rest4_dot_empty _ _
                have HNO := Lib.hid hno
                have hy46 := hp.1 hd0
                subst hy46
                clear hr hno hp
                go_wp2_with fail
                go_ret
                exact ⟨hbel, HSZ.out, .inl ⟨HNO.out, _, _, rfl⟩⟩
              · have hy46 : (y.toNat : Int) ≠ 46 := fun e => hd0 (hp.2 (UInt8.toNat_inj.1 (by show y.toNat = 46; omega)))
                clear hp
                have e1 : ((i : Int) == 0) = false := by rw [beq_eq_false_iff_ne]; omega
                have e2 : ((i : Int) == (S.size : Int) - 1) = false := by rw [beq_eq_false_iff_ne]; omega
                have e3 : ((y.toNat : Int) == 46) = false := by rw [beq_eq_false_iff_ne]; exact hy46
                by_cases hn3 : n = 3
                · have hno : F = none := by rw [hr]; exact pl.rest4_four done cur _ HA.out (by rw [HDL.out]; exact hn3)
                  have HNO := Lib.hid hno
                  clear hr hno
                  subst hn3
                  go_wp2_with fail
                  go_ret
                  exact ⟨hbel, HSZ.out, .inl ⟨HNO.out, _, _, rfl⟩⟩
                · have hcne : cur ≠ [] := by intro e; have h2 := HCL.out; rw [e] at h2; exact hd0 h2.symm
                  rw [pl.rest4_dot done cur _ HA.out, pl.oct_good cur hcne HA.out (by rw [← HM.out]; exact hm) HZ.out, ← HM.out] at hr
                  have HR2 := Lib.hid hr
                  have hset := hblk.set (o + n) (UInt8.ofNat m)
                  have hput := pl.put_at ip done o (UInt8.ofNat m) (by rw [HDL.out]; omega)
                  rw [HDL.out] at hput
                  rw [hput] at hset
                  have HSET := Lib.hid hset
                  have hcell := hblk.cell (o + n) (by have := HDL.out; simp only [List.length_append, List.length_take, List.length_drop]; omega)
                  have hfro := hblk.frozen (o + n)
                  have hval : Value.int IntKind.u8 (m : Int) = pl.byteV (UInt8.ofNat m) := byteV_small m (by omega)
                  have HVAL := Lib.hid hval
                  clear hval
                  have HP2 : Hid (∀ (h : i + 1 - 1 < S.size), 0 < i + 1 → (0 = 0 ↔ S[i + 1 - 1] = 46)) := Lib.hid (fun h _ => ⟨fun _ => hx, fun _ => rfl⟩)
                  clear hr hset hput hcne
                  have hn2 : n < 3 := by omega
                  go_wp2_with fail
                  go_roundw
                  case rel =>
                    rw [HVAL.out]
                    refine ⟨i + 1, 0, n + 1, 0, done ++ [UInt8.ofNat m], [], by omega, by go_num, rfl, by go_num, rfl, by omega, by omega, by omega, Lib.hid rfl, Lib.hid (by rw [List.length_append, HDL.out]; rfl), Lib.hid rfl, HR2, Lib.hid rfl, Lib.hid (by simp), Lib.hid (fun _ => .inr (by omega)), HP2, ?_, hbel.setCell (Nat.le_refl _) _, Lib.hid ?_⟩
                    · have := HSET.out; rw [List.length_append, HDL.out] at this; exact this
                    · rw [← HSZ.out]; simp [World.setCell]
                  case measure => simp [intOf]; omega
        · have hno : F = none := by rw [hr]; exact pl.rest4_char done cur _ x HA.out hdf h46
          have HNO := Lib.hid hno
          have hne : (x.toNat : Int) ≠ 46 := fun e => h46 (UInt8.toNat_inj.1 (by show x.toNat = 46; omega))
          have hnd : ¬ (48 ≤ (x.toNat : Int) ∧ (x.toNat : Int) ≤ 57) := fun h => hdg ((pl.dg_int x).2 h)
          clear hr hno hdg hdf h46
          rcases Int.lt_or_le (x.toNat : Int) 48 with hl | hl
          · go_wp2_with fail
            go_ret
            exact ⟨hbel, HSZ.out, .inl ⟨HNO.out, _, _, rfl⟩⟩
          · have hl2 : 57 < (x.toNat : Int) := by omega
            clear hnd
            go_wp2_with fail
            go_ret
            exact ⟨hbel, HSZ.out, .inl ⟨HNO.out, _, _, rfl⟩⟩
    · have hr := HR.out
      rw [List.drop_eq_nil_of_le (by simp; omega)] at hr
      by_cases hn3 : n < 3
      · have hno : F = none := by rw [hr]; exact pl.rest4_short done cur HA.out (by rw [HDL.out]; exact hn3)
        have HNO := Lib.hid hno
        clear hr hno
        go_wp2_with fail
        go_ret
        exact ⟨hbel, HSZ.out, .inl ⟨HNO.out, _, _, rfl⟩⟩
      · have hd0 : d ≠ 0 := fun h => by rcases HE.out h with h | h <;> omega
        have hcne : cur ≠ [] := by intro e; have h2 := HCL.out; rw [e] at h2; exact hd0 h2.symm
        have hn3' : n = 3 := by omega
        subst hn3'
        rw [pl.rest4_end done cur HA.out, pl.oct_good cur hcne HA.out (by rw [← HM.out]; exact hm) HZ.out, ← HM.out] at hr
        have hr2 : F = some (done ++ [UInt8.ofNat m]) := by rw [hr]; exact if_pos HDL.out
        have HR2 := Lib.hid hr2
        have hset := hblk.set (o + 3) (UInt8.ofNat m)
        have hput := pl.put_at ip done o (UInt8.ofNat m) (by rw [HDL.out]; omega)
        rw [HDL.out] at hput
        rw [hput] at hset
        have HSET := Lib.hid hset
        have hcell := hblk.cell (o + 3) (by have := HDL.out; simp only [List.length_append, List.length_take, List.length_drop]; omega)
        have hfro := hblk.frozen (o + 3)
        have hval : Value.int IntKind.u8 (m : Int) = pl.byteV (UInt8.ofNat m) := byteV_small m (by omega)
        have HVAL := Lib.hid hval
        clear hval
        clear hr hr2 hset hput hcne
        go_wp2_with fail
        go_ret
        refine ⟨hbel.setCell (Nat.le_refl _) _, ?_, .inr ⟨_, HR2.out, rfl, ?_⟩⟩
        · rw [← HSZ.out]; simp [World.setCell]
        · rw [HVAL.out]; exact HSET.out

end Go.Proofs.YtfkohahlpfejbaaDoor

/- PlTxt: PLAIN: numbers in a base. -/
namespace Go.Proofs.YtfkohahlpfejbaaDoor.pl

def numF : Nat → Nat → Nat → List UInt8
  | 0, _, _ => []
  | f + 1, b, n => (if n / b = 0 then [] else numF f b (n / b)) ++ [hx (n % b)]
def num (b n : Nat) : List UInt8 := numF 64 b n

theorem numF_more (b : Nat) (hb : 2 ≤ b) : ∀ (f g n : Nat), n < 2 ^ f → n < 2 ^ g → 1 ≤ f → 1 ≤ g → numF f b n = numF g b n
  | 0, _, _, _, _, h, _ => absurd h (by omega)
  | _ + 1, 0, _, _, _, _, h => absurd h (by omega)
  | f + 1, g + 1, n, hf, hg, _, _ => by
    show (if n / b = 0 then [] else numF f b (n / b)) ++ _ = (if n / b = 0 then [] else numF g b (n / b)) ++ _
    by_cases h0 : n / b = 0
    · rw [if_pos h0, if_pos h0]
    · rw [if_neg h0, if_neg h0]
      have h2 : n / b ≤ n / 2 := Nat.div_le_div_left hb (by omega)
      have hf' : n / b < 2 ^ f := by rw [Nat.pow_succ] at hf; omega
      have hg' : n / b < 2 ^ g := by rw [Nat.pow_succ] at hg; omega
      have f1 : 1 ≤ f := by
        rcases f with _ | f
        · have := Nat.pos_of_ne_zero h0; rw [Nat.pow_zero] at hf'; omega
        · omega
      have g1 : 1 ≤ g := by
        rcases g with _ | g
        · have := Nat.pos_of_ne_zero h0; rw [Nat.pow_zero] at hg'; omega
        · omega
      rw [numF_more b hb f g (n / b) hf' hg' f1 g1]

theorem num_step (b n : Nat) (hb : 2 ≤ b) (hn : n < 2 ^ 63) : num b n = (if n / b = 0 then [] else num b (n / b)) ++ [hx (n % b)] := by
  show (if n / b = 0 then [] else numF 63 b (n / b)) ++ _ = _
  by_cases h0 : n / b = 0
  · rw [if_pos h0, if_pos h0]
  · rw [if_neg h0, if_neg h0]
    have h2 : n / b ≤ n := Nat.div_le_self _ _
    rw [show num b (n / b) = numF 64 b (n / b) from rfl, numF_more b hb 63 64 (n / b) (by omega) (by omega) (by omega) (by omega)]

/-- what the loop has at its head -/
def numHead (b n m : Nat) (acc : List UInt8) : Prop := (acc = [] ∧ m = n) ∨ (acc ≠ [] ∧ num b n = (if m = 0 then [] else num b m) ++ acc)

theorem numHead_step (b n m : Nat) (acc : List UInt8) (hb : 2 ≤ b) (hm : m < 2 ^ 63) (h : numHead b n m acc) (hgo : 0 < m ∨ acc = []) : numHead b n (m / b) (hx (m % b) :: acc) := by
  right
  refine ⟨by simp, ?_⟩
  rcases h with ⟨rfl, rfl⟩ | ⟨ha, hn⟩
  · exact num_step b m hb hm
  · rcases hgo with h0 | h0
    · rw [hn, if_neg (by omega), num_step b m hb hm, List.append_assoc]
      rfl
    · exact absurd h0 ha
theorem numHead_end (b n : Nat) (acc : List UInt8) (h : numHead b n 0 acc) (ha : acc ≠ []) : acc = num b n := by
  rcases h with ⟨h, _⟩ | ⟨_, h⟩
  · exact absurd h ha
  · rw [h]; simp

end Go.Proofs.YtfkohahlpfejbaaDoor.pl

/- PlRead6: PLAIN: an address of IPv6: what is yet to be found. -/
namespace Go.Proofs.YtfkohahlpfejbaaDoor.pl

def grp (p : List UInt8) : List UInt8 := [UInt8.ofNat (hexV 0 p / 256), UInt8.ofNat (hexV 0 p)]
def fin6 (acc : List UInt8) : Option Nat → Option (List UInt8)
  | none => if acc.length = 16 then some acc else none
  | some e => if acc.length < 16 then some (acc.take e ++ List.replicate (16 - acc.length) 0 ++ acc.drop e) else none
def rest6 (acc : List UInt8) (ell : Option Nat) (s : List UInt8) : Option (List UInt8) :=
  match ell with
  | some e => match grps true (split 58 s) with
    | some b => fin6 (acc ++ b) (some e)
    | none => none
  | none => match dd s with
    | none => match grps true (split 58 s) with
      | some b => fin6 (acc ++ b) none
      | none => none
    | some k => match groups (s.take k) false, groups (s.drop (k + 2)) true with
      | some a, some b => fin6 (acc ++ a ++ b) (some (acc.length + a.length))
      | _, _ => none

/-! ### two colons -/
def noC (p : List UInt8) : Prop := ∀ x ∈ p, isB 58 x = false
theorem isC (x : UInt8) : isB 58 x = true ↔ x = 58 := by
  unfold isB
  rw [beq_iff_eq]
  constructor
  · intro h; exact UInt8.toNat_inj.1 (by simpa using (by omega : x.toNat = 58))
  · intro h; subst h; rfl
theorem isC' (x : UInt8) : isB 58 x = false ↔ x ≠ 58 := by
  rw [← Bool.not_eq_true, isC]
theorem dd_noC (p : List UInt8) (h : noC p) : dd p = none := by
  induction p with
  | nil => rfl
  | cons a p ih =>
    have ha := (isC' a).1 (h a (by simp))
    cases p with
    | nil => rfl
    | cons b r =>
      rw [dd, if_neg (fun e => ha e.1), ih (fun y hy => h y (by simp [hy]))]
      rfl
theorem dd_app (p r : List UInt8) (h : noC p) (hr : r.head? ≠ some 58) : dd (p ++ 58 :: r) = (dd r).map (· + (p.length + 1)) := by
  induction p with
  | nil =>
    cases r with
    | nil => rfl
    | cons b r =>
      have hb : ¬ ((58 : UInt8) = 58 ∧ b = 58) := fun e => hr (by simp [e.2])
      rw [List.nil_append, dd, if_neg hb]
      rfl
  | cons a p ih =>
    have ha := (isC' a).1 (h a (by simp))
    have ih := ih (fun y hy => h y (by simp [hy]))
    have e : dd (a :: (p ++ 58 :: r)) = (dd (p ++ 58 :: r)).map (· + 1) := by
      cases p with
      | nil => rw [List.nil_append, dd, if_neg (fun e => ha e.1)]
      | cons b t => rw [List.cons_append, dd, if_neg (fun e => ha e.1)]
    rw [List.cons_append, e, ih, Option.map_map]
    congr 1
theorem dd_two (p r : List UInt8) (h : noC p) : dd (p ++ 58 :: 58 :: r) = some p.length := by
  induction p with
  | nil => rw [List.nil_append, dd, if_pos ⟨rfl, rfl⟩]; rfl
  | cons a p ih =>
    have ha := (isC' a).1 (h a (by simp))
    have ih := ih (fun y hy => h y (by simp [hy]))
    have e : dd (a :: (p ++ 58 :: 58 :: r)) = (dd (p ++ 58 :: 58 :: r)).map (· + 1) := by
      cases p with
      | nil => rw [List.nil_append, dd, if_neg (fun e => ha e.1)]
      | cons b t => rw [List.cons_append, dd, if_neg (fun e => ha e.1)]
    rw [List.cons_append, e, ih]
    rfl
theorem dd_at : ∀ (s : List UInt8) (k : Nat), dd s = some k → ∃ a r, s = a ++ 58 :: 58 :: r ∧ a.length = k
  | [], k, h => by cases h
  | [_], k, h => by cases h
  | a :: b :: r, k, h => by
    rw [dd] at h
    split at h
    · rename_i hc
      injection h with h
      subst h
      exact ⟨[], r, by rw [hc.1, hc.2]; rfl, rfl⟩
    · cases hd : dd (b :: r) with
      | none => rw [hd] at h; cases h
      | some j =>
        rw [hd] at h
        injection h with h
        obtain ⟨x, y, e, hx⟩ := dd_at (b :: r) j hd
        exact ⟨a :: x, y, by rw [e]; rfl, by simp [hx, ← h]⟩

/-! ### parts that are none -/
theorem groups_ne (s : List UInt8) (last : Bool) (h : s ≠ []) : groups s last = grps last (split 58 s) := by unfold groups; rw [if_neg h]
theorem grps_head (last : Bool) (p : List UInt8) (t : List (List UInt8)) (hg : hexG p = none) (hf : t = [] → last = true → four p = none) : grps last (p :: t) = none := by
  cases t with
  | nil =>
    have h2 : (if last = true then four p else none) = none := by
      cases last with
      | false => rfl
      | true => rw [if_pos rfl]; exact hf rfl rfl
    simp only [grps, h2, hg]
  | cons q r => simp only [grps, hg]
theorem take_two (p a r x : List UInt8) (hp : noC p) (h : a ++ 58 :: 58 :: r = p ++ 58 :: x) (hne : p ≠ [] ∨ x.head? ≠ some 58) : a = p ∨ ∃ y, a = p ++ 58 :: y := by
  induction p generalizing a with
  | nil =>
    cases a with
    | nil => left; rfl
    | cons b a => simp at h; right; exact ⟨a, by rw [h.1]; rfl⟩
  | cons c p ih =>
    have hc := (isC' c).1 (hp c (by simp))
    cases a with
    | nil => simp at h; exact absurd h.1.symm hc
    | cons b a =>
      simp at h
      have hp' : noC p := fun y hy => hp y (by simp [hy])
      by_cases hp0 : p = [] ∧ x.head? = some 58
      · obtain ⟨rfl, hx⟩ := hp0
        cases a with
        | nil => left; rw [h.1]
        | cons d a => simp at h; right; exact ⟨a, by rw [h.1, h.2.1]; rfl⟩
      · rcases ih a hp' h.2 (by by_cases hq : p = []; exact .inr (fun e => hp0 ⟨hq, e⟩); exact .inl hq) with h2 | ⟨y, h2⟩
        · left; rw [h.1, h2]
        · right; exact ⟨y, by rw [h.1, h2]; rfl⟩

theorem rest6_bad (acc : List UInt8) (ell : Option Nat) (s p q : List UInt8) (t : List (List UInt8)) (hs : split 58 s = p :: t) (hp : noC p) (hq : (q = s ∧ q = p) ∨ ∃ x, s = p ++ 58 :: x) (hg : hexG p = none) (hf : t = [] → four p = none)
    (h0 : ell = none → ∀ x, s ≠ 58 :: 58 :: x) : rest6 acc ell s = none := by
  have hgt : grps true (split 58 s) = none := by rw [hs]; exact grps_head true p t hg (fun h _ => hf h)
  unfold rest6
  cases ell with
  | some e => simp only [hgt]
  | none =>
    simp only [hgt]
    cases hd : dd s with
    | none => rfl
    | some k =>
      obtain ⟨a, r, e, hk⟩ := dd_at s k hd
      have hta : s.take k = a := by rw [e, List.take_append_of_le_length (by omega), List.take_of_length_le (by omega)]
      have ha0 : a ≠ [] := by
        intro ha; subst ha
        exact h0 rfl r e
      have hgr : groups a false = none := by
        rw [groups_ne a false ha0]
        rcases hq with ⟨h1, h2⟩ | ⟨x, hx⟩
        · exfalso
          rw [← h2, h1, e] at hp
          have := hp 58 (by simp)
          simp [isB] at this
        · rcases take_two p a r x hp (by rw [← e, hx]) (by
            by_cases hp0 : p = []
            · right; intro hxx; subst hp0
              cases x with
              | nil => cases hxx
              | cons b x => simp at hxx; subst hxx; exact h0 rfl x hx
            · exact .inl hp0) with h2 | ⟨y, h2⟩
          · rw [h2, split_one 58 p hp]; exact grps_head false p [] hg (fun _ h => by cases h)
          · rw [h2, split_app 58 p 58 y hp (by decide)]; exact grps_head false p _ hg (fun _ h => by cases h)
      simp only [hta, hgr]
theorem rest6_bad1 (acc : List UInt8) (ell : Option Nat) (p : List UInt8) (hp : noC p) (hg : hexG p = none) (hf : four p = none) : rest6 acc ell p = none :=
  rest6_bad acc ell p p p [] (split_one 58 p hp) hp (.inl ⟨rfl, rfl⟩) hg (fun _ => hf) (fun _ x e => by
    have := hp 58 (by rw [e]; simp)
    simp [isB] at this)
theorem rest6_bad2 (acc : List UInt8) (ell : Option Nat) (p x : List UInt8) (hp : noC p) (hg : hexG p = none) (h0 : p ≠ [] ∨ ell ≠ none ∨ x.head? ≠ some 58) : rest6 acc ell (p ++ 58 :: x) = none :=
  rest6_bad acc ell _ p p (split 58 x) (split_app 58 p 58 x hp (by decide)) hp (.inr ⟨x, rfl⟩) hg (fun h => by unfold split at h; simp at h) (fun he y e => by
    rcases h0 with h0 | h0 | h0
    · cases p with
      | nil => exact h0 rfl
      | cons a p => simp at e; have := hp a (by simp); rw [e.1] at this; simp [isB] at this
    · exact h0 he
    · cases p with
      | nil => simp at e; rw [e] at h0; simp at h0
      | cons a p => simp at e; have := hp a (by simp); rw [e.1] at this; simp [isB] at this)

theorem isHex_dg (b : UInt8) (h : dg b = true) : isHex b = true := by
  have := (dg_int b).1 h
  unfold isHex hexv
  rw [if_pos (by omega)]
  rfl
theorem hex_noC (p : List UInt8) (h : p.all isHex = true) : noC p := by
  intro y hy
  rw [List.all_eq_true] at h
  have hh := h y hy
  rw [isC']
  intro e; subst e
  revert hh; decide
theorem hex_no46 (p : List UInt8) (h : p.all isHex = true) : ∀ y ∈ p, isB 46 y = false := by
  intro y hy
  rw [List.all_eq_true] at h
  have hh := h y hy
  unfold isB
  rw [beq_eq_false_iff_ne]
  intro e
  have : y = 46 := UInt8.toNat_inj.1 (by simpa using (by omega : y.toNat = 46))
  subst this
  revert hh; decide
theorem four_one (p : List UInt8) (h : ∀ y ∈ p, isB 46 y = false) : four p = none := by
  unfold four
  rw [split_one 46 p h]
  cases ho : octs [p] with
  | none => rfl
  | some l =>
    have := octs_len _ _ ho
    simp only
    rw [if_neg (by rw [this]; simp)]
theorem four_head (p r : List UInt8) (hp : ∀ y ∈ p, isB 46 y = false) (hb : ∀ q, oct (p ++ q) = none) : four (p ++ r) = none := by
  obtain ⟨q, t, e, _⟩ := split_head 46 p r hp
  unfold four
  rw [e, octs_head_bad _ _ (hb q)]
theorem oct_long (p : List UInt8) (h : 4 < p.length) : oct p = none := by
  unfold oct
  cases hd : decimal p with
  | none => rfl
  | some n =>
    show (if _ then _ else _) = _
    rw [if_pos]
    unfold decimal at hd
    split at hd
    · rename_i hc
      injection hd with hd
      cases p with
      | nil => simp at h
      | cons b p =>
        by_cases h48 : b = 48
        · right; exact ⟨by omega, by simp [h48]⟩
        · left
          rw [List.all_cons, Bool.and_eq_true] at hc
          have h2 := decV_small b p hc.1.1 h48
          have h4 : 10 ^ 4 ≤ 10 ^ p.length := Nat.pow_le_pow_right (by omega) (by simp at h; omega)
          omega
    · cases hd

/-- five digits -/
theorem hexG_long (p : List UInt8) (h : 4 < p.length) : hexG p = none := by
  unfold hexG; rw [if_neg]; rintro ⟨_, _, h2⟩; omega
theorem hexG_char (p : List UInt8) (b : UInt8) (hb : b ∈ p) (h : isHex b = false) : hexG p = none := by
  unfold hexG; rw [if_neg]; rintro ⟨h1, _⟩
  rw [List.all_eq_true] at h1
  rw [h1 b hb] at h
  cases h
theorem rest6_long (acc : List UInt8) (ell : Option Nat) (p r : List UInt8) (hp : p.all isHex = true) (hl : p.length = 5) : rest6 acc ell (p ++ r) = none := by
  have hf : ∀ q, four (p ++ q) = none := fun q => four_head p q (hex_no46 p hp) (fun q => oct_long _ (by simp; omega))
  rcases first_at 58 r with hr | ⟨q, x, r', rfl, hq, hx⟩
  · exact rest6_bad1 acc ell (p ++ r) (fun y hy => (List.mem_append.1 hy).elim (hex_noC p hp y) (hr y)) (hexG_long _ (by simp; omega)) (hf r)
  · rw [(isC x).1 hx, ← List.append_assoc]
    exact rest6_bad2 acc ell (p ++ q) r' (fun y hy => (List.mem_append.1 hy).elim (hex_noC p hp y) (hq y)) (hexG_long _ (by simp; omega)) (.inl (by intro e; have h1 := congrArg List.length e; rw [List.length_append, List.length_nil] at h1; omega))
/-- a strange byte behind digits -/
theorem rest6_char (acc : List UInt8) (ell : Option Nat) (p r : List UInt8) (c : UInt8) (hp : p.all isHex = true) (hc : isHex c = false) (h58 : c ≠ 58) (h46 : c ≠ 46) : rest6 acc ell (p ++ c :: r) = none := by
  have hn46 : isB 46 c = false := by
    unfold isB; rw [beq_eq_false_iff_ne]; intro e
    exact h46 (UInt8.toNat_inj.1 (by simpa using (by omega : c.toNat = 46)))
  have hdg : dg c = false := by
    rw [← Bool.not_eq_true]; intro h; rw [isHex_dg c h] at hc; cases hc
  have hpc : noC (p ++ [c]) := fun y hy => (List.mem_append.1 hy).elim (hex_noC p hp y) (fun h => by rw [List.mem_singleton.1 h]; exact (isC' c).2 h58)
  have hf : ∀ q, four (p ++ [c] ++ q) = none := fun q => four_head (p ++ [c]) q (fun y hy => (List.mem_append.1 hy).elim (hex_no46 p hp y) (fun h => by rw [List.mem_singleton.1 h]; exact hn46)) (fun q => oct_bad_digit _ c (by simp) hdg)
  rw [show p ++ c :: r = p ++ [c] ++ r by simp]
  rcases first_at 58 r with hr | ⟨q, x, r', rfl, hq, hx⟩
  · exact rest6_bad1 acc ell (p ++ [c] ++ r) (fun y hy => (List.mem_append.1 hy).elim (hpc y) (hr y)) (hexG_char _ c (by simp) hc) (hf r)
  · rw [(isC x).1 hx, ← List.append_assoc]
    exact rest6_bad2 acc ell (p ++ [c] ++ q) r' (fun y hy => (List.mem_append.1 hy).elim (hpc y) (hq y)) (hexG_char _ c (by simp) hc) (.inl (by simp))
/-- no digit at all -/
theorem hexG_nil : hexG [] = none := rfl
theorem rest6_nil (acc : List UInt8) (ell : Option Nat) : rest6 acc ell [] = none := rest6_bad1 acc ell [] (fun y hy => by simp at hy) rfl rfl
theorem rest6_colon (acc : List UInt8) (ell : Option Nat) (r : List UInt8) (h : ell ≠ none ∨ r.head? ≠ some 58) : rest6 acc ell (58 :: r) = none :=
  rest6_bad2 acc ell [] r (fun y hy => by simp at hy) rfl (.inr h)
theorem rest6_dot0 (acc : List UInt8) (ell : Option Nat) (r : List UInt8) : rest6 acc ell (46 :: r) = none := by
  have h1 : noC [46] := by intro y hy; rw [List.mem_singleton.1 hy]; decide
  have hg : ∀ q, hexG (46 :: q) = none := fun q => hexG_char _ 46 (by simp) (by decide)
  have hf : ∀ q, four (46 :: q) = none := fun q => four_head_dot q
  rcases first_at 58 r with hr | ⟨q, x, r', rfl, hq, hx⟩
  · exact rest6_bad1 acc ell (46 :: r) (fun y hy => (List.mem_cons.1 hy).elim (fun e => by rw [e]; decide) (hr y)) (hg _) (hf r)
  · rw [(isC x).1 hx, ← List.cons_append]
    exact rest6_bad2 acc ell (46 :: q) r' (fun y hy => (List.mem_cons.1 hy).elim (fun e => by rw [e]; decide) (hq y)) (hg _) (.inl (by simp))
where
  four_head_dot (q : List UInt8) : four (46 :: q) = none := by
    have := rest4_dot_empty [] q
    rw [rest4_start] at this
    exact this
theorem rest6_start (acc : List UInt8) (ell : Option Nat) (s : List UInt8) (h : ∀ c, s.head? = some c → isHex c = false) (h0 : ell ≠ none ∨ ∀ r, s ≠ 58 :: 58 :: r) : rest6 acc ell s = none := by
  cases s with
  | nil => exact rest6_nil _ _
  | cons c r =>
    have hc := h c rfl
    by_cases h58 : c = 58
    · subst h58
      refine rest6_colon acc ell r (h0.imp id (fun h e => ?_))
      cases r with
      | nil => cases e
      | cons b r => simp at e; subst e; exact h r rfl
    · by_cases h46 : c = 46
      · subst h46; exact rest6_dot0 _ _ _
      · exact rest6_char acc ell [] r c rfl hc h58 h46

/-! ### a group -/
def okG (p : List UInt8) : Prop := p.all isHex = true ∧ 1 ≤ p.length ∧ p.length ≤ 4
theorem hexG_gd (p : List UInt8) (h : okG p) : hexG p = some (grp p) := by unfold hexG okG at *; rw [if_pos h]; rfl
theorem four_ng (p : List UInt8) (h : okG p) : four p = none := four_one p (hex_no46 p h.1)
theorem rest6_end (acc : List UInt8) (ell : Option Nat) (p : List UInt8) (h : okG p) : rest6 acc ell p = fin6 (acc ++ grp p) ell := by
  have hc := hex_noC p h.1
  have hg : grps true (split 58 p) = some (grp p) := by
    rw [split_one 58 p hc]
    simp only [grps, if_pos, four_ng p h, hexG_gd p h]
  unfold rest6
  cases ell with
  | some e => simp only [hg]
  | none => simp only [hg, dd_noC p hc]
theorem grps_cons (last : Bool) (p q : List UInt8) (r : List (List UInt8)) : grps last (p :: q :: r) = (match hexG p, grps last (q :: r) with
    | some a, some b => some (a ++ b)
    | _, _ => none) := rfl
theorem split_ne (c : Int) (s : List UInt8) : ∃ q r, split c s = q :: r := by
  rcases first_at c s with h | ⟨p, x, r, rfl, hp, hx⟩
  · exact ⟨s, [], split_one c s h⟩
  · exact ⟨p, _, split_app c p x r hp hx⟩
theorem grps_part (last : Bool) (p r : List UInt8) (h : okG p) : grps last (split 58 (p ++ 58 :: r)) = (grps last (split 58 r)).map (grp p ++ ·) := by
  rw [split_app 58 p 58 r (hex_noC p h.1) (by decide)]
  obtain ⟨q, t, e⟩ := split_ne 58 r
  rw [e, grps_cons, hexG_gd p h]
  cases grps last (q :: t) <;> rfl
theorem rest6_group (acc : List UInt8) (ell : Option Nat) (p r : List UInt8) (h : okG p) (hr : r.head? ≠ some 58) : rest6 acc ell (p ++ 58 :: r) = rest6 (acc ++ grp p) ell r := by
  unfold rest6
  rw [grps_part true p r h]
  cases ell with
  | some e =>
    cases grps true (split 58 r) with
    | none => rfl
    | some b => simp only [Option.map_some, List.append_assoc]
  | none =>
    rw [dd_app p r (hex_noC p h.1) hr]
    cases hd : dd r with
    | none =>
      cases grps true (split 58 r) with
      | none => rfl
      | some b => simp only [Option.map_some, Option.map_none, List.append_assoc]
    | some k =>
      obtain ⟨a, y, e, hk⟩ := dd_at r k hd
      have ha : a ≠ [] := by intro ha; subst ha; rw [e] at hr; simp at hr
      have t1 : r.take k = a := by rw [e, List.take_append_of_le_length (by omega), List.take_of_length_le (by omega)]
      have t2 : r.drop (k + 2) = y := by rw [e, ← hk, show a.length + 2 = a.length + 2 from rfl, ← List.drop_drop, List.drop_left]; rfl
      have t3 : (p ++ 58 :: r).take (k + (p.length + 1)) = p ++ 58 :: a := by
        rw [show k + (p.length + 1) = p.length + (k + 1) by omega, List.take_length_add_append, List.take_succ_cons, t1]
      have t4 : (p ++ 58 :: r).drop (k + (p.length + 1) + 2) = y := by
        rw [show k + (p.length + 1) + 2 = p.length + (k + 2 + 1) by omega, List.drop_length_add_append, List.drop_succ_cons, t2]
      simp only [Option.map_some, t1, t2, t3, t4]
      rw [groups_ne _ _ (by simp), grps_part false p a h, groups_ne a _ ha]
      cases grps false (split 58 a) with
      | none => rfl
      | some b =>
        cases groups y true with
        | none => rfl
        | some c =>
          simp only [Option.map_some, List.append_assoc, List.length_append]
          congr 1
          simp [Nat.add_assoc]
theorem rest6_colon_last (acc : List UInt8) (ell : Option Nat) (p : List UInt8) (h : okG p) : rest6 acc ell (p ++ [58]) = none := by
  have hg : grps true (split 58 (p ++ [58])) = none := by rw [grps_part true p [] h]; rfl
  unfold rest6
  rw [hg]
  cases ell with
  | some e => rfl
  | none => rw [dd_app p [] (hex_noC p h.1) (by simp)]; rfl
theorem rest6_twice (acc : List UInt8) (e : Nat) (p r : List UInt8) (h : okG p) : rest6 acc (some e) (p ++ 58 :: 58 :: r) = none := by
  have hg : grps true (split 58 (58 :: r)) = none := by
    rw [show (58 : UInt8) :: r = [] ++ 58 :: r from rfl, split_app 58 [] 58 r (fun y hy => by simp at hy) (by decide)]
    exact grps_head true [] _ rfl (fun _ _ => rfl)
  unfold rest6
  rw [grps_part true p _ h, hg]
  rfl
theorem groups_ok (p : List UInt8) (h : okG p) : groups p false = some (grp p) := by
  have : p ≠ [] := by intro e; have := h.2.1; rw [e] at this; simp at this
  rw [groups_ne p _ this, split_one 58 p (hex_noC p h.1)]
  simp only [grps, hexG_gd p h]
  rfl
theorem rest6_dd_end (acc p : List UInt8) (h : okG p) : rest6 acc none (p ++ [58, 58]) = fin6 (acc ++ grp p) (some (acc.length + 2)) := by
  unfold rest6
  rw [dd_two p [] (hex_noC p h.1)]
  simp only [List.take_left, groups_ok p h]
  have : (p ++ [58, 58]).drop (p.length + 2) = [] := by simp
  rw [this]
  show fin6 (acc ++ grp p ++ []) _ = _
  rw [List.append_nil]
  rfl
theorem rest6_dd (acc p r : List UInt8) (h : okG p) (hr : r ≠ []) : rest6 acc none (p ++ 58 :: 58 :: r) = rest6 (acc ++ grp p) (some (acc.length + 2)) r := by
  unfold rest6
  rw [dd_two p r (hex_noC p h.1)]
  have : (p ++ 58 :: 58 :: r).drop (p.length + 2) = r := by rw [List.drop_length_add_append]; rfl
  simp only [List.take_left, groups_ok p h, this, groups_ne r true hr]
  cases grps true (split 58 r) with
  | none => rfl
  | some b => rfl
/-- a point behind digits -/
theorem noC_four (s l : List UInt8) (h : four s = some l) : noC s := by
  unfold four at h
  cases ho : octs (split 46 s) with
  | none => rw [ho] at h; cases h
  | some m =>
    clear h
    suffices H : ∀ (n : Nat) (s : List UInt8), s.length ≤ n → ∀ m, octs (split 46 s) = some m → noC s from H s.length s (Nat.le_refl _) m ho
    intro n
    induction n with
    | zero =>
      intro s hs m _ y hy
      have : s = [] := List.eq_nil_of_length_eq_zero (by omega)
      rw [this] at hy; simp at hy
    | succ n ih =>
      intro s hs m hm
      have hpc : ∀ p : List UInt8, ∀ b, oct p = some b → noC p := by
        intro p b hb y hy
        rw [isC']
        intro e; subst e
        rw [oct_bad_digit p 58 hy (by decide)] at hb
        cases hb
      rcases first_at 46 s with h | ⟨p, x, r, rfl, hp, hx⟩
      · rw [split_one 46 s h, octs_cons] at hm
        cases ho : oct s with
        | none => rw [ho] at hm; cases hm
        | some b => exact hpc s b ho
      · rw [split_app 46 p x r hp hx, octs_cons] at hm
        cases ho : oct p with
        | none => rw [ho] at hm; cases hm
        | some b =>
          cases hr : octs (split 46 r) with
          | none => rw [ho, hr] at hm; cases hm
          | some t =>
            have h2 := ih r (by simp at hs; omega) t hr
            intro y hy
            rcases List.mem_append.1 hy with hy | hy
            · exact hpc p b ho y hy
            · rcases List.mem_cons.1 hy with rfl | hy
              · unfold isB at hx ⊢
                rw [beq_iff_eq] at hx
                rw [beq_eq_false_iff_ne]
                omega
              · exact h2 y hy
theorem rest6_dot (acc : List UInt8) (ell : Option Nat) (p r : List UInt8) (h : okG p) : rest6 acc ell (p ++ 46 :: r) = (match four (p ++ 46 :: r) with
    | some l => fin6 (acc ++ l) ell
    | none => none) := by
  have hp46 : ∀ q, hexG (p ++ 46 :: q) = none := fun q => hexG_char _ 46 (by simp) (by decide)
  rcases first_at 58 r with hr | ⟨q, x, r', rfl, hq, hx⟩
  · have hc : noC (p ++ 46 :: r) := by
      intro y hy
      rcases List.mem_append.1 hy with hy | hy
      · exact hex_noC p h.1 y hy
      · rcases List.mem_cons.1 hy with rfl | hy
        · decide
        · exact hr y hy
    cases hf : four (p ++ 46 :: r) with
    | none => exact rest6_bad1 acc ell _ hc (hp46 _) hf
    | some l =>
      have hg : grps true (split 58 (p ++ 46 :: r)) = some l := by
        rw [split_one 58 _ hc]
        simp only [grps, if_pos, hf]
      unfold rest6
      cases ell with
      | some e => simp only [hg]
      | none => simp only [hg, dd_noC _ hc]
  · rw [(isC x).1 hx]
    have hf : four (p ++ 46 :: (q ++ 58 :: r')) = none := by
      cases hf : four (p ++ 46 :: (q ++ 58 :: r')) with
      | none => rfl
      | some l =>
        have := noC_four _ _ hf 58 (by simp)
        simp [isB] at this
    rw [hf, show p ++ 46 :: (q ++ 58 :: r') = (p ++ 46 :: q) ++ 58 :: r' by simp]
    refine rest6_bad2 acc ell (p ++ 46 :: q) r' ?_ (hp46 _) (.inl (by simp))
    intro y hy
    rcases List.mem_append.1 hy with hy | hy
    · exact hex_noC p h.1 y hy
    · rcases List.mem_cons.1 hy with rfl | hy
      · decide
      · exact hq y hy

/-! ### no room -/
theorem hexG_two (p b : List UInt8) (h : hexG p = some b) : b.length = 2 := by
  unfold hexG at h
  split at h
  · injection h with h; subst h; rfl
  · cases h
theorem four_l (s l : List UInt8) (h : four s = some l) : l.length = 4 := by
  unfold four at h
  split at h
  · split at h
    · rename_i h4; injection h with h; subst h; exact h4
    · cases h
  · cases h
theorem grps_even (last : Bool) : ∀ (ps : List (List UInt8)) (b : List UInt8), grps last ps = some b → b.length % 2 = 0 ∧ (ps ≠ [] → 2 ≤ b.length)
  | [], b, h => by injection h with h; subst h; simp
  | [p], b, h => by
    simp only [grps] at h
    split at h
    · rename_i c hc
      injection h with h
      subst h
      split at hc
      · rw [four_l _ _ hc]; simp
      · cases hc
    · rw [hexG_two _ _ h]; simp
  | p :: q :: r, b, h => by
    simp only [grps] at h
    split at h
    · rename_i a c ha hc
      injection h with h
      subst h
      have h1 := hexG_two _ _ ha
      have h2 := grps_even last (q :: r) c hc
      rw [List.length_append]
      omega
    · cases h
theorem groups_even (s : List UInt8) (last : Bool) (b : List UInt8) (h : groups s last = some b) : b.length % 2 = 0 := by
  unfold groups at h
  split at h
  · injection h with h; subst h; rfl
  · exact (grps_even last _ b h).1
theorem grps_two (s b : List UInt8) (h : grps true (split 58 s) = some b) : 2 ≤ b.length := by
  obtain ⟨q, r, e⟩ := split_ne 58 s
  rw [e] at h
  exact (grps_even true _ b h).2 (by simp)
theorem rest6_full (acc : List UInt8) (ell : Option Nat) (s : List UInt8) (h : 16 ≤ acc.length) : rest6 acc ell s = none := by
  unfold rest6
  cases ell with
  | some e =>
    cases hg : grps true (split 58 s) with
    | none => rfl
    | some b => simp only [fin6]; rw [if_neg (by simp; omega)]
  | none =>
    cases hd : dd s with
    | none =>
      cases hg : grps true (split 58 s) with
      | none => rfl
      | some b =>
        have := grps_two s b hg
        simp only [fin6]
        rw [if_neg (by simp; omega)]
    | some k =>
      simp only
      cases groups (s.take k) false with
      | none => rfl
      | some a =>
        cases groups (s.drop (k + 2)) true with
        | none => rfl
        | some b => simp only [fin6]; rw [if_neg (by simp; omega)]

/-! ### from the beginning -/
theorem rest6_all (s : List UInt8) (h : four s = none) : rest6 [] none s = addr s := by
  unfold rest6 addr
  rw [h]
  cases hd : dd s with
  | none =>
    simp only
    by_cases hs : s = []
    · subst hs; rfl
    · rw [groups_ne s true hs]
      cases grps true (split 58 s) <;> rfl
  | some k =>
    simp only
    cases ha : groups (s.take k) false with
    | none => rfl
    | some a =>
      cases hb : groups (s.drop (k + 2)) true with
      | none => rfl
      | some b =>
        have h1 := groups_even _ _ _ ha
        have h2 := groups_even _ _ _ hb
        simp only [fin6, List.nil_append, List.length_nil, Nat.zero_add, List.length_append]
        by_cases h3 : a.length + b.length < 16
        · rw [if_pos h3, if_neg (by omega), List.take_left, List.drop_left, Nat.sub_sub]
        · rw [if_neg h3, if_pos (by omega)]
theorem rest6_lead (r : List UInt8) (h : r ≠ []) : rest6 [] none (58 :: 58 :: r) = rest6 [] (some 0) r := by
  unfold rest6
  rw [show dd (58 :: 58 :: r) = some 0 by rw [dd, if_pos ⟨rfl, rfl⟩]]
  simp only [List.take_zero, Nat.zero_add, List.drop_succ_cons, List.drop_zero, groups_ne r true h]
  rw [show groups [] false = some [] from rfl]
  cases grps true (split 58 r) <;> rfl
theorem rest6_only : rest6 [] none [58, 58] = some (List.replicate 16 0) := by decide
theorem four_colon (s : List UInt8) (h : 58 ∈ s) : four s = none := by
  cases hf : four s with
  | none => rfl
  | some l =>
    have := noC_four _ _ hf 58 h
    simp [isB] at this

end Go.Proofs.YtfkohahlpfejbaaDoor.pl
