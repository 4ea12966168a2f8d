/-
  WALKS: parseIPv6: what its walk leans on.
-/
import Derived.Test.YtfkohahlpfejbaaDoorNet3
import Derived.Lib.Bytealg
import Derived.Lib.SliceRun
namespace Go.Proofs.YtfkohahlpfejbaaDoor
open Go.RowKit

theorem pl.noByte (l : List UInt8) (c : UInt8) (h : c ∉ l) : Lib.indexByte l c = -1 := by
  induction l with
  | nil => rfl
  | cons b l ih =>
    have hb : ¬ b = c := fun e => h (by simp [e])
    have hl := ih (fun e => h (by simp [e]))
    simp [Lib.indexByte, hb, hl]

theorem pc_run (s : ByteArray) (w : World) (h : (37 : UInt8) ∉ s.data.toList) :
    (callFunc 108 #[.string s, .int .u8 37]).run Tryd.prog w = .ok (.value (.int .i64 (-1))) w := by
  rw [run_callFunc_extern Tryd.func108 (by kernel_rfl) (by kernel_rfl) (by kernel_rfl) (e := Extern.BytealgIndexByte.indexByte) (by kernel_rfl), Lib.run_indexByteString]
  rw [show (37 : Int).toNat.toUInt8 = 37 from rfl, pl.noByte _ _ h]
  rfl

/-- the world in the midst of parseIPv6 -/
structure V6W (g : Nat) (w W1 wr : World) (acc : List UInt8) : Prop where
  bel : Below (g + 1) W1 wr
  siz : wr.heap.size = g + 2
  len : acc.length ≤ 16
  blk : BBlk wr (g + 1) (acc ++ List.replicate (16 - acc.length) 0) 127

theorem v6_err {g4 o4 g6 o6 g : Nat} {w W : World} {a : Act} {F : Option (List UInt8)} {t : TypeId} {v : Value} (hF : F = none) (hR : Blk W g #[Value.int IntKind.u64 0, Value.int IntKind.u64 0, Value.pointer none] 119) (hb : Below g w W) (hg : w.heap.size = g)
    (h2 : a.tmps.getD 2 undef = .pointer (some ⟨g, 0, none⟩)) (h3 : a.tmps.getD 3 undef = .iface t v) (hd : a.defers = []) :
    bodyPost Tryd.prog Tryd.f99 (fun e w' => IpRes g4 o4 g6 o6 w w' e F) .ret a (((W.setCell ⟨g, 0, none⟩ (.int .u64 0)).setCell ⟨g, 1, none⟩ (.int .u64 0)).setCell ⟨g, 2, none⟩ (.pointer none)) := by
  have hst := set3 (.int .u64 0) (.int .u64 0) (.pointer none) hR
  refine bodyPost_ret (results_cell_tmp_row rfl _ _ g _ _ _ _ h2 h3 hst.1 Tryd.underlying119 rfl (by kernel_rfl)) hd ?_
  exact ⟨hg ▸ hst.2.1 g w hb (Nat.le_refl _), .inl ⟨hF, _, _, rfl⟩⟩

theorem V6W.cell {g : Nat} {w W1 wr : World} {acc : List UInt8} (h : V6W g w W1 wr acc) (k : Nat) (hk : k < 16) : ∃ x, wr.cell? ⟨g + 1, k, none⟩ = some x := by
  have hl : (acc ++ List.replicate (16 - acc.length) 0).length = 16 := by have := h.len; simp; omega
  exact ⟨_, h.blk.cell k (by rw [hl]; exact hk)⟩
theorem V6W.put {g : Nat} {w W1 wr : World} {acc : List UInt8} (h : V6W g w W1 wr acc) (i : Nat) (hi : acc.length = i) (h2 : i + 2 ≤ 16) (a b : UInt8) :
    V6W g w W1 ((wr.setCell ⟨g + 1, i, none⟩ (pl.byteV a)).setCell ⟨g + 1, i + 1, none⟩ (pl.byteV b)) (acc ++ [a, b]) := by
  subst hi
  refine ⟨(h.bel.setCell (Nat.le_refl _) _).setCell (Nat.le_refl _) _, by rw [← h.siz]; simp [World.setCell], by simp; omega, ?_⟩
  have h3 := (h.blk.set acc.length a).set (acc.length + 1) b
  have e : ((acc ++ List.replicate (16 - acc.length) 0).set acc.length a).set (acc.length + 1) b = (acc ++ [a, b]) ++ List.replicate (16 - (acc ++ [a, b]).length) 0 := by
    have e1 : 16 - acc.length = (16 - (acc ++ [a, b]).length) + 1 + 1 := by simp; omega
    rw [e1, List.replicate_succ, List.replicate_succ, List.set_append_right _ _ (Nat.le_refl _), Nat.sub_self, List.set_cons_zero, List.set_append_right _ _ (by omega), show acc.length + 1 - acc.length = 0 + 1 by omega, List.set_cons_succ, List.set_cons_zero]
    simp
  rw [e] at h3
  exact h3
theorem V6W.four {g : Nat} {w W1 wr w2 : World} {acc l : List UInt8} (h : V6W g w W1 wr acc) (i : Nat) (hi : acc.length = i) (hl : l.length = 4) (h4 : i + 4 ≤ 16) (hb : Below (g + 1) wr w2) (hs : w2.heap.size = wr.heap.size)
    (hk : BBlk w2 (g + 1) ((acc ++ List.replicate (16 - acc.length) 0).take i ++ l ++ (acc ++ List.replicate (16 - acc.length) 0).drop (i + l.length)) 127) : V6W g w W1 w2 (acc ++ l) := by
  subst hi
  refine ⟨h.bel.trans hb, by rw [hs, h.siz], by simp; omega, ?_⟩
  rw [List.take_left, List.drop_append, List.drop_replicate, List.drop_eq_nil_of_le (by omega), List.nil_append] at hk
  rw [show 16 - (acc ++ l).length = 16 - acc.length - (acc.length + l.length - acc.length) by simp; omega]
  exact hk
theorem pl.ext_size (S : ByteArray) (k : Nat) : (S.extract k S.size).size = S.size - k := by simp
theorem pl.ext_at (S : ByteArray) (k : Nat) (h : k < S.size) (h0 : 0 < (S.extract k S.size).size) : (S.extract k S.size)[0] = S[k] := by
  simp [ByteArray.getElem_extract]
theorem pl.suf_ext (s S : ByteArray) (q : List UInt8) (h : s.data.toList = q ++ S.data.toList) : s.extract q.length s.size = S ∧ s.size = q.length + S.size := by
  have hl : s.size = q.length + S.size := by
    have := congrArg List.length h
    simpa using this
  refine ⟨?_, hl⟩
  have h2 := pl.ext_drop s q.length
  rw [h, List.drop_left] at h2
  rw [h2]
theorem pl.no58 (x : UInt8) (h : x ≠ 58) : ((x.toNat : Int) == 58) = false ∧ ((x.toNat : Int) != 58) = true := by
  have : ((x.toNat : Int) == 58) = false := by
    rw [beq_eq_false_iff_ne]; intro e; exact h (UInt8.toNat_inj.1 (by show x.toNat = 58; omega))
  exact ⟨this, by rw [bne, this]; rfl⟩
theorem pl.no46 (x : UInt8) (h : x ≠ 46) : ((x.toNat : Int) == 46) = false := by
  rw [beq_eq_false_iff_ne]; intro e; exact h (UInt8.toNat_inj.1 (by show x.toNat = 46; omega))
theorem beqN (a b : Nat) (h : a ≠ b) : ((a : Int) == (b : Int)) = false := by rw [beq_eq_false_iff_ne]; omega

theorem pl.list16 (L : List UInt8) (h : L.length = 16) : ∃ b0 b1 b2 b3 b4 b5 b6 b7 b8 b9 b10 b11 b12 b13 b14 b15, L = [b0, b1, b2, b3, b4, b5, b6, b7, b8, b9, b10, b11, b12, b13, b14, b15] := by
  match L, h with
  | [b0, b1, b2, b3, b4, b5, b6, b7, b8, b9, b10, b11, b12, b13, b14, b15], _ => exact ⟨b0, b1, b2, b3, b4, b5, b6, b7, b8, b9, b10, b11, b12, b13, b14, b15, rfl⟩
theorem BBlk.setCells {g : Nat} {ty : TypeId} : ∀ (bs : List UInt8) {w : World} {l : List UInt8} (o : Nat), BBlk w g l ty → o + bs.length ≤ l.length → BBlk (w.setCells g o (bs.map pl.byteV)) g (l.take o ++ bs ++ l.drop (o + bs.length)) ty
  | [], w, l, o, h, _ => by
    have e : l.take o ++ [] ++ l.drop (o + 0) = l := by simp
    show BBlk w g (l.take o ++ [] ++ l.drop (o + 0)) ty
    rw [e]; exact h
  | b :: bs, w, l, o, h, hl => by
    have h1 := h.set o b
    have h2 := BBlk.setCells bs (o + 1) h1 (by rw [List.length_set]; simp at hl; omega)
    have hlt : o < l.length := by simp at hl; omega
    have e : (l.set o b).take (o + 1) ++ bs ++ (l.set o b).drop (o + 1 + bs.length) = l.take o ++ (b :: bs) ++ l.drop (o + (b :: bs).length) := by
      rw [List.drop_set_of_lt (by omega), List.take_add_one, List.take_set_of_le (Nat.le_refl _), List.getElem?_set_self hlt]
      simp only [Option.toList_some, List.append_assoc, List.cons_append, List.nil_append, List.length_cons]
      rw [show o + (bs.length + 1) = o + 1 + bs.length by omega]
    rw [e] at h2
    exact h2
theorem Below.setCells {B g : Nat} (hg : B ≤ g) : ∀ (vs : List Value) {w0 w : World} (o : Nat), Below B w0 w → Below B w0 (w.setCells g o vs)
  | [], _, _, _, h => h
  | v :: vs, _, _, o, h => Below.setCells hg vs (o + 1) (h.setCell (p := ⟨g, o, none⟩) hg v)
/-- one byte is moved up -/
theorem pl.move_one (acc md : List UInt8) (z : UInt8) (c : Nat) (hc : c < acc.length) :
    (acc.take (c + 1) ++ (md ++ [z]) ++ acc.drop (c + 1)).set (c + (md.length + 1)) acc[c] = acc.take c ++ (acc[c] :: md) ++ acc.drop c := by
  obtain ⟨x, hx⟩ : ∃ x, acc[c] = x := ⟨_, rfl⟩
  have h1 : acc.take (c + 1) = acc.take c ++ [x] := by rw [List.take_add_one, List.getElem?_eq_getElem hc, hx]; rfl
  have h2 : acc.drop c = x :: acc.drop (c + 1) := by rw [← hx]; exact List.drop_eq_getElem_cons hc
  rw [hx, h1, h2]
  have hl : (acc.take c ++ [x] ++ md).length = c + (md.length + 1) := by
    rw [List.length_append, List.length_append, List.length_take]; simp; omega
  rw [show acc.take c ++ [x] ++ (md ++ [z]) ++ acc.drop (c + 1) = (acc.take c ++ [x] ++ md) ++ (z :: acc.drop (c + 1)) by simp only [List.append_assoc, List.cons_append, List.nil_append]]
  rw [List.set_append_right _ _ (by omega), hl, Nat.sub_self, List.set_cons_zero]
  simp only [List.append_assoc, List.cons_append, List.nil_append]
theorem slice_any (g i n : Nat) (w : World) (h : i + n ≤ 16) (hn : 0 < n) : (Instr.sliceAt 127 (.pointer (some ⟨g, 0, none⟩)) (some (.int .i64 (i : Int))) (some (.int .i64 ((i : Int) + (n : Int)))) none).run Tryd.prog w = .ok (.slice (some ⟨g, i, none⟩) n (16 - i)) w := by
  have ht : Tryd.prog.underlying 127 = some (.array (Tryd.prog.arrayLen 127) (Tryd.prog.elem 127)) := by kernel_rfl
  have hl : Tryd.prog.arrayLen 127 = 16 := by kernel_rfl
  have he : Tryd.prog.elem 127 = 5 := by kernel_rfl
  obtain ⟨i0, hi, _, _, hs⟩ := info_parts infoByte
  have hsz : (sizeOf 5).run Tryd.prog w = .ok 1 w := by
    have h1 : i0.size = 1 := by
      have := infoByte
      rw [hi] at this
      simp at this
      exact this.2.1
    simp [sizeOf, typeInfo, hi, h1]
  have hv : slicedAt ⟨g, 0, none⟩ ((i : Int)).toNat ((i : Int) + (n : Int)).toNat 16 1 = .slice (some ⟨g, i, none⟩) n (16 - i) := by
    unfold slicedAt
    rw [show ((i : Int) + (n : Int)).toNat = i + n by omega, Int.toNat_natCast, if_neg (by omega), Addr.add_lit, Nat.mul_one, Nat.zero_add, Nat.add_sub_cancel_left]
  rw [run_sliceAt_array_lh w _ _ ht .i64 .i64 (i : Int) ((i : Int) + (n : Int)) (by omega) (by omega) (by rw [hl]; omega), he, hsz, hl]
  show Result.ok (slicedAt _ _ _ 16 1) w = _
  rw [hv]

def ellI : Option Nat → Int
  | none => -1
  | some e => e

end Go.Proofs.YtfkohahlpfejbaaDoor
