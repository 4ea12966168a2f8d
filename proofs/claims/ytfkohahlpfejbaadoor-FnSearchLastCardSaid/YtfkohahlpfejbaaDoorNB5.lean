/-
  THE BASE of the statements over net/netip, part 5 of 6: PlPa, Parse, Fr, DecHex, Str4, Str6, Str7, Str8, Str9, Str10, Lit, Number.
-/
import Derived.Test.YtfkohahlpfejbaaDoorNB4
import Derived.Lib.AppendStr
import Derived.Deep.CutBlock
import Derived.Deep.DeepCutAuto
import Derived.Deep.LoopGhost

/- PlPa: PLAIN: which reader an address goes to. -/
namespace Go.Proofs.YtfkohahlpfejbaaDoor.pl

theorem addr_dot (p r : List UInt8) (hp : ∀ y ∈ p, isB 58 y = false) (h46 : ∀ y ∈ p, isB 46 y = false) : addr (p ++ 46 :: r) = four (p ++ 46 :: r) := by
  cases hf : four (p ++ 46 :: r) with
  | some l => unfold addr; rw [hf]
  | none =>
    rw [← rest6_all _ hf]
    by_cases h0 : p = []
    · subst h0; exact rest6_dot0 _ _ _
    · have hg : ∀ q, hexG (p ++ 46 :: q) = none := fun q => hexG_char _ 46 (by simp) (by decide)
      rcases first_at 58 r with hr | ⟨q, x, r', rfl, hq, hx⟩
      · refine rest6_bad1 [] none _ (fun y hy => ?_) (hg _) hf
        rcases List.mem_append.1 hy with hy | hy
        · exact hp y hy
        · rcases List.mem_cons.1 hy with rfl | hy
          · decide
          · exact hr y hy
      · rw [(isC x).1 hx, show p ++ 46 :: (q ++ 58 :: r') = (p ++ 46 :: q) ++ 58 :: r' by simp]
        refine rest6_bad2 [] none (p ++ 46 :: q) r' (fun y hy => ?_) (hg _) (.inl (by simp))
        rcases List.mem_append.1 hy with hy | hy
        · exact hp y hy
        · rcases List.mem_cons.1 hy with rfl | hy
          · decide
          · exact hq y hy
theorem addr_plain (s : List UInt8) (h58 : ∀ y ∈ s, isB 58 y = false) (h46 : ∀ y ∈ s, isB 46 y = false) : addr s = none := by
  have hf := four_one s h46
  rw [← rest6_all _ hf]
  cases hg : hexG s with
  | none => exact rest6_bad1 [] none s h58 hg hf
  | some b =>
    have hok : okG s := by
      unfold hexG at hg
      split at hg
      · assumption
      · cases hg
    rw [rest6_end [] none s hok]
    rfl

end Go.Proofs.YtfkohahlpfejbaaDoor.pl

/- Parse: WALKS: net/netip: ParseAddr. -/
namespace Go.Proofs.YtfkohahlpfejbaaDoor
open Go.RowKit

theorem adr_cells (g4 o4 g6 o6 : Nat) (b : List UInt8) : ∃ (hi lo g o : Nat), adr g4 o4 g6 o6 b = .agg #[.int .u64 (hi : Int), .int .u64 (lo : Int), .pointer (some ⟨g, o, none⟩)] := by
  unfold adr
  split
  · exact ⟨_, _, _, _, rfl⟩
  · exact ⟨_, _, _, _, rfl⟩

set_option maxRecDepth 100000 in
set_option maxHeartbeats 8000000 in
theorem pa_sp (g4 o4 g6 o6 : Nat) (s : ByteArray) (w : World) (hs : s.size ≤ 2147483648) (hI : IpVars w g4 o4 g6 o6) (h37 : (37 : UInt8) ∉ s.data.toList) :
    Calls Tryd.prog 93 #[.string s] w fun e w' => IpRes g4 o4 g6 o6 w w' e (pl.addr s.data.toList) := by
  obtain ⟨g, hg⟩ : ∃ g, w.heap.size = g := ⟨_, rfl⟩
  obtain ⟨W1, hW1⟩ : ∃ W1, w.alloc (Obj.cells #[Value.int IntKind.u64 0, Value.int IntKind.u64 0, Value.pointer none] 119) = W1 := ⟨_, rfl⟩
  have hR : Blk W1 g #[Value.int IntKind.u64 0, Value.int IntKind.u64 0, Value.pointer none] 119 := by rw [← hW1, ← hg]; exact Blk.new w _ _
  have hb1 : Below g w W1 := by rw [← hW1, ← hg]; exact (Below.refl _ _).alloc (Nat.le_refl _) _
  have hI1 := hI.below hb1 (by omega)
  have h4 := v4_sp g4 o4 g6 o6 s W1 hs hI1
  have h6 := fun h58 => v6_sp g4 o4 g6 o6 s W1 hs hI1 h37 h58
  have hpp := pl.addr_plain s.data.toList
  obtain ⟨F, hF⟩ : ∃ F, pl.addr s.data.toList = F := ⟨_, rfl⟩
  have hgl := hR.lt
  rw [hF] at h6 hpp ⊢
  have H4 := Lib.hid h4
  have H6 := Lib.hid h6
  have HPP := Lib.hid hpp
  have HF := Lib.hid hF
  have HR := Lib.hid hR
  have HB1 := Lib.hid hb1
  obtain ⟨c0, c1, c2, f0, f1, f2⟩ := blk3 hR
  have HST := Lib.hid (set3 (.int .u64 0) (.int .u64 0) (.pointer none) hR)
  clear h4 h6 hpp hF hR hb1 hI1 hI
  go_enter Tryd.func93, Tryd.ntmps93
  go_wp2_with fail
  go_loopw [4] (fun iv wr => ∃ k : Nat, iv = .int .i64 (k : Int) ∧ k ≤ s.size ∧ Hid (∀ y ∈ s.data.toList.take k, pl.isB 58 y = false) ∧ Hid (∀ y ∈ s.data.toList.take k, pl.isB 46 y = false) ∧ wr = W1) (fun iv _ => s.size - (intOf iv).toNat)
  case atStart => exact ⟨0, rfl, Nat.zero_le _, Lib.hid (fun y hy => by simp at hy), Lib.hid (fun y hy => by simp at hy), rfl⟩
  case round =>
    obtain ⟨k, rfl, hk, HC, HD, hwr⟩ := hrel
    replace hwr := hwr.symm
    subst hwr
    by_cases hlt : k < s.size
    · obtain ⟨x, hx⟩ : ∃ x, s[k] = x := ⟨_, rfl⟩
      have hsd : s.data.toList = s.data.toList.take k ++ x :: s.data.toList.drop (k + 1) := by
        rw [← hx, ← pl.drop_cons' s k hlt, List.take_append_drop]
      have HSD := Lib.hid hsd
      have hx37 : x ≠ 37 := by
        intro e; apply h37; rw [hsd, e]; simp
      clear hsd
      by_cases h46 : x = 46
      · subst h46
        have hcall : Calls Tryd.prog 98 #[.string s] W1 fun e w' => IpRes g4 o4 g6 o6 W1 w' e F := by
          have : F = pl.four s.data.toList := by
            rw [← HF.out, HSD.out, pl.addr_dot _ _ HC.out HD.out]
          rw [this]; exact H4.out
        have HCALL := Lib.hid hcall
        clear hcall
        rcases F with _ | b
        · have hno : Calls Tryd.prog 98 #[.string s] W1 fun e w' => (∃ t v, e = .returned (.tuple #[.agg #[.int .u64 0, .int .u64 0, .pointer none], .iface t v])) ∧ Hid (Below W1.heap.size W1 w') := by
            refine HCALL.out.mono fun e w' ⟨hb, hr⟩ => ?_
            rcases hr with ⟨_, t, v, h⟩ | ⟨b, h, _⟩
            · exact ⟨⟨t, v, h⟩, Lib.hid hb⟩
            · cases h
          have HNO := Lib.hid hno
          clear hno
          go_wp2_with (go_at_call 98; refine HNO.out.mono ?_; rintro e w2 ⟨⟨t, v, rfl⟩, HB2⟩; obtain ⟨d0, d1, d2, k0, k1, k2⟩ := blk3 (HR.out.below HB2.out hgl))
          have hst := set3 (.int .u64 0) (.int .u64 0) (.pointer none) (HR.out.below HB2.out hgl)
          refine bodyPost_ret (results_cell_tmp_row rfl _ _ g _ _ _ _ rfl rfl hst.1 Tryd.underlying119 rfl (by kernel_rfl)) rfl ?_
          exact ⟨hg ▸ hst.2.1 g w (HB1.out.trans (HB2.out.mono (Nat.le_of_lt hgl))) (Nat.le_refl _), .inl ⟨rfl, _, _, rfl⟩⟩
        · obtain ⟨hi, lo, gz, oz, hadr⟩ := adr_cells g4 o4 g6 o6 b
          have hyes : Calls Tryd.prog 98 #[.string s] W1 fun e w' => e = .returned (.tuple #[.agg #[.int .u64 (hi : Int), .int .u64 (lo : Int), .pointer (some ⟨gz, oz, none⟩)], .nilIface]) ∧ Hid (Below W1.heap.size W1 w') ∧ Hid (b.length = 4 ∨ b.length = 16) := by
            refine HCALL.out.mono fun e w' ⟨hb, hr⟩ => ?_
            rcases hr with ⟨h, _⟩ | ⟨b', h, hl, he⟩
            · cases h
            · injection h with h
              subst h
              rw [hadr] at he
              exact ⟨he, Lib.hid hb, Lib.hid hl⟩
          have HYES := Lib.hid hyes
          have HADR := Lib.hid hadr
          clear hyes hadr
          go_wp2_with (go_at_call 98; refine HYES.out.mono ?_; rintro e w2 ⟨rfl, HB2, HLB⟩; obtain ⟨d0, d1, d2, k0, k1, k2⟩ := blk3 (HR.out.below HB2.out hgl))
          have hst := set3 (.int .u64 (hi : Int)) (.int .u64 (lo : Int)) (.pointer (some ⟨gz, oz, none⟩)) (HR.out.below HB2.out hgl)
          refine bodyPost_ret (results_cell_tmp_row rfl _ _ g _ _ _ _ rfl rfl hst.1 Tryd.underlying119 rfl (by kernel_rfl)) rfl ?_
          exact ⟨hg ▸ hst.2.1 g w (HB1.out.trans (HB2.out.mono (Nat.le_of_lt hgl))) (Nat.le_refl _), .inr ⟨b, rfl, HLB.out, by rw [HADR.out]; rfl⟩⟩
      · have h46b := pl.no46 x h46
        by_cases h58 : x = 58
        · subst h58
          have HCALL := Lib.hid (H6.out (by rw [HSD.out]; simp))
          rcases F with _ | b
          · have hno : Calls Tryd.prog 99 #[.string s] W1 fun e w' => (∃ t v, e = .returned (.tuple #[.agg #[.int .u64 0, .int .u64 0, .pointer none], .iface t v])) ∧ Hid (Below W1.heap.size W1 w') := by
              refine HCALL.out.mono fun e w' ⟨hb, hr⟩ => ?_
              rcases hr with ⟨_, t, v, h⟩ | ⟨b, h, _⟩
              · exact ⟨⟨t, v, h⟩, Lib.hid hb⟩
              · cases h
            have HNO := Lib.hid hno
            clear hno
            go_wp2_with (go_at_call 99; refine HNO.out.mono ?_; rintro e w2 ⟨⟨t, v, rfl⟩, HB2⟩; obtain ⟨d0, d1, d2, k0, k1, k2⟩ := blk3 (HR.out.below HB2.out hgl))
            have hst := set3 (.int .u64 0) (.int .u64 0) (.pointer none) (HR.out.below HB2.out hgl)
            refine bodyPost_ret (results_cell_tmp_row rfl _ _ g _ _ _ _ rfl rfl hst.1 Tryd.underlying119 rfl (by kernel_rfl)) rfl ?_
            exact ⟨hg ▸ hst.2.1 g w (HB1.out.trans (HB2.out.mono (Nat.le_of_lt hgl))) (Nat.le_refl _), .inl ⟨rfl, _, _, rfl⟩⟩
          · obtain ⟨hi, lo, gz, oz, hadr⟩ := adr_cells g4 o4 g6 o6 b
            have hyes : Calls Tryd.prog 99 #[.string s] W1 fun e w' => e = .returned (.tuple #[.agg #[.int .u64 (hi : Int), .int .u64 (lo : Int), .pointer (some ⟨gz, oz, none⟩)], .nilIface]) ∧ Hid (Below W1.heap.size W1 w') ∧ Hid (b.length = 4 ∨ b.length = 16) := by
              refine HCALL.out.mono fun e w' ⟨hb, hr⟩ => ?_
              rcases hr with ⟨h, _⟩ | ⟨b', h, hl, he⟩
              · cases h
              · injection h with h
                subst h
                rw [hadr] at he
                exact ⟨he, Lib.hid hb, Lib.hid hl⟩
            have HYES := Lib.hid hyes
            have HADR := Lib.hid hadr
            clear hyes hadr
            go_wp2_with (go_at_call 99; refine HYES.out.mono ?_; rintro e w2 ⟨rfl, HB2, HLB⟩; obtain ⟨d0, d1, d2, k0, k1, k2⟩ := blk3 (HR.out.below HB2.out hgl))
            have hst := set3 (.int .u64 (hi : Int)) (.int .u64 (lo : Int)) (.pointer (some ⟨gz, oz, none⟩)) (HR.out.below HB2.out hgl)
            refine bodyPost_ret (results_cell_tmp_row rfl _ _ g _ _ _ _ rfl rfl hst.1 Tryd.underlying119 rfl (by kernel_rfl)) rfl ?_
            exact ⟨hg ▸ hst.2.1 g w (HB1.out.trans (HB2.out.mono (Nat.le_of_lt hgl))) (Nat.le_refl _), .inr ⟨b, rfl, HLB.out, by rw [HADR.out]; rfl⟩⟩
        · have h58b := (pl.no58 x h58).1
          have h37b : ((x.toNat : Int) == 37) = false := by
            rw [beq_eq_false_iff_ne]; intro e; exact hx37 (UInt8.toNat_inj.1 (by show x.toNat = 37; omega))
          have HC2 : Hid (∀ y ∈ s.data.toList.take (k + 1), pl.isB 58 y = false) := Lib.hid (fun y hy => by
            rw [pl.take_succ s k hlt, hx] at hy
            rcases List.mem_append.1 hy with hy | hy
            · exact HC.out y hy
            · rw [List.mem_singleton.1 hy]; exact h58b)
          have HD2 : Hid (∀ y ∈ s.data.toList.take (k + 1), pl.isB 46 y = false) := Lib.hid (fun y hy => by
            rw [pl.take_succ s k hlt, hx] at hy
            rcases List.mem_append.1 hy with hy | hy
            · exact HD.out y hy
            · rw [List.mem_singleton.1 hy]; exact h46b)
          go_wp2_with fail
          go_roundw
          case rel => exact ⟨k + 1, by go_num, by omega, HC2, HD2, by first | rfl | trivial⟩
          case measure => simp [intOf]; omega
    · have hno : F = none := by
        have e : s.data.toList.take k = s.data.toList := List.take_of_length_le (by simp; omega)
        rw [e] at HC HD
        exact HPP.out HC.out HD.out
      have HNO := Lib.hid hno
      clear hno
      go_wp2_with fail
      refine bodyPost_ret (results_cell_tmp_row rfl _ _ g _ _ _ _ rfl rfl HST.out.1 Tryd.underlying119 rfl (by kernel_rfl)) rfl ?_
      exact ⟨hg ▸ HST.out.2.1 g w HB1.out (Nat.le_refl _), .inl ⟨HNO.out, _, _, rfl⟩⟩

end Go.Proofs.YtfkohahlpfejbaaDoor

/- Fr: WORDS FOR MEMORY: what an append of bytes leaves: all blocks that are no rows of bytes. -/
namespace Go.Proofs.YtfkohahlpfejbaaDoor
open Go.RowKit

structure Fr (B : Nat) (w w' : World) : Prop where
  bel : Below B w w'
  oth : ∀ (k : Nat) (arr : Array Value) (ty : TypeId), ty ≠ 5 → Blk w k arr ty → Blk w' k arr ty

theorem Fr.refl (B : Nat) (w : World) : Fr B w w := ⟨Below.refl _ _, fun _ _ _ _ h => h⟩
theorem Fr.trans {B : Nat} {a b c : World} (h : Fr B a b) (k : Fr B b c) : Fr B a c := ⟨h.bel.trans k.bel, fun i arr ty ht hb => k.oth i arr ty ht (h.oth i arr ty ht hb)⟩
theorem Fr.mono {B C : Nat} {a b : World} (h : Fr C a b) (hB : B ≤ C) : Fr B a b := ⟨h.bel.mono hB, h.oth⟩
/-- a call that leaves all that was there -/
theorem Fr.of {B : Nat} {w w' : World} (h : Below w.heap.size w w') (hB : B ≤ w.heap.size) : Fr B w w' := ⟨h.mono hB, fun _ _ _ _ hb => hb.below h hb.lt⟩
theorem Fr.alloc {B : Nat} {w w' : World} (h : Fr B w w') (o : Obj) (hB : B ≤ w'.heap.size) : Fr B w (w'.alloc o) := h.trans (Fr.of ((Below.refl _ _).alloc (Nat.le_refl _) o) hB)
theorem Fr.drew {B : Nat} {w w' : World} (h : Fr B w w') : Fr B w w'.drew := h.trans ⟨below_drewN (Below.refl _ _) 1, fun _ _ _ _ h => h⟩

/-- the block of an owned row bears bytes -/
theorem Byts.block {w : World} {B : Nat} {v : Value} {l : List UInt8} (h : Byts w B v l) (k : Nat) (hk : v.ownBlock = some k) : ∃ cur, w.heap[k]? = some (.cells cur 5 (0, 0)) := by
  rcases h.2 with ⟨rfl, _⟩ | ⟨g, cap, cur, rfl, hg, hh, _⟩
  · cases hk
  · injection hk with hk
    subst hk
    exact ⟨cur, hh⟩
theorem Fr.grown {B : Nat} {w wr w' : World} {v : Value} {l : List UInt8} (h : Fr B w wr) (hown : Byts wr B v l) (hg : wr.grownBy w' v.ownBlock) (hB : B ≤ wr.heap.size) : Fr B w w' := by
  refine ⟨h.bel.grown hg hB (fun k hk => ((World.ownsRow.lt hown) k hk).1), fun k arr ty ht hb => ?_⟩
  have h1 := h.oth k arr ty ht hb
  refine h1.keep (hg.block k h1.lt (fun e => ?_))
  obtain ⟨cur, hc⟩ := hown.block k e.symm
  unfold Blk at h1
  rw [h1] at hc
  injection hc with hc
  injection hc with _ hc
  exact ht hc

/-- 'out = append(out, b)' of one byte. -/
theorem app_byte_fr {ops : Array Oper} {rest : List Oper} {o : Oper} {a : Act} {Q : Exit → Act → World → Prop} {w wr : World} {v : Value} {l : List UInt8} {x : Value} (b : UInt8) (t : TypeId) (hu : Tryd.prog.underlying t = some (.slice 5))
    (hgd : o.guard = none) (s y : Operand) (ho : o.op = .call { callee := .builtin .append, args := #[s, y], argTypes := #[t, t] })
    (hs : a.eval s = v) (B : Nat) (hown : Byts wr B v l) (hy : a.eval y = .slice (some ⟨wr.heap.size, 0, none⟩) 1 1) (hp : x = pl.byteV b) (hlen : l.length < 70368744177664) (hb : Fr B w wr) (hB : B ≤ w.heap.size)
    (h : ∀ v' w', Byts w' B v' (l ++ [b]) → Fr B w w' → wpList Tryd.prog ops Q rest (a.put o.dst v') w') : wpList Tryd.prog ops Q (o :: rest) a (wr.alloc (.cells #[x] 5)) := by
  obtain ⟨i0, hi, hz0, hz1, hz2⟩ := info_parts infoByte
  have hsz := hb.bel.size
  have hown2 : Byts (wr.alloc (.cells #[x] 5)) B v l := World.ownsRow.alloc hown _
  refine wpList_append_own _ hgd s y t ho B 5 i0 (.int .u8 0) 1 1 hu hi hz0 hz1 hz2 rfl (by decide) v l.length (l.map pl.byteV) hs (World.ownsRow.alloc hown _) ⟨wr.heap.size, 0, none⟩ 1 1 [x] hy rfl (cell_one_new _ _ _) ?_ ?_ ?_ ?_ ?_
  · intro u hu
    rw [List.mem_singleton] at hu
    subst hu
    rw [hp]
    rfl
  · unfold maxLen; omega
  · omega
  · simp; omega
  · intro v' w' h1 h2 _
    refine h v' w' ?_ ?_
    · subst hp
      unfold Byts
      rw [List.length_append, List.map_append]
      exact h1
    · exact (hb.alloc _ (by omega)).grown hown2 h2 (by simp; omega)

/-- 'out = append(out, a, b)' of two bytes. -/
theorem app_two_fr {ops : Array Oper} {rest : List Oper} {o : Oper} {a : Act} {Q : Exit → Act → World → Prop} {w wr : World} {v : Value} {l : List UInt8} {x y : Value} (b c : UInt8) (t : TypeId) (hu : Tryd.prog.underlying t = some (.slice 5))
    (hgd : o.guard = none) (s y' : Operand) (ho : o.op = .call { callee := .builtin .append, args := #[s, y'], argTypes := #[t, t] })
    (hs : a.eval s = v) (B : Nat) (hown : Byts wr B v l) (hy : a.eval y' = .slice (some ⟨wr.heap.size, 0, none⟩) 2 2) (hp : x = pl.byteV b) (hq : y = pl.byteV c) (hlen : l.length < 70368744177664) (hb : Fr B w wr) (hB : B ≤ w.heap.size)
    (h : ∀ v' w', Byts w' B v' (l ++ [b, c]) → Fr B w w' → wpList Tryd.prog ops Q rest (a.put o.dst v') w') : wpList Tryd.prog ops Q (o :: rest) a (wr.alloc (.cells #[x, y] 5)) := by
  obtain ⟨i0, hi, hz0, hz1, hz2⟩ := info_parts infoByte
  have hsz := hb.bel.size
  have hown2 : Byts (wr.alloc (.cells #[x, y] 5)) B v l := World.ownsRow.alloc hown _
  refine wpList_append_own _ hgd s y' t ho B 5 i0 (.int .u8 0) 1 1 hu hi hz0 hz1 hz2 rfl (by decide) v l.length (l.map pl.byteV) hs (World.ownsRow.alloc hown _) ⟨wr.heap.size, 0, none⟩ 2 2 [x, y] hy rfl ?_ ?_ ?_ ?_ ?_ ?_
  · intro j u hj
    have hn : (wr.alloc (.cells #[x, y] 5)).heap[wr.heap.size]? = some (.cells #[x, y] 5 (0, 0)) := heap_alloc_new _ _
    rw [Addr.add_lit]
    show (wr.alloc (.cells #[x, y] 5)).cell? ⟨wr.heap.size, 0 + j, none⟩ = some u
    rw [Nat.zero_add, cell_of_row _ _ _ _ _ _ hn]
    simpa using hj
  · intro u hu
    rw [List.mem_cons, List.mem_singleton] at hu
    rcases hu with rfl | rfl
    · rw [hp]; rfl
    · rw [hq]; rfl
  · unfold maxLen; omega
  · omega
  · simp; omega
  · intro v' w' h1 h2 _
    refine h v' w' ?_ ?_
    · subst hp hq
      unfold Byts
      rw [List.length_append, List.map_append]
      exact h1
    · exact (hb.alloc _ (by omega)).grown hown2 h2 (by simp; omega)

/-- 'out = append(out, "..."...)'. -/
theorem app_str_fr {ops : Array Oper} {rest : List Oper} {o : Oper} {a : Act} {Q : Exit → Act → World → Prop} {w wr : World} {v : Value} {l : List UInt8} (S : ByteArray) (t u : TypeId) (ht : Tryd.prog.underlying t = some (.slice 5)) (hu : Tryd.prog.underlying u = some .string)
    (hgd : o.guard = none) (s y : Operand) (ho : o.op = .call { callee := .builtin .append, args := #[s, y], argTypes := #[t, u] })
    (hs : a.eval s = v) (B : Nat) (hown : Byts wr B v l) (hy : a.eval y = .string S) (hlen : l.length + S.size < 70368744177664) (hb : Fr B w wr) (hB : B ≤ w.heap.size)
    (h : ∀ v' w', Byts w' B v' (l ++ S.data.toList) → Fr B w w' → wpList Tryd.prog ops Q rest (a.put o.dst v') w') : wpList Tryd.prog ops Q (o :: rest) a wr := by
  obtain ⟨i0, hi, hz0, hz1, hz2⟩ := info_parts infoByte
  have hsz := hb.bel.size
  refine Lib.wpList_append_own_string _ hgd s y t u ho B 5 i0 ht hu hi hz0 hz1 hz2 v l.length (l.map pl.byteV) hs hown S hy (by unfold maxLen; omega) (by omega) (by omega) ?_
  intro v' w' h1 h2 _
  refine h v' w' ?_ (hb.grown hown h2 (by omega))
  unfold Byts
  have hl : S.data.toList.length = S.size := by simp
  rw [List.length_append, List.map_append, hl]
  exact h1

end Go.Proofs.YtfkohahlpfejbaaDoor

/- DecHex: WALKS: net/netip: appendDecimal, appendHex. -/
namespace Go.Proofs.YtfkohahlpfejbaaDoor
open Go.RowKit

theorem pl.num10_1 (n : Nat) (h : n < 10) : pl.num 10 n = [pl.hx (n % 10)] := by
  rw [pl.num_step 10 n (by decide) (by omega), if_pos (by omega)]; rfl
theorem pl.num10_2 (n : Nat) (h : n < 100) (h1 : 10 ≤ n) : pl.num 10 n = [pl.hx (n / 10 % 10), pl.hx (n % 10)] := by
  rw [pl.num_step 10 n (by decide) (by omega), if_neg (by omega), pl.num10_1 (n / 10) (by omega)]; rfl
theorem pl.num10_3 (n : Nat) (h : n < 1000) (h1 : 100 ≤ n) : pl.num 10 n = [pl.hx (n / 100), pl.hx (n / 10 % 10), pl.hx (n % 10)] := by
  rw [pl.num_step 10 n (by decide) (by omega), if_neg (by omega), pl.num10_2 (n / 10) (by omega) (by omega), show n / 10 / 10 % 10 = n / 100 by omega]; rfl
theorem pl.num16_1 (n : Nat) (h : n < 16) : pl.num 16 n = [pl.hx (n % 16)] := by
  rw [pl.num_step 16 n (by decide) (by omega), if_pos (by omega)]; rfl
theorem pl.num16_2 (n : Nat) (h : n < 256) (h1 : 16 ≤ n) : pl.num 16 n = [pl.hx (n / 16 % 16), pl.hx (n % 16)] := by
  rw [pl.num_step 16 n (by decide) (by omega), if_neg (by omega), pl.num16_1 (n / 16) (by omega)]; rfl
theorem pl.num16_3 (n : Nat) (h : n < 4096) (h1 : 256 ≤ n) : pl.num 16 n = [pl.hx (n / 256 % 16), pl.hx (n / 16 % 16), pl.hx (n % 16)] := by
  rw [pl.num_step 16 n (by decide) (by omega), if_neg (by omega), pl.num16_2 (n / 16) (by omega) (by omega), show n / 16 / 16 % 16 = n / 256 % 16 by omega]; rfl
theorem pl.num16_4 (n : Nat) (h : n < 65536) (h1 : 4096 ≤ n) : pl.num 16 n = [pl.hx (n / 4096), pl.hx (n / 256 % 16), pl.hx (n / 16 % 16), pl.hx (n % 16)] := by
  rw [pl.num_step 16 n (by decide) (by omega), if_neg (by omega), pl.num16_3 (n / 16) (by omega) (by omega), show n / 16 / 256 % 16 = n / 4096 by omega, show n / 16 / 16 % 16 = n / 256 % 16 by omega]; rfl
theorem hxv_fr (n : Nat) (h : n < pl.hexd.size) : Value.int .u8 ((pl.hexd[n]'h).toNat : Int) = pl.byteV (pl.hx n) := by
  rw [pl.hx_at]; rfl

set_option maxRecDepth 100000 in
set_option maxHeartbeats 4000000 in
theorem apd_sp (v : Value) (l : List UInt8) (b : UInt8) (w : World) (B : Nat) (hv : Byts w B v l) (hB : B ≤ w.heap.size) (hl : l.length ≤ 1000) :
    Calls Tryd.prog 112 #[v, .int .u8 (b.toNat : Int)] w fun e w' => ∃ v', e = .returned v' ∧ Byts w' B v' (l ++ pl.num 10 b.toNat) ∧ Fr B w w' := by
  have hb256 := b.toNat_lt
  obtain ⟨n, hn⟩ : ∃ n, b.toNat = n := ⟨_, rfl⟩
  rw [hn] at hb256 ⊢
  clear hn
  have hf := Fr.refl B w
  by_cases h100 : 100 ≤ n
  · rw [pl.num10_3 n (by omega) h100]
    go_enter Tryd.func112, Tryd.ntmps112
    go_wp2_with (at_builtin; (refine app_byte_fr (w := w) (pl.hx (n / 100)) 26 Tryd.underlying26 rfl _ _ rfl rfl B hv rfl (hxv_fr _ _) (by omega) hf hB ?_))
    intro v1 w1 hv1 hf1
    go_wp2_with (at_builtin; (refine app_byte_fr (w := w) (pl.hx (n / 10 % 10)) 26 Tryd.underlying26 rfl _ _ rfl rfl B hv1 rfl (hxv_fr _ _) (by simp; omega) hf1 hB ?_))
    intro v2 w2 hv2 hf2
    go_wp2_with (at_builtin; (refine app_byte_fr (w := w) (pl.hx (n % 10)) 26 Tryd.underlying26 rfl _ _ rfl rfl B hv2 rfl (hxv_fr _ _) (by simp; omega) hf2 hB ?_))
    intro v3 w3 hv3 hf3
    go_wp2_with fail
    go_ret
    exact ⟨_, rfl, by simpa using hv3, hf3⟩
  · by_cases h10 : 10 ≤ n
    · rw [pl.num10_2 n (by omega) h10]
      go_enter Tryd.func112, Tryd.ntmps112
      go_wp2_with (at_builtin; (refine app_byte_fr (w := w) (pl.hx (n / 10 % 10)) 26 Tryd.underlying26 rfl _ _ rfl rfl B hv rfl (hxv_fr _ _) (by omega) hf hB ?_))
      intro v1 w1 hv1 hf1
      go_wp2_with (at_builtin; (refine app_byte_fr (w := w) (pl.hx (n % 10)) 26 Tryd.underlying26 rfl _ _ rfl rfl B hv1 rfl (hxv_fr _ _) (by simp; omega) hf1 hB ?_))
      intro v2 w2 hv2 hf2
      go_wp2_with fail
      go_ret
      exact ⟨_, rfl, by simpa using hv2, hf2⟩
    · rw [pl.num10_1 n (by omega)]
      go_enter Tryd.func112, Tryd.ntmps112
      go_wp2_with (at_builtin; (refine app_byte_fr (w := w) (pl.hx (n % 10)) 26 Tryd.underlying26 rfl _ _ rfl rfl B hv rfl (hxv_fr _ _) (by omega) hf hB ?_))
      intro v1 w1 hv1 hf1
      go_wp2_with fail
      go_ret
      exact ⟨_, rfl, by simpa using hv1, hf1⟩

theorem u16_and15 (x : Int) (h₀ : 0 ≤ x) (h₁ : x < 65536) : bits .and .u16 x 15 = x % 16 := bits_mask .u16 16 (by decide) wraps_u16 4 (by decide) x h₀ h₁

set_option maxRecDepth 100000 in
set_option maxHeartbeats 4000000 in
theorem aph_sp (v : Value) (l : List UInt8) (n : Nat) (hn : n < 65536) (w : World) (B : Nat) (hv : Byts w B v l) (hB : B ≤ w.heap.size) (hl : l.length ≤ 1000) :
    Calls Tryd.prog 117 #[v, .int .u16 (n : Int)] w fun e w' => ∃ v', e = .returned v' ∧ Byts w' B v' (l ++ pl.num 16 n) ∧ Fr B w w' := by
  have hf := Fr.refl B w
  have a1 : bits .and .u16 ((n : Int) / 256) 15 = ((n / 256 % 16 : Nat) : Int) := by rw [u16_and15 _ (by omega) (by omega)]; omega
  have a2 : bits .and .u16 ((n : Int) / 16) 15 = ((n / 16 % 16 : Nat) : Int) := by rw [u16_and15 _ (by omega) (by omega)]; omega
  have a3 : bits .and .u16 (n : Int) 15 = ((n % 16 : Nat) : Int) := by rw [u16_and15 _ (by omega) (by omega)]; omega
  by_cases h3 : 4096 ≤ n
  · rw [pl.num16_4 n hn h3]
    go_enter Tryd.func117, Tryd.ntmps117
    go_wp2_with (at_builtin; (refine app_byte_fr (w := w) (pl.hx (n / 4096)) 26 Tryd.underlying26 rfl _ _ rfl rfl B hv rfl (hxv_fr _ _) (by omega) hf hB ?_))
    intro v1 w1 hv1 hf1
    go_wp2_with (at_builtin; (refine app_byte_fr (w := w) (pl.hx (n / 256 % 16)) 26 Tryd.underlying26 rfl _ _ rfl rfl B hv1 rfl (hxv_fr _ _) (by simp; omega) hf1 hB ?_))
    intro v2 w2 hv2 hf2
    go_wp2_with (at_builtin; (refine app_byte_fr (w := w) (pl.hx (n / 16 % 16)) 26 Tryd.underlying26 rfl _ _ rfl rfl B hv2 rfl (hxv_fr _ _) (by simp; omega) hf2 hB ?_))
    intro v3 w3 hv3 hf3
    go_wp2_with (at_builtin; (refine app_byte_fr (w := w) (pl.hx (n % 16)) 26 Tryd.underlying26 rfl _ _ rfl rfl B hv3 rfl (hxv_fr _ _) (by simp; omega) hf3 hB ?_))
    intro v4 w4 hv4 hf4
    go_wp2_with fail
    go_ret
    exact ⟨_, rfl, by simpa using hv4, hf4⟩
  · by_cases h2 : 256 ≤ n
    · rw [pl.num16_3 n (by omega) h2]
      go_enter Tryd.func117, Tryd.ntmps117
      go_wp2_with (at_builtin; (refine app_byte_fr (w := w) (pl.hx (n / 256 % 16)) 26 Tryd.underlying26 rfl _ _ rfl rfl B hv rfl (hxv_fr _ _) (by omega) hf hB ?_))
      intro v1 w1 hv1 hf1
      go_wp2_with (at_builtin; (refine app_byte_fr (w := w) (pl.hx (n / 16 % 16)) 26 Tryd.underlying26 rfl _ _ rfl rfl B hv1 rfl (hxv_fr _ _) (by simp; omega) hf1 hB ?_))
      intro v2 w2 hv2 hf2
      go_wp2_with (at_builtin; (refine app_byte_fr (w := w) (pl.hx (n % 16)) 26 Tryd.underlying26 rfl _ _ rfl rfl B hv2 rfl (hxv_fr _ _) (by simp; omega) hf2 hB ?_))
      intro v3 w3 hv3 hf3
      go_wp2_with fail
      go_ret
      exact ⟨_, rfl, by simpa using hv3, hf3⟩
    · by_cases h1 : 16 ≤ n
      · rw [pl.num16_2 n (by omega) h1]
        go_enter Tryd.func117, Tryd.ntmps117
        go_wp2_with (at_builtin; (refine app_byte_fr (w := w) (pl.hx (n / 16 % 16)) 26 Tryd.underlying26 rfl _ _ rfl rfl B hv rfl (hxv_fr _ _) (by omega) hf hB ?_))
        intro v1 w1 hv1 hf1
        go_wp2_with (at_builtin; (refine app_byte_fr (w := w) (pl.hx (n % 16)) 26 Tryd.underlying26 rfl _ _ rfl rfl B hv1 rfl (hxv_fr _ _) (by simp; omega) hf1 hB ?_))
        intro v2 w2 hv2 hf2
        go_wp2_with fail
        go_ret
        exact ⟨_, rfl, by simpa using hv2, hf2⟩
      · rw [pl.num16_1 n (by omega)]
        go_enter Tryd.func117, Tryd.ntmps117
        go_wp2_with (at_builtin; (refine app_byte_fr (w := w) (pl.hx (n % 16)) 26 Tryd.underlying26 rfl _ _ rfl rfl B hv rfl (hxv_fr _ _) (by omega) hf hB ?_))
        intro v1 w1 hv1 hf1
        go_wp2_with fail
        go_ret
        exact ⟨_, rfl, by simpa using hv1, hf1⟩

end Go.Proofs.YtfkohahlpfejbaaDoor

/- Str4: WALKS: net/netip: the text of an address of IPv4. -/
namespace Go.Proofs.YtfkohahlpfejbaaDoor
open Go.RowKit

theorem pl.be4 (x y z u : UInt8) : pl.be [x, y, z, u] = x.toNat * 16777216 + y.toNat * 65536 + z.toNat * 256 + u.toNat := by
  simp only [pl.be, List.foldl_cons, List.foldl_nil]; omega

set_option maxRecDepth 100000 in
set_option maxHeartbeats 4000000 in
theorem v40_sp (hi lo g o : Nat) (x y z u : UInt8) (hlo : lo = 281470681743360 + pl.be [x, y, z, u]) (w : World) :
    Calls Tryd.prog 113 #[.agg #[.int .u64 (hi : Int), .int .u64 (lo : Int), .pointer (some ⟨g, o, none⟩)], .int .u8 0] w fun e w' => e = .returned (.int .u8 (x.toNat : Int)) ∧ Below w.heap.size w w' := by
  have hx := x.toNat_lt
  have hy := y.toNat_lt
  have hz := z.toNat_lt
  have hu := u.toNat_lt
  rw [pl.be4] at hlo
  have hq : (lo : Int) / 16777216 % 256 = (x.toNat : Int) := by omega
  have hl0 : lo < 281474976710656 := by omega
  clear hlo hx hy hz hu
  go_enter Tryd.func113, Tryd.ntmps113
  go_wp2_with fail
  go_ret
  exact ⟨by rw [← hq]; rfl, (Below.refl _ _).alloc (Nat.le_refl _) _⟩

set_option maxRecDepth 100000 in
set_option maxHeartbeats 4000000 in
theorem v41_sp (hi lo g o : Nat) (x y z u : UInt8) (hlo : lo = 281470681743360 + pl.be [x, y, z, u]) (w : World) :
    Calls Tryd.prog 113 #[.agg #[.int .u64 (hi : Int), .int .u64 (lo : Int), .pointer (some ⟨g, o, none⟩)], .int .u8 1] w fun e w' => e = .returned (.int .u8 (y.toNat : Int)) ∧ Below w.heap.size w w' := by
  have hx := x.toNat_lt
  have hy := y.toNat_lt
  have hz := z.toNat_lt
  have hu := u.toNat_lt
  rw [pl.be4] at hlo
  have hq : (lo : Int) / 65536 % 256 = (y.toNat : Int) := by omega
  have hl0 : lo < 281474976710656 := by omega
  clear hlo hx hy hz hu
  go_enter Tryd.func113, Tryd.ntmps113
  go_wp2_with fail
  go_ret
  exact ⟨by rw [← hq]; rfl, (Below.refl _ _).alloc (Nat.le_refl _) _⟩

set_option maxRecDepth 100000 in
set_option maxHeartbeats 4000000 in
theorem v42_sp (hi lo g o : Nat) (x y z u : UInt8) (hlo : lo = 281470681743360 + pl.be [x, y, z, u]) (w : World) :
    Calls Tryd.prog 113 #[.agg #[.int .u64 (hi : Int), .int .u64 (lo : Int), .pointer (some ⟨g, o, none⟩)], .int .u8 2] w fun e w' => e = .returned (.int .u8 (z.toNat : Int)) ∧ Below w.heap.size w w' := by
  have hx := x.toNat_lt
  have hy := y.toNat_lt
  have hz := z.toNat_lt
  have hu := u.toNat_lt
  rw [pl.be4] at hlo
  have hq : (lo : Int) / 256 % 256 = (z.toNat : Int) := by omega
  have hl0 : lo < 281474976710656 := by omega
  clear hlo hx hy hz hu
  go_enter Tryd.func113, Tryd.ntmps113
  go_wp2_with fail
  go_ret
  exact ⟨by rw [← hq]; rfl, (Below.refl _ _).alloc (Nat.le_refl _) _⟩

set_option maxRecDepth 100000 in
set_option maxHeartbeats 4000000 in
theorem v43_sp (hi lo g o : Nat) (x y z u : UInt8) (hlo : lo = 281470681743360 + pl.be [x, y, z, u]) (w : World) :
    Calls Tryd.prog 113 #[.agg #[.int .u64 (hi : Int), .int .u64 (lo : Int), .pointer (some ⟨g, o, none⟩)], .int .u8 3] w fun e w' => e = .returned (.int .u8 (u.toNat : Int)) ∧ Below w.heap.size w w' := by
  have hx := x.toNat_lt
  have hy := y.toNat_lt
  have hz := z.toNat_lt
  have hu := u.toNat_lt
  rw [pl.be4] at hlo
  have hq : (lo : Int) % 256 = (u.toNat : Int) := by omega
  have hl0 : lo < 281474976710656 := by omega
  clear hlo hx hy hz hu
  go_enter Tryd.func113, Tryd.ntmps113
  go_wp2_with fail
  go_ret
  exact ⟨by rw [← hq]; rfl, (Below.refl _ _).alloc (Nat.le_refl _) _⟩

theorem Fr.alloc0 {B : Nat} {w : World} (o : Obj) (hB : B ≤ w.heap.size) : Fr B w (w.alloc o) := (Fr.refl B w).alloc o hB

set_option maxRecDepth 100000 in
set_option maxHeartbeats 4000000 in
theorem ap4_sp (hi lo g o : Nat) (x y z u : UInt8) (hlo : lo = 281470681743360 + pl.be [x, y, z, u]) (v : Value) (l : List UInt8) (w : World) (B : Nat) (hv : Byts w B v l) (hB : B ≤ w.heap.size) (hl : l.length ≤ 100) :
    Calls Tryd.prog 101 #[.agg #[.int .u64 (hi : Int), .int .u64 (lo : Int), .pointer (some ⟨g, o, none⟩)], v] w fun e w' => ∃ v', e = .returned v' ∧ Byts w' B v' (l ++ pl.dots [x, y, z, u]) ∧ Fr B w w' := by
  have k0 := v40_sp hi lo g o x y z u hlo
  have k1 := v41_sp hi lo g o x y z u hlo
  have k2 := v42_sp hi lo g o x y z u hlo
  have k3 := v43_sp hi lo g o x y z u hlo
  have K0 := Lib.hid k0
  have K1 := Lib.hid k1
  have K2 := Lib.hid k2
  have K3 := Lib.hid k3
  clear k0 k1 k2 k3 hlo
  have n0 := (pl.oct_num x).2.2.2
  have n1 := (pl.oct_num y).2.2.2
  have n2 := (pl.oct_num z).2.2.2
  have hd : pl.dots [x, y, z, u] = pl.num 10 x.toNat ++ 46 :: (pl.num 10 y.toNat ++ 46 :: (pl.num 10 z.toNat ++ 46 :: pl.num 10 u.toNat)) := rfl
  rw [hd]
  clear hd
  obtain ⟨a0, ha0⟩ : ∃ a, pl.num 10 x.toNat = a := ⟨_, rfl⟩
  obtain ⟨a1, ha1⟩ : ∃ a, pl.num 10 y.toNat = a := ⟨_, rfl⟩
  obtain ⟨a2, ha2⟩ : ∃ a, pl.num 10 z.toNat = a := ⟨_, rfl⟩
  obtain ⟨a3, ha3⟩ : ∃ a, pl.num 10 u.toNat = a := ⟨_, rfl⟩
  rw [ha0] at n0
  rw [ha1] at n1
  rw [ha2] at n2
  rw [ha0, ha1, ha2, ha3]
  have hp0 := fun v l w B => apd_sp v l x w B
  have hp1 := fun v l w B => apd_sp v l y w B
  have hp2 := fun v l w B => apd_sp v l z w B
  have hp3 := fun v l w B => apd_sp v l u w B
  rw [ha0] at hp0
  rw [ha1] at hp1
  rw [ha2] at hp2
  rw [ha3] at hp3
  have P0 := Lib.hid hp0
  have P1 := Lib.hid hp1
  have P2 := Lib.hid hp2
  have P3 := Lib.hid hp3
  clear hp0 hp1 hp2 hp3 ha0 ha1 ha2 ha3
  obtain ⟨gb, hgb⟩ : ∃ gb, w.heap.size = gb := ⟨_, rfl⟩
  obtain ⟨W1, hW1⟩ : ∃ W1, w.alloc (Obj.cells #[Value.int IntKind.u64 (hi : Int), Value.int IntKind.u64 (lo : Int), Value.pointer (some ⟨g, o, none⟩)] 119) = W1 := ⟨_, rfl⟩
  have hA : Blk W1 gb #[Value.int IntKind.u64 (hi : Int), Value.int IntKind.u64 (lo : Int), Value.pointer (some ⟨g, o, none⟩)] 119 := by
    rw [← hW1, ← hgb]; exact Blk.new w _ _
  have f0 : Fr B w W1 := by rw [← hW1]; exact Fr.alloc0 _ hB
  have v0 : Byts W1 B v l := by rw [← hW1]; exact World.ownsRow.alloc hv _
  have hB1 : B ≤ W1.heap.size := Nat.le_trans hB f0.bel.size
  have r0 : Fr B W1 W1 := Fr.refl _ _
  obtain ⟨c0, c1, c2, _⟩ := blk3 hA
  have HA := Lib.hid hA
  clear hA
  go_enter Tryd.func101, Tryd.ntmps101
  go_wp2_with (first
    | (go_at_call 112; refine (P3.out _ _ _ B va3 sa3 (by first | omega | (simp; omega))).mono ?_; rintro e wb3 ⟨vb3, rfl, hvb3, hfb3⟩; have fb3 := fa3.trans hfb3)
    | (go_at_call 113; have hx0 := fc2; clear hx0; refine (K3.out _).mono ?_; rintro e wa3 ⟨rfl, hba3⟩; have fa3 := fc2.trans (Fr.of hba3 (Nat.le_trans hB1 fc2.bel.size)); have va3 := hvc2.below hba3; have sa3 := Nat.le_trans hB1 fa3.bel.size)
    | (at_builtin; refine app_byte_fr (w := W1) 46 26 Tryd.underlying26 rfl _ _ rfl rfl B hvb2 rfl rfl (by first | omega | (simp; omega)) fb2 hB1 ?_; intro vc2 wc2 hvc2 fc2; obtain ⟨c0, c1, c2, _⟩ := blk3 (fc2.oth _ _ _ (by decide) HA.out))
    | (go_at_call 112; refine (P2.out _ _ _ B va2 sa2 (by first | omega | (simp; omega))).mono ?_; rintro e wb2 ⟨vb2, rfl, hvb2, hfb2⟩; have fb2 := fa2.trans hfb2)
    | (go_at_call 113; have hx0 := fc1; clear hx0; refine (K2.out _).mono ?_; rintro e wa2 ⟨rfl, hba2⟩; have fa2 := fc1.trans (Fr.of hba2 (Nat.le_trans hB1 fc1.bel.size)); have va2 := hvc1.below hba2; have sa2 := Nat.le_trans hB1 fa2.bel.size)
    | (at_builtin; refine app_byte_fr (w := W1) 46 26 Tryd.underlying26 rfl _ _ rfl rfl B hvb1 rfl rfl (by first | omega | (simp; omega)) fb1 hB1 ?_; intro vc1 wc1 hvc1 fc1; obtain ⟨c0, c1, c2, _⟩ := blk3 (fc1.oth _ _ _ (by decide) HA.out))
    | (go_at_call 112; refine (P1.out _ _ _ B va1 sa1 (by first | omega | (simp; omega))).mono ?_; rintro e wb1 ⟨vb1, rfl, hvb1, hfb1⟩; have fb1 := fa1.trans hfb1)
    | (go_at_call 113; have hx0 := fc0; clear hx0; refine (K1.out _).mono ?_; rintro e wa1 ⟨rfl, hba1⟩; have fa1 := fc0.trans (Fr.of hba1 (Nat.le_trans hB1 fc0.bel.size)); have va1 := hvc0.below hba1; have sa1 := Nat.le_trans hB1 fa1.bel.size)
    | (at_builtin; refine app_byte_fr (w := W1) 46 26 Tryd.underlying26 rfl _ _ rfl rfl B hvb0 rfl rfl (by first | omega | (simp; omega)) fb0 hB1 ?_; intro vc0 wc0 hvc0 fc0; obtain ⟨c0, c1, c2, _⟩ := blk3 (fc0.oth _ _ _ (by decide) HA.out))
    | (go_at_call 112; refine (P0.out _ _ _ B va0 sa0 (by first | omega | (simp; omega))).mono ?_; rintro e wb0 ⟨vb0, rfl, hvb0, hfb0⟩; have fb0 := fa0.trans hfb0)
    | (go_at_call 113; have hx0 := r0; clear hx0; refine (K0.out _).mono ?_; rintro e wa0 ⟨rfl, hba0⟩; have fa0 := r0.trans (Fr.of hba0 (Nat.le_trans hB1 r0.bel.size)); have va0 := v0.below hba0; have sa0 := Nat.le_trans hB1 fa0.bel.size))
  go_ret
  exact ⟨_, rfl, by simpa using hvb3, f0.trans fb3⟩

end Go.Proofs.YtfkohahlpfejbaaDoor

/- Str6: WALKS: net/netip: the groups of an address of IPv6. -/
namespace Go.Proofs.YtfkohahlpfejbaaDoor
open Go.RowKit

set_option maxRecDepth 100000 in
set_option maxHeartbeats 4000000 in
theorem halves_sp (gb : Nat) (w : World) :
    Calls Tryd.prog 120 #[.pointer (some ⟨gb, 0, none⟩)] w fun e w' => e = .returned (.agg #[.pointer (some ⟨gb, 0, none⟩), .pointer (some ⟨gb, 1, none⟩)]) ∧ Below w.heap.size w w' := by
  obtain ⟨W1, hW1⟩ : ∃ W1, w.alloc (Obj.cells #[Value.pointer none, Value.pointer none] 167) = W1 := ⟨_, rfl⟩
  have hA : Blk W1 w.heap.size #[Value.pointer none, Value.pointer none] 167 := by rw [← hW1]; exact Blk.new w _ _
  have hb : Below w.heap.size w W1 := by rw [← hW1]; exact (Below.refl _ _).alloc (Nat.le_refl _) _
  obtain ⟨g2, hg2⟩ : ∃ g2, w.heap.size = g2 := ⟨_, rfl⟩
  rw [hg2] at hA hb
  have c0 := hA.cell 0
  have c1 := hA.cell 1
  have f0 := hA.frozen 0
  have f1 := hA.frozen 1
  have HA := Lib.hid hA
  clear hA
  go_enter Tryd.func120, Tryd.ntmps120
  go_wp2_with fail
  go_region
  go_wp2_with fail
  have h2 := (HA.out.set 0 (.pointer (some ⟨gb, 0, none⟩))).set 1 (.pointer (some ⟨gb, 1, none⟩))
  refine bodyPost_ret (results_cell_row rfl _ _ g2 _ _ _ _ rfl (h2.drewN 1) Tryd.underlying167 rfl (by kernel_rfl)) rfl ?_
  exact ⟨rfl, by rw [hg2]; exact below_drewN ((hb.setCell (p := ⟨g2, 0, none⟩) (Nat.le_refl _) _).setCell (p := ⟨g2, 1, none⟩) (Nat.le_refl _) _) 1⟩

theorem index_two {P : Program} (w : World) (t e : TypeId) (x y : Value) (hu : P.underlying t = some (.array 2 e)) (hs : (sizeOf e).run P w = .ok 1 w) (ha : (isAgg e).run P w = .ok false w) :
    (Instr.index t (.agg #[x, y]) (.int .u8 0)).run P w = .ok x w ∧ (Instr.index t (.agg #[x, y]) (.int .u8 1)).run P w = .ok y w := by
  constructor
  · simp [Instr.index, asIntOf, run_underlying hu, part, hs, ha]
  · simp [Instr.index, asIntOf, run_underlying hu, part, hs, ha]
theorem halves_index (w : World) (x y : Value) : (Instr.index 167 (.agg #[x, y]) (.int .u8 0)).run Tryd.prog w = .ok x w ∧ (Instr.index 167 (.agg #[x, y]) (.int .u8 1)).run Tryd.prog w = .ok y w :=
  index_two w _ (Tryd.prog.elem 167) x y (by kernel_rfl) (by kernel_rfl) (by kernel_rfl)

set_option maxRecDepth 100000 in
set_option maxHeartbeats 4000000 in
theorem v6u0_sp (hi lo g o x : Nat) (hh : hi < 18446744073709551616) (hq : (hi : Int) / 281474976710656 % 65536 = (x : Int)) (w : World) :
    Calls Tryd.prog 116 #[.agg #[.int .u64 (hi : Int), .int .u64 (lo : Int), .pointer (some ⟨g, o, none⟩)], .int .u8 0] w fun e w' => e = .returned (.int .u16 (x : Int)) ∧ Below w.heap.size w w' := by
  obtain ⟨W1, hW1⟩ : ∃ W1, w.alloc (Obj.cells #[Value.int IntKind.u64 (hi : Int), Value.int IntKind.u64 (lo : Int), Value.pointer (some ⟨g, o, none⟩)] 119) = W1 := ⟨_, rfl⟩
  have hA : Blk W1 w.heap.size #[Value.int IntKind.u64 (hi : Int), Value.int IntKind.u64 (lo : Int), Value.pointer (some ⟨g, o, none⟩)] 119 := by rw [← hW1]; exact Blk.new w _ _
  have hb : Below w.heap.size w W1 := by rw [← hW1]; exact (Below.refl _ _).alloc (Nat.le_refl _) _
  obtain ⟨gb, hgb⟩ : ∃ gb, w.heap.size = gb := ⟨_, rfl⟩
  rw [hgb] at hA hb
  have hs := halves_sp gb W1
  have HS := Lib.hid hs
  have HA := Lib.hid hA
  have hbs : gb ≤ W1.heap.size := Nat.le_of_lt hA.lt
  have hix := fun W => (halves_index W (.pointer (some ⟨gb, 0, none⟩)) (.pointer (some ⟨gb, 1, none⟩))).1
  have hiy := fun W => (halves_index W (.pointer (some ⟨gb, 0, none⟩)) (.pointer (some ⟨gb, 1, none⟩))).2
  clear hs hA
  go_enter Tryd.func116, Tryd.ntmps116
  go_wp2_with (go_at_call 120; refine HS.out.mono ?_; rintro e w2 ⟨rfl, hb2⟩; obtain ⟨c0, c1, _⟩ := blk3 (HA.out.below hb2 HA.out.lt); have hb3 := hb.trans (hb2.mono hbs))
  go_ret
  have hq2 : (hi : Int) / 281474976710656 = (x : Int) := by omega
  exact ⟨by rw [← hq2]; rfl, hgb ▸ hb3⟩

set_option maxRecDepth 100000 in
set_option maxHeartbeats 4000000 in
theorem v6u1_sp (hi lo g o x : Nat) (hq : (hi : Int) / 4294967296 % 65536 = (x : Int)) (w : World) :
    Calls Tryd.prog 116 #[.agg #[.int .u64 (hi : Int), .int .u64 (lo : Int), .pointer (some ⟨g, o, none⟩)], .int .u8 1] w fun e w' => e = .returned (.int .u16 (x : Int)) ∧ Below w.heap.size w w' := by
  obtain ⟨W1, hW1⟩ : ∃ W1, w.alloc (Obj.cells #[Value.int IntKind.u64 (hi : Int), Value.int IntKind.u64 (lo : Int), Value.pointer (some ⟨g, o, none⟩)] 119) = W1 := ⟨_, rfl⟩
  have hA : Blk W1 w.heap.size #[Value.int IntKind.u64 (hi : Int), Value.int IntKind.u64 (lo : Int), Value.pointer (some ⟨g, o, none⟩)] 119 := by rw [← hW1]; exact Blk.new w _ _
  have hb : Below w.heap.size w W1 := by rw [← hW1]; exact (Below.refl _ _).alloc (Nat.le_refl _) _
  obtain ⟨gb, hgb⟩ : ∃ gb, w.heap.size = gb := ⟨_, rfl⟩
  rw [hgb] at hA hb
  have hs := halves_sp gb W1
  have HS := Lib.hid hs
  have HA := Lib.hid hA
  have hbs : gb ≤ W1.heap.size := Nat.le_of_lt hA.lt
  have hix := fun W => (halves_index W (.pointer (some ⟨gb, 0, none⟩)) (.pointer (some ⟨gb, 1, none⟩))).1
  have hiy := fun W => (halves_index W (.pointer (some ⟨gb, 0, none⟩)) (.pointer (some ⟨gb, 1, none⟩))).2
  clear hs hA
  go_enter Tryd.func116, Tryd.ntmps116
  go_wp2_with (go_at_call 120; refine HS.out.mono ?_; rintro e w2 ⟨rfl, hb2⟩; obtain ⟨c0, c1, _⟩ := blk3 (HA.out.below hb2 HA.out.lt); have hb3 := hb.trans (hb2.mono hbs))
  go_ret
  have hq2 := hq
  exact ⟨by rw [← hq2]; rfl, hgb ▸ hb3⟩

set_option maxRecDepth 100000 in
set_option maxHeartbeats 4000000 in
theorem v6u2_sp (hi lo g o x : Nat) (hq : (hi : Int) / 65536 % 65536 = (x : Int)) (w : World) :
    Calls Tryd.prog 116 #[.agg #[.int .u64 (hi : Int), .int .u64 (lo : Int), .pointer (some ⟨g, o, none⟩)], .int .u8 2] w fun e w' => e = .returned (.int .u16 (x : Int)) ∧ Below w.heap.size w w' := by
  obtain ⟨W1, hW1⟩ : ∃ W1, w.alloc (Obj.cells #[Value.int IntKind.u64 (hi : Int), Value.int IntKind.u64 (lo : Int), Value.pointer (some ⟨g, o, none⟩)] 119) = W1 := ⟨_, rfl⟩
  have hA : Blk W1 w.heap.size #[Value.int IntKind.u64 (hi : Int), Value.int IntKind.u64 (lo : Int), Value.pointer (some ⟨g, o, none⟩)] 119 := by rw [← hW1]; exact Blk.new w _ _
  have hb : Below w.heap.size w W1 := by rw [← hW1]; exact (Below.refl _ _).alloc (Nat.le_refl _) _
  obtain ⟨gb, hgb⟩ : ∃ gb, w.heap.size = gb := ⟨_, rfl⟩
  rw [hgb] at hA hb
  have hs := halves_sp gb W1
  have HS := Lib.hid hs
  have HA := Lib.hid hA
  have hbs : gb ≤ W1.heap.size := Nat.le_of_lt hA.lt
  have hix := fun W => (halves_index W (.pointer (some ⟨gb, 0, none⟩)) (.pointer (some ⟨gb, 1, none⟩))).1
  have hiy := fun W => (halves_index W (.pointer (some ⟨gb, 0, none⟩)) (.pointer (some ⟨gb, 1, none⟩))).2
  clear hs hA
  go_enter Tryd.func116, Tryd.ntmps116
  go_wp2_with (go_at_call 120; refine HS.out.mono ?_; rintro e w2 ⟨rfl, hb2⟩; obtain ⟨c0, c1, _⟩ := blk3 (HA.out.below hb2 HA.out.lt); have hb3 := hb.trans (hb2.mono hbs))
  go_ret
  have hq2 := hq
  exact ⟨by rw [← hq2]; rfl, hgb ▸ hb3⟩

set_option maxRecDepth 100000 in
set_option maxHeartbeats 4000000 in
theorem v6u3_sp (hi lo g o x : Nat) (hq : (hi : Int) % 65536 = (x : Int)) (w : World) :
    Calls Tryd.prog 116 #[.agg #[.int .u64 (hi : Int), .int .u64 (lo : Int), .pointer (some ⟨g, o, none⟩)], .int .u8 3] w fun e w' => e = .returned (.int .u16 (x : Int)) ∧ Below w.heap.size w w' := by
  obtain ⟨W1, hW1⟩ : ∃ W1, w.alloc (Obj.cells #[Value.int IntKind.u64 (hi : Int), Value.int IntKind.u64 (lo : Int), Value.pointer (some ⟨g, o, none⟩)] 119) = W1 := ⟨_, rfl⟩
  have hA : Blk W1 w.heap.size #[Value.int IntKind.u64 (hi : Int), Value.int IntKind.u64 (lo : Int), Value.pointer (some ⟨g, o, none⟩)] 119 := by rw [← hW1]; exact Blk.new w _ _
  have hb : Below w.heap.size w W1 := by rw [← hW1]; exact (Below.refl _ _).alloc (Nat.le_refl _) _
  obtain ⟨gb, hgb⟩ : ∃ gb, w.heap.size = gb := ⟨_, rfl⟩
  rw [hgb] at hA hb
  have hs := halves_sp gb W1
  have HS := Lib.hid hs
  have HA := Lib.hid hA
  have hbs : gb ≤ W1.heap.size := Nat.le_of_lt hA.lt
  have hix := fun W => (halves_index W (.pointer (some ⟨gb, 0, none⟩)) (.pointer (some ⟨gb, 1, none⟩))).1
  have hiy := fun W => (halves_index W (.pointer (some ⟨gb, 0, none⟩)) (.pointer (some ⟨gb, 1, none⟩))).2
  clear hs hA
  go_enter Tryd.func116, Tryd.ntmps116
  go_wp2_with (go_at_call 120; refine HS.out.mono ?_; rintro e w2 ⟨rfl, hb2⟩; obtain ⟨c0, c1, _⟩ := blk3 (HA.out.below hb2 HA.out.lt); have hb3 := hb.trans (hb2.mono hbs))
  go_ret
  have hq2 := hq
  exact ⟨by rw [← hq2]; rfl, hgb ▸ hb3⟩

set_option maxRecDepth 100000 in
set_option maxHeartbeats 4000000 in
theorem v6u4_sp (hi lo g o x : Nat) (hh : lo < 18446744073709551616) (hq : (lo : Int) / 281474976710656 % 65536 = (x : Int)) (w : World) :
    Calls Tryd.prog 116 #[.agg #[.int .u64 (hi : Int), .int .u64 (lo : Int), .pointer (some ⟨g, o, none⟩)], .int .u8 4] w fun e w' => e = .returned (.int .u16 (x : Int)) ∧ Below w.heap.size w w' := by
  obtain ⟨W1, hW1⟩ : ∃ W1, w.alloc (Obj.cells #[Value.int IntKind.u64 (hi : Int), Value.int IntKind.u64 (lo : Int), Value.pointer (some ⟨g, o, none⟩)] 119) = W1 := ⟨_, rfl⟩
  have hA : Blk W1 w.heap.size #[Value.int IntKind.u64 (hi : Int), Value.int IntKind.u64 (lo : Int), Value.pointer (some ⟨g, o, none⟩)] 119 := by rw [← hW1]; exact Blk.new w _ _
  have hb : Below w.heap.size w W1 := by rw [← hW1]; exact (Below.refl _ _).alloc (Nat.le_refl _) _
  obtain ⟨gb, hgb⟩ : ∃ gb, w.heap.size = gb := ⟨_, rfl⟩
  rw [hgb] at hA hb
  have hs := halves_sp gb W1
  have HS := Lib.hid hs
  have HA := Lib.hid hA
  have hbs : gb ≤ W1.heap.size := Nat.le_of_lt hA.lt
  have hix := fun W => (halves_index W (.pointer (some ⟨gb, 0, none⟩)) (.pointer (some ⟨gb, 1, none⟩))).1
  have hiy := fun W => (halves_index W (.pointer (some ⟨gb, 0, none⟩)) (.pointer (some ⟨gb, 1, none⟩))).2
  clear hs hA
  go_enter Tryd.func116, Tryd.ntmps116
  go_wp2_with (go_at_call 120; refine HS.out.mono ?_; rintro e w2 ⟨rfl, hb2⟩; obtain ⟨c0, c1, _⟩ := blk3 (HA.out.below hb2 HA.out.lt); have hb3 := hb.trans (hb2.mono hbs))
  go_ret
  have hq2 : (lo : Int) / 281474976710656 = (x : Int) := by omega
  exact ⟨by rw [← hq2]; rfl, hgb ▸ hb3⟩

set_option maxRecDepth 100000 in
set_option maxHeartbeats 4000000 in
theorem v6u5_sp (hi lo g o x : Nat) (hq : (lo : Int) / 4294967296 % 65536 = (x : Int)) (w : World) :
    Calls Tryd.prog 116 #[.agg #[.int .u64 (hi : Int), .int .u64 (lo : Int), .pointer (some ⟨g, o, none⟩)], .int .u8 5] w fun e w' => e = .returned (.int .u16 (x : Int)) ∧ Below w.heap.size w w' := by
  obtain ⟨W1, hW1⟩ : ∃ W1, w.alloc (Obj.cells #[Value.int IntKind.u64 (hi : Int), Value.int IntKind.u64 (lo : Int), Value.pointer (some ⟨g, o, none⟩)] 119) = W1 := ⟨_, rfl⟩
  have hA : Blk W1 w.heap.size #[Value.int IntKind.u64 (hi : Int), Value.int IntKind.u64 (lo : Int), Value.pointer (some ⟨g, o, none⟩)] 119 := by rw [← hW1]; exact Blk.new w _ _
  have hb : Below w.heap.size w W1 := by rw [← hW1]; exact (Below.refl _ _).alloc (Nat.le_refl _) _
  obtain ⟨gb, hgb⟩ : ∃ gb, w.heap.size = gb := ⟨_, rfl⟩
  rw [hgb] at hA hb
  have hs := halves_sp gb W1
  have HS := Lib.hid hs
  have HA := Lib.hid hA
  have hbs : gb ≤ W1.heap.size := Nat.le_of_lt hA.lt
  have hix := fun W => (halves_index W (.pointer (some ⟨gb, 0, none⟩)) (.pointer (some ⟨gb, 1, none⟩))).1
  have hiy := fun W => (halves_index W (.pointer (some ⟨gb, 0, none⟩)) (.pointer (some ⟨gb, 1, none⟩))).2
  clear hs hA
  go_enter Tryd.func116, Tryd.ntmps116
  go_wp2_with (go_at_call 120; refine HS.out.mono ?_; rintro e w2 ⟨rfl, hb2⟩; obtain ⟨c0, c1, _⟩ := blk3 (HA.out.below hb2 HA.out.lt); have hb3 := hb.trans (hb2.mono hbs))
  go_ret
  have hq2 := hq
  exact ⟨by rw [← hq2]; rfl, hgb ▸ hb3⟩

set_option maxRecDepth 100000 in
set_option maxHeartbeats 4000000 in
theorem v6u6_sp (hi lo g o x : Nat) (hq : (lo : Int) / 65536 % 65536 = (x : Int)) (w : World) :
    Calls Tryd.prog 116 #[.agg #[.int .u64 (hi : Int), .int .u64 (lo : Int), .pointer (some ⟨g, o, none⟩)], .int .u8 6] w fun e w' => e = .returned (.int .u16 (x : Int)) ∧ Below w.heap.size w w' := by
  obtain ⟨W1, hW1⟩ : ∃ W1, w.alloc (Obj.cells #[Value.int IntKind.u64 (hi : Int), Value.int IntKind.u64 (lo : Int), Value.pointer (some ⟨g, o, none⟩)] 119) = W1 := ⟨_, rfl⟩
  have hA : Blk W1 w.heap.size #[Value.int IntKind.u64 (hi : Int), Value.int IntKind.u64 (lo : Int), Value.pointer (some ⟨g, o, none⟩)] 119 := by rw [← hW1]; exact Blk.new w _ _
  have hb : Below w.heap.size w W1 := by rw [← hW1]; exact (Below.refl _ _).alloc (Nat.le_refl _) _
  obtain ⟨gb, hgb⟩ : ∃ gb, w.heap.size = gb := ⟨_, rfl⟩
  rw [hgb] at hA hb
  have hs := halves_sp gb W1
  have HS := Lib.hid hs
  have HA := Lib.hid hA
  have hbs : gb ≤ W1.heap.size := Nat.le_of_lt hA.lt
  have hix := fun W => (halves_index W (.pointer (some ⟨gb, 0, none⟩)) (.pointer (some ⟨gb, 1, none⟩))).1
  have hiy := fun W => (halves_index W (.pointer (some ⟨gb, 0, none⟩)) (.pointer (some ⟨gb, 1, none⟩))).2
  clear hs hA
  go_enter Tryd.func116, Tryd.ntmps116
  go_wp2_with (go_at_call 120; refine HS.out.mono ?_; rintro e w2 ⟨rfl, hb2⟩; obtain ⟨c0, c1, _⟩ := blk3 (HA.out.below hb2 HA.out.lt); have hb3 := hb.trans (hb2.mono hbs))
  go_ret
  have hq2 := hq
  exact ⟨by rw [← hq2]; rfl, hgb ▸ hb3⟩

set_option maxRecDepth 100000 in
set_option maxHeartbeats 4000000 in
theorem v6u7_sp (hi lo g o x : Nat) (hq : (lo : Int) % 65536 = (x : Int)) (w : World) :
    Calls Tryd.prog 116 #[.agg #[.int .u64 (hi : Int), .int .u64 (lo : Int), .pointer (some ⟨g, o, none⟩)], .int .u8 7] w fun e w' => e = .returned (.int .u16 (x : Int)) ∧ Below w.heap.size w w' := by
  obtain ⟨W1, hW1⟩ : ∃ W1, w.alloc (Obj.cells #[Value.int IntKind.u64 (hi : Int), Value.int IntKind.u64 (lo : Int), Value.pointer (some ⟨g, o, none⟩)] 119) = W1 := ⟨_, rfl⟩
  have hA : Blk W1 w.heap.size #[Value.int IntKind.u64 (hi : Int), Value.int IntKind.u64 (lo : Int), Value.pointer (some ⟨g, o, none⟩)] 119 := by rw [← hW1]; exact Blk.new w _ _
  have hb : Below w.heap.size w W1 := by rw [← hW1]; exact (Below.refl _ _).alloc (Nat.le_refl _) _
  obtain ⟨gb, hgb⟩ : ∃ gb, w.heap.size = gb := ⟨_, rfl⟩
  rw [hgb] at hA hb
  have hs := halves_sp gb W1
  have HS := Lib.hid hs
  have HA := Lib.hid hA
  have hbs : gb ≤ W1.heap.size := Nat.le_of_lt hA.lt
  have hix := fun W => (halves_index W (.pointer (some ⟨gb, 0, none⟩)) (.pointer (some ⟨gb, 1, none⟩))).1
  have hiy := fun W => (halves_index W (.pointer (some ⟨gb, 0, none⟩)) (.pointer (some ⟨gb, 1, none⟩))).2
  clear hs hA
  go_enter Tryd.func116, Tryd.ntmps116
  go_wp2_with (go_at_call 120; refine HS.out.mono ?_; rintro e w2 ⟨rfl, hb2⟩; obtain ⟨c0, c1, _⟩ := blk3 (HA.out.below hb2 HA.out.lt); have hb3 := hb.trans (hb2.mono hbs))
  go_ret
  have hq2 := hq
  exact ⟨by rw [← hq2]; rfl, hgb ▸ hb3⟩

end Go.Proofs.YtfkohahlpfejbaaDoor

/- Str7: WALKS: net/netip: Is4In6, Unmap, appendTo4In6; the groups by their number. -/
namespace Go.Proofs.YtfkohahlpfejbaaDoor
open Go.RowKit

theorem pl.be_hi (b : List UInt8) (h : b.length = 16) : ∃ g0 g1 g2 g3 g4 g5 g6 g7, pl.gs b = [g0, g1, g2, g3, g4, g5, g6, g7] ∧ g0 < 65536 ∧ g1 < 65536 ∧ g2 < 65536 ∧ g3 < 65536 ∧ g4 < 65536 ∧ g5 < 65536 ∧ g6 < 65536 ∧ g7 < 65536 ∧
    pl.be (b.take 8) = g0 * 281474976710656 + g1 * 4294967296 + g2 * 65536 + g3 ∧ pl.be (b.drop 8) = g4 * 281474976710656 + g5 * 4294967296 + g6 * 65536 + g7 := by
  obtain ⟨b0, b1, b2, b3, b4, b5, b6, b7, b8, b9, b10, b11, b12, b13, b14, b15, rfl⟩ := pl.list16 b h
  have k0 := b0.toNat_lt
  have k1 := b1.toNat_lt
  have k2 := b2.toNat_lt
  have k3 := b3.toNat_lt
  have k4 := b4.toNat_lt
  have k5 := b5.toNat_lt
  have k6 := b6.toNat_lt
  have k7 := b7.toNat_lt
  have k8 := b8.toNat_lt
  have k9 := b9.toNat_lt
  have k10 := b10.toNat_lt
  have k11 := b11.toNat_lt
  have k12 := b12.toNat_lt
  have k13 := b13.toNat_lt
  have k14 := b14.toNat_lt
  have k15 := b15.toNat_lt
  refine ⟨_, _, _, _, _, _, _, _, rfl, by omega, by omega, by omega, by omega, by omega, by omega, by omega, by omega, ?_, ?_⟩
  · simp only [pl.be, List.take_succ_cons, List.take_zero, List.foldl_cons, List.foldl_nil]; omega
  · simp only [pl.be, List.drop_succ_cons, List.drop_zero, List.foldl_cons, List.foldl_nil]; omega

theorem v6u_any (b : List UInt8) (hb : b.length = 16) (g o j x : Nat) (hx : (pl.gs b)[j]? = some x) (w : World) :
    Calls Tryd.prog 116 #[.agg #[.int .u64 (pl.be (b.take 8) : Nat), .int .u64 (pl.be (b.drop 8) : Nat), .pointer (some ⟨g, o, none⟩)], .int .u8 (j : Int)] w fun e w' => e = .returned (.int .u16 (x : Int)) ∧ Below w.heap.size w w' := by
  have hj : j < 8 := by have := (List.getElem?_eq_some_iff.1 hx).1; rw [pl.gs_len 8 b hb] at this; exact this
  obtain ⟨g0, g1, g2, g3, g4, g5, g6, g7, hg, k0, k1, k2, k3, k4, k5, k6, k7, hh, hl⟩ := pl.be_hi b hb
  obtain ⟨hi, hhi⟩ : ∃ hi, pl.be (b.take 8) = hi := ⟨_, rfl⟩
  obtain ⟨lo, hlo⟩ : ∃ lo, pl.be (b.drop 8) = lo := ⟨_, rfl⟩
  rw [hhi] at hh ⊢
  rw [hlo] at hl ⊢
  rw [hg] at hx
  match j, hj with
  | 0, _ => injection hx with hx; subst hx; exact v6u0_sp hi lo g o _ (by omega) (by omega) w
  | 1, _ => injection hx with hx; subst hx; exact v6u1_sp hi lo g o _ (by omega) w
  | 2, _ => injection hx with hx; subst hx; exact v6u2_sp hi lo g o _ (by omega) w
  | 3, _ => injection hx with hx; subst hx; exact v6u3_sp hi lo g o _ (by omega) w
  | 4, _ => injection hx with hx; subst hx; exact v6u4_sp hi lo g o _ (by omega) (by omega) w
  | 5, _ => injection hx with hx; subst hx; exact v6u5_sp hi lo g o _ (by omega) w
  | 6, _ => injection hx with hx; subst hx; exact v6u6_sp hi lo g o _ (by omega) w
  | 7, _ => injection hx with hx; subst hx; exact v6u7_sp hi lo g o _ (by omega) w

theorem pl.mapped_be (b : List UInt8) (hb : b.length = 16) (h : pl.mapped b = true) : ∃ x y z u, b.drop 12 = [x, y, z, u] ∧ pl.be (b.take 8) = 0 ∧ pl.be (b.drop 8) = 281470681743360 + pl.be [x, y, z, u] := by
  have h1 := pl.mapped_eq b h
  have hd : (b.drop 12).length = 4 := by rw [List.length_drop]; omega
  match hx : b.drop 12, hd with
  | [x, y, z, u], _ =>
    refine ⟨x, y, z, u, rfl, ?_, ?_⟩
    · rw [h1, hx]; rfl
    · rw [h1, hx, pl.be4]
      show pl.be [0, 0, 255, 255, x, y, z, u] = _
      simp only [pl.be, List.foldl_cons, List.foldl_nil]
      have e1 : (255 : UInt8).toNat = 255 := rfl
      have e2 : (0 : UInt8).toNat = 0 := rfl
      omega
theorem pl.mapped_no (b : List UInt8) (hb : b.length = 16) (h : pl.mapped b = false) : pl.be (b.take 8) ≠ 0 ∨ pl.be (b.drop 8) / 4294967296 ≠ 65535 := by
  obtain ⟨b0, b1, b2, b3, b4, b5, b6, b7, b8, b9, b10, b11, b12, b13, b14, b15, rfl⟩ := pl.list16 b hb
  by_cases hc : pl.be [b0, b1, b2, b3, b4, b5, b6, b7] = 0 ∧ pl.be [b8, b9, b10, b11, b12, b13, b14, b15] / 4294967296 = 65535
  · exfalso
    obtain ⟨h1, h2⟩ := hc
    simp only [pl.be, List.foldl_cons, List.foldl_nil] at h1 h2
    have k8 := b8.toNat_lt
    have k9 := b9.toNat_lt
    have k10 := b10.toNat_lt
    have k11 := b11.toNat_lt
    have k12 := b12.toNat_lt
    have k13 := b13.toNat_lt
    have k14 := b14.toNat_lt
    have k15 := b15.toNat_lt
    have z : ∀ x : UInt8, x.toNat = 0 → x = 0 := fun x hx => UInt8.toNat_inj.1 hx
    have f : ∀ x : UInt8, x.toNat = 255 → x = 255 := fun x hx => UInt8.toNat_inj.1 hx
    have e0 := z b0 (by omega)
    have e1 := z b1 (by omega)
    have e2 := z b2 (by omega)
    have e3 := z b3 (by omega)
    have e4 := z b4 (by omega)
    have e5 := z b5 (by omega)
    have e6 := z b6 (by omega)
    have e7 := z b7 (by omega)
    have e8 := z b8 (by omega)
    have e9 := z b9 (by omega)
    have e10 := f b10 (by omega)
    have e11 := f b11 (by omega)
    subst e0 e1 e2 e3 e4 e5 e6 e7 e8 e9 e10 e11
    revert h
    show ¬ (pl.pre12 == pl.pre12) = false
    decide
  · by_cases h1 : pl.be [b0, b1, b2, b3, b4, b5, b6, b7] = 0
    · exact .inr (fun h2 => hc ⟨h1, h2⟩)
    · exact .inl h1

set_option maxRecDepth 100000 in
set_option maxHeartbeats 4000000 in
theorem is46_zero (g4 o4 g6 o6 lo : Nat) (r : Bool) (hq : ((lo : Int) / 4294967296 == 65535) = r) (w : World) (hI : IpVars w g4 o4 g6 o6) :
    Calls Tryd.prog 102 #[.agg #[.int .u64 0, .int .u64 (lo : Int), .pointer (some ⟨g6, o6, none⟩)]] w fun e w' => e = .returned (.bool r) ∧ Below w.heap.size w w' := by
  obtain ⟨gb, hgb⟩ : ∃ gb, w.heap.size = gb := ⟨_, rfl⟩
  obtain ⟨W1, hW1⟩ : ∃ W1, w.alloc (Obj.cells #[Value.int IntKind.u64 0, Value.int IntKind.u64 (lo : Int), Value.pointer (some ⟨g6, o6, none⟩)] 119) = W1 := ⟨_, rfl⟩
  have hA : Blk W1 gb #[Value.int IntKind.u64 0, Value.int IntKind.u64 (lo : Int), Value.pointer (some ⟨g6, o6, none⟩)] 119 := by rw [← hW1, ← hgb]; exact Blk.new w _ _
  have hb : Below gb w W1 := by rw [← hW1, ← hgb]; exact (Below.refl _ _).alloc (Nat.le_refl _) _
  have hgl : gb ≤ W1.heap.size := Nat.le_of_lt hA.lt
  have his := is6_6 g4 o4 g6 o6 0 lo W1 (hI.below hb (by omega))
  have hip : ipV 0 lo g6 o6 = .agg #[.int .u64 0, .int .u64 (lo : Int), .pointer (some ⟨g6, o6, none⟩)] := rfl
  rw [hip] at his
  have HIS := Lib.hid his
  have HA := Lib.hid hA
  obtain ⟨c0, c1, c2, _⟩ := blk3 hA
  clear his hip hA hI
  go_enter Tryd.func102, Tryd.ntmps102
  go_wp2_with (go_at_call 114; refine HIS.out.mono ?_; rintro e w2 ⟨rfl, hb2⟩; obtain ⟨d0, d1, _⟩ := blk3 (HA.out.below hb2 HA.out.lt); have hb3 := hb.trans (hb2.mono hgl))
  go_ret
  exact ⟨rfl, hgb ▸ hb3⟩

set_option maxRecDepth 100000 in
set_option maxHeartbeats 4000000 in
theorem is46_hi (g4 o4 g6 o6 hi lo : Nat) (h0 : hi ≠ 0) (w : World) (hI : IpVars w g4 o4 g6 o6) :
    Calls Tryd.prog 102 #[.agg #[.int .u64 (hi : Int), .int .u64 (lo : Int), .pointer (some ⟨g6, o6, none⟩)]] w fun e w' => e = .returned (.bool false) ∧ Below w.heap.size w w' := by
  obtain ⟨gb, hgb⟩ : ∃ gb, w.heap.size = gb := ⟨_, rfl⟩
  obtain ⟨W1, hW1⟩ : ∃ W1, w.alloc (Obj.cells #[Value.int IntKind.u64 (hi : Int), Value.int IntKind.u64 (lo : Int), Value.pointer (some ⟨g6, o6, none⟩)] 119) = W1 := ⟨_, rfl⟩
  have hA : Blk W1 gb #[Value.int IntKind.u64 (hi : Int), Value.int IntKind.u64 (lo : Int), Value.pointer (some ⟨g6, o6, none⟩)] 119 := by rw [← hW1, ← hgb]; exact Blk.new w _ _
  have hb : Below gb w W1 := by rw [← hW1, ← hgb]; exact (Below.refl _ _).alloc (Nat.le_refl _) _
  have hgl : gb ≤ W1.heap.size := Nat.le_of_lt hA.lt
  have his := is6_6 g4 o4 g6 o6 hi lo W1 (hI.below hb (by omega))
  have hip : ipV hi lo g6 o6 = .agg #[.int .u64 (hi : Int), .int .u64 (lo : Int), .pointer (some ⟨g6, o6, none⟩)] := rfl
  rw [hip] at his
  have HIS := Lib.hid his
  have HA := Lib.hid hA
  obtain ⟨c0, c1, c2, _⟩ := blk3 hA
  clear his hip hA hI
  have hq : ((hi : Int) == 0) = false := by rw [beq_eq_false_iff_ne]; omega
  clear h0
  go_enter Tryd.func102, Tryd.ntmps102
  go_wp2_with (go_at_call 114; refine HIS.out.mono ?_; rintro e w2 ⟨rfl, hb2⟩; obtain ⟨d0, d1, _⟩ := blk3 (HA.out.below hb2 HA.out.lt); have hb3 := hb.trans (hb2.mono hgl))
  go_ret
  exact ⟨rfl, hgb ▸ hb3⟩

end Go.Proofs.YtfkohahlpfejbaaDoor

/- Str8: WALKS: net/netip: Unmap, appendTo4In6. -/
namespace Go.Proofs.YtfkohahlpfejbaaDoor
open Go.RowKit

set_option maxRecDepth 100000 in
set_option maxHeartbeats 4000000 in
theorem unm_sp (g4 o4 g6 o6 lo : Nat) (hl : lo / 4294967296 = 65535) (w : World) (hI : IpVars w g4 o4 g6 o6) :
    Calls Tryd.prog 115 #[.agg #[.int .u64 0, .int .u64 (lo : Int), .pointer (some ⟨g6, o6, none⟩)]] w fun e w' => e = .returned (.agg #[.int .u64 0, .int .u64 (lo : Int), .pointer (some ⟨g4, o4, none⟩)]) ∧ Below w.heap.size w w' := by
  obtain ⟨g, hg⟩ : ∃ g, w.heap.size = g := ⟨_, rfl⟩
  obtain ⟨W0, hW0⟩ : ∃ W0, w.alloc (Obj.cells #[Value.int IntKind.u64 0, Value.int IntKind.u64 (lo : Int), Value.pointer (some ⟨g6, o6, none⟩)] 119) = W0 := ⟨_, rfl⟩
  obtain ⟨W1, hW1⟩ : ∃ W1, W0.alloc (Obj.cells #[Value.int IntKind.u64 0, Value.int IntKind.u64 0, Value.pointer none] 119) = W1 := ⟨_, rfl⟩
  have hs0 : W0.heap.size = g + 1 := by rw [← hW0, ← hg]; simp
  have hA : Blk W1 g #[Value.int IntKind.u64 0, Value.int IntKind.u64 (lo : Int), Value.pointer (some ⟨g6, o6, none⟩)] 119 := by
    rw [← hW1, ← hW0, ← hg]; exact (Blk.new w _ _).alloc _
  have hR : Blk W1 (g + 1) #[Value.int IntKind.u64 0, Value.int IntKind.u64 0, Value.pointer none] 119 := by
    rw [← hW1, ← hs0]; exact Blk.new W0 _ _
  have hb1 : Below g w W1 := by rw [← hW1, ← hW0, ← hg]; exact ((Below.refl _ _).alloc (Nat.le_refl _) _).alloc (by simp) _
  have hI1 := hI.below hb1 (by omega)
  have hgs : g ≤ W1.heap.size := by rw [← hg]; exact hb1.size
  have his := is46_zero g4 o4 g6 o6 lo true (by rw [beq_iff_eq]; omega) W1 hI1
  have HIS := Lib.hid his
  have HI := Lib.hid hI1
  have HA := Lib.hid hA
  have HR := Lib.hid hR
  have HB1 := Lib.hid hb1
  obtain ⟨c0, c1, c2, _⟩ := blk3 hA
  clear his hI1 hI hA hR hb1 hl
  go_enter Tryd.func115, Tryd.ntmps115
  go_wp2_with (go_at_call 102; refine HIS.out.mono ?_; rintro e w2 ⟨rfl, hb2⟩; have HA2 := Lib.hid (HA.out.below hb2 HA.out.lt); have HR2 := Lib.hid (HR.out.below hb2 HR.out.lt); have hz := (HI.out.below hb2 (Nat.le_refl _)).z4; have HB3 := Lib.hid (HB1.out.trans (hb2.mono hgs)); obtain ⟨d0, d1, d2, _, _, f2⟩ := blk3 HA2.out; obtain ⟨e0, e1, e2, k0, k1, k2⟩ := blk3 HR2.out)
  have hst := set3 (.int .u64 0) (.int .u64 (lo : Int)) (.pointer (some ⟨g4, o4, none⟩)) (HR2.out.other g 2 (.pointer (some ⟨g4, o4, none⟩)) (by omega))
  refine bodyPost_ret (results_cell_row rfl _ _ (g + 1) _ _ _ _ rfl hst.1 Tryd.underlying119 rfl (by kernel_rfl)) rfl ?_
  exact ⟨rfl, hg ▸ hst.2.1 g w (HB3.out.setCell (Nat.le_refl _) _) (Nat.le_succ _)⟩

theorem IpVars.fr {w w' : World} {g4 o4 g6 o6 B : Nat} (h : IpVars w g4 o4 g6 o6) (hf : Below B w w') (hB : ∀ g, g = g4 ∨ g = g6 ∨ g ≤ 2 → g < B) : IpVars w' g4 o4 g6 o6 := by
  have k : ∀ {g o : Nat} {v : Value}, g < B → w.cell? ⟨g, o, none⟩ = some v → w'.cell? ⟨g, o, none⟩ = some v := fun {g o v} hg hc => by
    rw [← hc]; simp only [World.cell?, hf.block g hg]
  have l4 := hB g4 (.inl rfl)
  have l6 := hB g6 (.inr (.inl rfl))
  have l0 := hB 0 (by omega)
  have l1 := hB 1 (by omega)
  have l2 := hB 2 (by omega)
  exact ⟨k l0 h.z0, k l1 h.z4, k l2 h.z6, h.ne, k l4 h.a4, k l6 h.a6, k l4 h.b4, k l6 h.b6, by rw [hf.block _ l4]; exact h.h4, by rw [hf.block _ l6]; exact h.h6⟩
/-- the variables lie below B -/
def IpB (B g4 g6 : Nat) : Prop := ∀ g, g = g4 ∨ g = g6 ∨ g ≤ 2 → g < B

set_option maxRecDepth 100000 in
set_option maxHeartbeats 4000000 in
theorem ap46_sp (g4 o4 g6 o6 lo : Nat) (x y z u : UInt8) (hlo : lo = 281470681743360 + pl.be [x, y, z, u]) (v : Value) (w : World) (B : Nat) (hI : IpVars w g4 o4 g6 o6) (hIB : IpB B g4 g6) (hv : Byts w B v []) (hB : B ≤ w.heap.size) :
    Calls Tryd.prog 103 #[.agg #[.int .u64 0, .int .u64 (lo : Int), .pointer (some ⟨g6, o6, none⟩)], v] w fun e w' => ∃ v', e = .returned v' ∧ Byts w' B v' ([58, 58, 102, 102, 102, 102, 58] ++ pl.dots [x, y, z, u]) ∧ Fr B w w' := by
  have hl4 : lo / 4294967296 = 65535 := by
    have hx := x.toNat_lt
    have hy := y.toNat_lt
    have hz := z.toNat_lt
    have hu := u.toNat_lt
    rw [pl.be4] at hlo
    omega
  obtain ⟨gb, hgb⟩ : ∃ gb, w.heap.size = gb := ⟨_, rfl⟩
  obtain ⟨W1, hW1⟩ : ∃ W1, w.alloc (Obj.cells #[Value.int IntKind.u64 0, Value.int IntKind.u64 (lo : Int), Value.pointer (some ⟨g6, o6, none⟩)] 119) = W1 := ⟨_, rfl⟩
  have hA : Blk W1 gb #[Value.int IntKind.u64 0, Value.int IntKind.u64 (lo : Int), Value.pointer (some ⟨g6, o6, none⟩)] 119 := by
    rw [← hW1, ← hgb]; exact Blk.new w _ _
  have f0 : Fr B w W1 := by rw [← hW1]; exact Fr.alloc0 _ hB
  have v0 : Byts W1 B v [] := by rw [← hW1]; exact World.ownsRow.alloc hv _
  have hB1 : B ≤ W1.heap.size := Nat.le_trans hB f0.bel.size
  have r0 : Fr B W1 W1 := Fr.refl _ _
  have hI1 := hI.fr f0.bel hIB
  have hum := fun W (hf : Fr B W1 W) => unm_sp g4 o4 g6 o6 lo hl4 W (hI1.fr hf.bel hIB)
  have hap := fun v l W => ap4_sp 0 lo g4 o4 x y z u hlo v l W B
  have hap' : ∀ (v : Value) (l : List UInt8) (W : World), Byts W B v l → B ≤ W.heap.size → l.length ≤ 100 → Calls Tryd.prog 101 #[.agg #[.int .u64 0, .int .u64 (lo : Int), .pointer (some ⟨g4, o4, none⟩)], v] W fun e w' => ∃ v', e = .returned v' ∧ Byts w' B v' (l ++ pl.dots [x, y, z, u]) ∧ Fr B W w' := hap
  have hlen : (pl.dots [x, y, z, u]).length ≤ 15 := by
    have n0 := (pl.oct_num x).2.2.2
    have n1 := (pl.oct_num y).2.2.2
    have n2 := (pl.oct_num z).2.2.2
    have n3 := (pl.oct_num u).2.2.2
    simp only [pl.dots, List.length_append, List.length_cons]; omega
  obtain ⟨D, hD⟩ : ∃ D, pl.dots [x, y, z, u] = D := ⟨_, rfl⟩
  rw [hD] at hlen hap' ⊢
  have HUM := Lib.hid hum
  have HAP := Lib.hid hap'
  have HA := Lib.hid hA
  have HI1 := Lib.hid hI1
  have hsame := fun W => ptr_same W ⟨g6, o6, none⟩
  clear hum hap hap' hA hI1 hI hD hlo hl4
  go_enter Tryd.func103, Tryd.ntmps103
  go_wp2_with (first
    | (go_at_call 101; refine (HAP.out _ _ _ vb sb (by simp)).mono ?_; rintro e wc ⟨vc, rfl, hvc, hfc⟩; have fc := fb.trans hfc; obtain ⟨c0, c1, c2, _⟩ := blk3 (fc.oth _ _ _ (by decide) HA.out); have hz6 := (HI1.out.fr fc.bel hIB).z6)
    | (go_at_call 115; have hx0 := fa; refine (HUM.out _ fa).mono ?_; rintro e wb ⟨rfl, hbb⟩; have fb := fa.trans (Fr.of hbb sa); have vb := va.below hbb; have sb := Nat.le_trans hB1 fb.bel.size)
    | (at_builtin; refine app_str_fr (w := W1) ⟨#[58, 58, 102, 102, 102, 102, 58]⟩ 26 9 Tryd.underlying26 Tryd.underlying9 rfl _ _ rfl rfl B v0 rfl (by decide) r0 hB1 ?_; intro va1 wa va fa; have sa := Nat.le_trans hB1 fa.bel.size; obtain ⟨c0, c1, c2, _⟩ := blk3 (fa.oth _ _ _ (by decide) HA.out)))
  go_ret
  exact ⟨_, rfl, by simpa using hvc, f0.trans fc⟩

end Go.Proofs.YtfkohahlpfejbaaDoor

/- Str9: WALKS: net/netip: appendTo6. -/
namespace Go.Proofs.YtfkohahlpfejbaaDoor
open Go.RowKit

theorem pl.jn_len (g : List Nat) (hs : pl.small g) : (pl.jn g).length ≤ 5 * g.length := by
  induction g with
  | nil => simp [pl.jn]
  | cons a g ih =>
    have ha := (pl.okG_num a (hs a (by simp))).2.2
    cases g with
    | nil => show (pl.num 16 a).length ≤ _; simp; omega
    | cons b r =>
      have := ih (fun y hy => hs y (by simp at hy ⊢; exact .inr hy))
      rw [pl.jn, List.length_append]
      simp at this ⊢
      omega
theorem pl.tx_len (g : List Nat) (hs : pl.small g) (h8 : g.length = 8) (a l i : Nat) : (pl.tx g a l i).length ≤ 100 := by
  unfold pl.tx
  split
  · have := pl.jn_len (g.take i) (fun x hx => hs x (List.mem_of_mem_take hx))
    rw [List.length_take] at this
    omega
  · have h1 := pl.jn_len (g.take a) (fun x hx => hs x (List.mem_of_mem_take hx))
    have h2 := pl.jn_len ((g.take i).drop (a + l)) (pl.take_small g hs _ _)
    rw [List.length_take] at h1
    rw [List.length_drop, List.length_take] at h2
    simp only [List.length_append, List.length_cons, List.length_nil]
    omega

/-- the run that is known when k groups have been tried -/
def BestV (G : List Nat) (k : Nat) (zs ze : Value) : Prop :=
  (zs = .int .u8 255 ∧ ze = .int .u8 255 ∧ Hid (pl.best G k = (8, 1))) ∨
  (∃ a l : Nat, zs = .int .u8 (a : Int) ∧ ze = .int .u8 ((a : Int) + (l : Int)) ∧ a + l ≤ 8 ∧ 2 ≤ l ∧ Hid (pl.best G k = (a, l)))

set_option maxRecDepth 100000 in
set_option maxHeartbeats 40000000 in
theorem ap6_sp (g4 o4 g6 o6 : Nat) (b : List UInt8) (hb16 : b.length = 16) (v : Value) (w : World) (B : Nat) (hI : IpVars w g4 o4 g6 o6) (hIB : IpB B g4 g6) (hv : Byts w B v []) (hB : B ≤ w.heap.size) :
    Calls Tryd.prog 104 #[.agg #[.int .u64 (pl.be (b.take 8) : Nat), .int .u64 (pl.be (b.drop 8) : Nat), .pointer (some ⟨g6, o6, none⟩)], v] w fun e w' => ∃ v', e = .returned v' ∧ Byts w' B v' (pl.text6 b) ∧ Fr B w w' := by
  have h6 := fun j x hx W => v6u_any b hb16 g6 o6 j x hx W
  have hG8 := pl.gs_len 8 b hb16
  have hsm : pl.small (pl.gs b) := pl.gs_lt 16 b (by omega)
  unfold pl.text6
  obtain ⟨hi, hhi⟩ : ∃ hi, pl.be (b.take 8) = hi := ⟨_, rfl⟩
  obtain ⟨lo, hlo⟩ : ∃ lo, pl.be (b.drop 8) = lo := ⟨_, rfl⟩
  obtain ⟨G, hG⟩ : ∃ G, pl.gs b = G := ⟨_, rfl⟩
  rw [hhi, hlo] at h6 ⊢
  rw [hG] at h6 hG8 hsm ⊢
  obtain ⟨R, hR⟩ : ∃ R, pl.tx G (pl.best G 8).1 (pl.best G 8).2 8 = R := ⟨_, rfl⟩
  rw [hR]
  obtain ⟨gb, hgb⟩ : ∃ gb, w.heap.size = gb := ⟨_, rfl⟩
  obtain ⟨W1, hW1⟩ : ∃ W1, w.alloc (Obj.cells #[Value.int IntKind.u64 (hi : Int), Value.int IntKind.u64 (lo : Int), Value.pointer (some ⟨g6, o6, none⟩)] 119) = W1 := ⟨_, rfl⟩
  have hA : Blk W1 gb #[Value.int IntKind.u64 (hi : Int), Value.int IntKind.u64 (lo : Int), Value.pointer (some ⟨g6, o6, none⟩)] 119 := by
    rw [← hW1, ← hgb]; exact Blk.new w _ _
  have f0 : Fr B w W1 := by rw [← hW1]; exact Fr.alloc0 _ hB
  have v0 : Byts W1 B v [] := by rw [← hW1]; exact World.ownsRow.alloc hv _
  have hB1 : B ≤ W1.heap.size := Nat.le_trans hB f0.bel.size
  have hI1 := hI.fr f0.bel hIB
  have H6 := Lib.hid h6
  have HA := Lib.hid hA
  have HI1 := Lib.hid hI1
  have HSM := Lib.hid hsm
  have HR := Lib.hid hR
  have HG8 := Lib.hid hG8
  have V0 := Lib.hid v0
  have F0 := Lib.hid f0
  have hsame := fun W => ptr_same W ⟨g6, o6, none⟩
  clear h6 hA hI1 hI hsm hR hG8 v0 f0 hG hhi hlo hb16 hv
  go_enter Tryd.func104, Tryd.ntmps104
  go_upto_block 0 with fail
  go_cut [5, 6, 7, 8, 9] (fun zs ze z7 z8 z9 wc => BestV G 8 zs ze ∧ Hid (Byts wc B v []) ∧ Hid (Fr B W1 wc))
  case first =>
    as_aux_lemma =>
      go_wp2_with fail
      go_loopw [5, 6, 7] (fun zs ze iv wr => ∃ k : Nat, iv = .int .u8 (k : Int) ∧ k ≤ 8 ∧ BestV G k zs ze ∧ Hid (Byts wr B v []) ∧ Hid (Fr B W1 wr)) (fun _ _ iv _ => 8 - (intOf iv).toNat)
      case atStart => exact ⟨0, rfl, by omega, .inl ⟨rfl, rfl, Lib.hid rfl⟩, V0, Lib.hid (Fr.refl _ _)⟩
      case round =>
        obtain ⟨k, rfl, hk, HBV, HBY, HFR⟩ := hrel
        by_cases hk8 : k < 8
        · have hd8 : decide ((k : Int) < 8) = true := decide_eq_true (by omega)
          go_wp2_with fail
          clear hd8
          go_loopg [8] (8 - k) (fun n jv wi => ∃ m : Nat, jv = .int .u8 ((k : Int) + (m : Int)) ∧ k + m ≤ 8 ∧ Hid (n + (k + m) = 8) ∧ Hid (pl.run0 G k = m + pl.run0 G (k + m)) ∧ Hid (Byts wi B v []) ∧ Hid (Fr B W1 wi))
          case atStart => exact ⟨0, by go_num, by omega, Lib.hid (by omega), Lib.hid (by simp), HBY, HFR⟩
          case round =>
            clear HBY HFR
            obtain ⟨m, rfl, hkm, HN, HR0, HBY, HFR⟩ := hrel
            by_cases hlt : k + m < 8
            · obtain ⟨x, hx⟩ : ∃ x, G[k + m]? = some x := ⟨_, List.getElem?_eq_getElem (by rw [HG8.out]; exact hlt)⟩
              have hxe : ∀ h : k + m < G.length, G[k + m] = x := fun h => (List.getElem?_eq_some_iff.1 hx).2
              have hc : ∀ W, Calls Tryd.prog 116 #[.agg #[.int .u64 (hi : Int), .int .u64 (lo : Int), .pointer (some ⟨g6, o6, none⟩)], .int .u8 ((k : Int) + (m : Int))] W fun e w' => e = .returned (.int .u16 (x : Int)) ∧ Below W.heap.size W w' := fun W => by
                have h := H6.out (k + m) x hx W
                rwa [Int.natCast_add] at h
              have HC := Lib.hid hc
              have HXE := Lib.hid hxe
              have HX := Lib.hid hx
              obtain ⟨c0, c1, c2, _⟩ := blk3 (HFR.out.oth _ _ _ (by decide) HA.out)
              have hsz := HFR.out.bel.size
              have hltI : (k : Int) + (m : Int) < 8 := by omega
              clear hc hxe hx
              by_cases hx0 : x = 0
              · subst hx0
                have HR2 : Hid (pl.run0 G k = m + 1 + pl.run0 G (k + (m + 1))) := Lib.hid (pl.run0_go G k m (by rw [HG8.out]; exact hlt) (HXE.out _) HR0.out)
                go_wp2_with (go_at_call 116; refine (HC.out _).mono ?_; rintro e w2 ⟨rfl, hb2⟩; have HF2 := Lib.hid (HFR.out.trans (Fr.of hb2 (Nat.le_trans hB1 hsz))); have HB2 := Lib.hid (HBY.out.below hb2); clear hb2)
                go_roundg (gk - 1)
                case rel => exact ⟨m + 1, by go_num, by omega, Lib.hid (by have := HN.out; omega), HR2, HB2, HF2⟩
                case measure => have := HN.out; omega
              · have HRUN : Hid (pl.run0 G k = m) := Lib.hid (by
                  rw [HR0.out, pl.run0_stop G (k + m) (by rw [HG8.out]; exact hlt) (by rw [HXE.out _]; exact hx0)]; rfl)
                have hxb : ((x : Int) == 0) = false := beqN x 0 hx0
                have hB1s := Nat.le_trans hB1 hsz
                clear HR0
                rcases HBV with ⟨rfl, rfl, HB0⟩ | ⟨a, l, rfl, rfl, hal, hl2, HB0⟩
                · by_cases h2 : 2 ≤ m
                  · have HB2 : Hid (pl.best G (k + 1) = (k, m)) := Lib.hid (by rw [pl.best_take G k (by rw [HB0.out, HRUN.out]; exact h2), HRUN.out])
                    go_wp2_with (go_at_call 116; refine (HC.out _).mono ?_; rintro e w2 ⟨rfl, hb2⟩; have HF2 := Lib.hid (HFR.out.trans (Fr.of hb2 hB1s)); have HB3 := Lib.hid (HBY.out.below hb2); clear hb2)
                    go_roundw
                    case rel => exact ⟨k + 1, by go_num, by omega, .inr ⟨k, m, by first | rfl | go_num, by first | rfl | go_num, hkm, h2, HB2⟩, HB3, HF2⟩
                    case measure => simp [intOf]; omega
                  · have HB2 : Hid (pl.best G (k + 1) = (8, 1)) := Lib.hid (by rw [pl.best_leave G k (by rw [HB0.out, HRUN.out]; exact fun h => h2 h), HB0.out])
                    go_wp2_with (go_at_call 116; refine (HC.out _).mono ?_; rintro e w2 ⟨rfl, hb2⟩; have HF2 := Lib.hid (HFR.out.trans (Fr.of hb2 hB1s)); have HB3 := Lib.hid (HBY.out.below hb2); clear hb2)
                    go_roundw
                    case rel => exact ⟨k + 1, by go_num, by omega, .inl ⟨rfl, rfl, HB2⟩, HB3, HF2⟩
                    case measure => simp [intOf]; omega
                · by_cases h2 : l < m
                  · have h22 : 2 ≤ m := by omega
                    have HB2 : Hid (pl.best G (k + 1) = (k, m)) := Lib.hid (by rw [pl.best_take G k (by rw [HB0.out, HRUN.out]; exact h2), HRUN.out])
                    go_wp2_with (go_at_call 116; refine (HC.out _).mono ?_; rintro e w2 ⟨rfl, hb2⟩; have HF2 := Lib.hid (HFR.out.trans (Fr.of hb2 hB1s)); have HB3 := Lib.hid (HBY.out.below hb2); clear hb2)
                    go_roundw
                    case rel => exact ⟨k + 1, by go_num, by omega, .inr ⟨k, m, by first | rfl | go_num, by first | rfl | go_num, hkm, h22, HB2⟩, HB3, HF2⟩
                    case measure => simp [intOf]; omega
                  · have HB2 : Hid (pl.best G (k + 1) = (a, l)) := Lib.hid (by rw [pl.best_leave G k (by rw [HB0.out, HRUN.out]; exact h2), HB0.out])
                    by_cases h22 : 2 ≤ m
                    · skip
                      go_wp2_with (go_at_call 116; refine (HC.out _).mono ?_; rintro e w2 ⟨rfl, hb2⟩; have HF2 := Lib.hid (HFR.out.trans (Fr.of hb2 hB1s)); have HB3 := Lib.hid (HBY.out.below hb2); clear hb2)
                      go_roundw
                      case rel => exact ⟨k + 1, by go_num, by omega, .inr ⟨a, l, rfl, rfl, hal, hl2, HB2⟩, HB3, HF2⟩
                      case measure => simp [intOf]; omega
                    · skip
                      go_wp2_with (go_at_call 116; refine (HC.out _).mono ?_; rintro e w2 ⟨rfl, hb2⟩; have HF2 := Lib.hid (HFR.out.trans (Fr.of hb2 hB1s)); have HB3 := Lib.hid (HBY.out.below hb2); clear hb2)
                      go_roundw
                      case rel => exact ⟨k + 1, by go_num, by omega, .inr ⟨a, l, rfl, rfl, hal, hl2, HB2⟩, HB3, HF2⟩
                      case measure => simp [intOf]; omega
            · have HRUN : Hid (pl.run0 G k = m) := Lib.hid (by
                rw [HR0.out, pl.run0_end G (k + m) (by rw [HG8.out]; omega)]; rfl)
              have hltI : ¬ (k : Int) + (m : Int) < 8 := by omega
              clear HR0
              rcases HBV with ⟨rfl, rfl, HB0⟩ | ⟨a, l, rfl, rfl, hal, hl2, HB0⟩
              · by_cases h2 : 2 ≤ m
                · have HB2 : Hid (pl.best G (k + 1) = (k, m)) := Lib.hid (by rw [pl.best_take G k (by rw [HB0.out, HRUN.out]; exact h2), HRUN.out])
                  go_wp2_with fail
                  go_roundw
                  case rel => exact ⟨k + 1, by go_num, by omega, .inr ⟨k, m, by first | rfl | go_num, by first | rfl | go_num, hkm, h2, HB2⟩, HBY, HFR⟩
                  case measure => simp [intOf]; omega
                · have HB2 : Hid (pl.best G (k + 1) = (8, 1)) := Lib.hid (by rw [pl.best_leave G k (by rw [HB0.out, HRUN.out]; exact fun h => h2 h), HB0.out])
                  go_wp2_with fail
                  go_roundw
                  case rel => exact ⟨k + 1, by go_num, by omega, .inl ⟨rfl, rfl, HB2⟩, HBY, HFR⟩
                  case measure => simp [intOf]; omega
              · by_cases h2 : l < m
                · have h22 : 2 ≤ m := by omega
                  have HB2 : Hid (pl.best G (k + 1) = (k, m)) := Lib.hid (by rw [pl.best_take G k (by rw [HB0.out, HRUN.out]; exact h2), HRUN.out])
                  go_wp2_with fail
                  go_roundw
                  case rel => exact ⟨k + 1, by go_num, by omega, .inr ⟨k, m, by first | rfl | go_num, by first | rfl | go_num, hkm, h22, HB2⟩, HBY, HFR⟩
                  case measure => simp [intOf]; omega
                · have HB2 : Hid (pl.best G (k + 1) = (a, l)) := Lib.hid (by rw [pl.best_leave G k (by rw [HB0.out, HRUN.out]; exact h2), HB0.out])
                  by_cases h22 : 2 ≤ m
                  · skip
                    go_wp2_with fail
                    go_roundw
                    case rel => exact ⟨k + 1, by go_num, by omega, .inr ⟨a, l, rfl, rfl, hal, hl2, HB2⟩, HBY, HFR⟩
                    case measure => simp [intOf]; omega
                  · skip
                    go_wp2_with fail
                    go_roundw
                    case rel => exact ⟨k + 1, by go_num, by omega, .inr ⟨a, l, rfl, rfl, hal, hl2, HB2⟩, HBY, HFR⟩
                    case measure => simp [intOf]; omega
        · have hk8' : k = 8 := by omega
          subst hk8'
          go_wp2_with fail
          go_meet
          case rel => exact ⟨HBV, HBY, HFR⟩
  case rest =>
    obtain ⟨HBV, HBY, HFR⟩ := hcut
    obtain ⟨A, L, Z, E, rfl, rfl, HB0, hL1, hcase⟩ : ∃ A L Z E : Nat, u5 = .int .u8 (Z : Int) ∧ u6 = .int .u8 (E : Int) ∧ Hid (pl.best G 8 = (A, L)) ∧ 1 ≤ L ∧ ((A = 8 ∧ Z = 255) ∨ (A = Z ∧ Z + L = E ∧ E ≤ 8 ∧ Z < 8)) := by
      rcases HBV with ⟨rfl, rfl, HB0⟩ | ⟨a, l, rfl, rfl, hal, hl2, HB0⟩
      · exact ⟨8, 1, 255, 255, rfl, rfl, HB0, by omega, .inl ⟨rfl, rfl⟩⟩
      · exact ⟨a, l, a, a + l, rfl, by rw [Int.natCast_add], HB0, by omega, .inr ⟨rfl, rfl, hal, by omega⟩⟩
    have HT : Hid (pl.tx G A L 8 = R) := Lib.hid (by rw [← HR.out, HB0.out])
    have HCASE := Lib.hid hcase
    have HL1 := Lib.hid hL1
    clear hcase hL1
    go_wp2_with fail
    go_loopw [1, 10] (fun rv iv wr => ∃ k : Nat, iv = .int .u8 (k : Int) ∧ k ≤ 8 ∧ Hid (k ≤ A ∨ A + L < k) ∧ Hid (Byts wr B rv (pl.tx G A L k)) ∧ Hid (Fr B W1 wr)) (fun _ iv _ => 8 - (intOf iv).toNat)
    case atStart => exact ⟨0, rfl, by omega, Lib.hid (by omega), Lib.hid (by rw [pl.tx_zero]; exact HBY.out), HFR⟩
    case round =>
      clear HBY HFR
      obtain ⟨k, rfl, hk, HK, HBY, HFR⟩ := hrel
      have HLEN : Hid ((pl.tx G A L k).length ≤ 100) := Lib.hid (pl.tx_len G HSM.out HG8.out A L k)
      have sa := Nat.le_trans hB1 HFR.out.bel.size
      obtain ⟨c0, c1, c2, _⟩ := blk3 (HFR.out.oth _ _ _ (by decide) HA.out)
      have hz6 := (HI1.out.fr HFR.out.bel hIB).z6
      by_cases hk8 : k < 8
      · by_cases hkZ : k = Z
        · have hcs : A = Z ∧ Z + L = E ∧ E ≤ 8 := by
            rcases HCASE.out with ⟨_, h⟩ | ⟨h1, h2, h3, _⟩
            · omega
            · exact ⟨h1, h2, h3⟩
          obtain ⟨h1, h2, hE8⟩ := hcs
          have hrun := pl.tx_run G A L HL1.out (by rw [HG8.out]; omega)
          have hAk : A = k := by omega
          rw [hAk, show k + L = E by omega] at hrun
          have HTXA : Hid (pl.tx G A L k ++ [58, 58] = pl.tx G A L E) := Lib.hid (by rw [hAk]; exact hrun)
          have HAE : Hid (A + L = E) := Lib.hid (by omega)
          clear h1 h2 hrun hAk
          subst hkZ
          by_cases hEe : E = 8
          · subst hEe
            go_wp2_with (at_builtin; refine app_two_fr (w := W1) 58 58 26 Tryd.underlying26 rfl _ _ rfl rfl B HBY.out rfl rfl rfl (by have := HLEN.out; omega) HFR.out hB1 ?_; intro va1 wa va0 fa0; have va := Lib.hid va0; have fa := Lib.hid fa0; clear va0 fa0; have sa := Nat.le_trans hB1 fa.out.bel.size; obtain ⟨c0, c1, c2, _⟩ := blk3 (fa.out.oth _ _ _ (by decide) HA.out); have hz6 := (HI1.out.fr fa.out.bel hIB).z6)
            have HV8 : Hid (Byts wa B va1 R) := Lib.hid (by rw [← HT.out, ← HTXA.out]; exact va.out)
            go_ret
            exact ⟨_, rfl, HV8.out, F0.out.trans fa.out⟩
          · have hE9 : E < 8 := by omega
            obtain ⟨x, hx⟩ : ∃ x, G[E]? = some x := ⟨_, List.getElem?_eq_getElem (by rw [HG8.out]; omega)⟩
            have hxe : ∀ h : E < G.length, G[E] = x := fun h => (List.getElem?_eq_some_iff.1 hx).2
            have hx16 : x < 65536 := HSM.out x (List.mem_of_getElem? hx)
            have HC := Lib.hid (H6.out E x hx)
            have HXE := Lib.hid hxe
            clear hx hxe
            go_wp2_with (first
              | (go_at_call 117; refine (aph_sp _ _ x hx16 _ B vb.out sb (by have := HLEN.out; simp; omega)).mono ?_; rintro e wc ⟨vc, rfl, hvc, hfc⟩; have HVC := Lib.hid hvc; have fc := Lib.hid (fb.out.trans hfc); clear hvc hfc)
              | (go_at_call 116; have hx0 := fa; refine (HC.out _).mono ?_; rintro e wb ⟨rfl, hbb⟩; have fb := Lib.hid (fa.out.trans (Fr.of hbb sa)); have vb := Lib.hid (va.out.below hbb); have sb := Nat.le_trans hB1 fb.out.bel.size; clear hbb)
              | (at_builtin; refine app_two_fr (w := W1) 58 58 26 Tryd.underlying26 rfl _ _ rfl rfl B HBY.out rfl rfl rfl (by have := HLEN.out; omega) HFR.out hB1 ?_; intro va1 wa va0 fa0; have va := Lib.hid va0; have fa := Lib.hid fa0; clear va0 fa0; have sa := Nat.le_trans hB1 fa.out.bel.size; obtain ⟨c0, c1, c2, _⟩ := blk3 (fa.out.oth _ _ _ (by decide) HA.out); have hz6 := (HI1.out.fr fa.out.bel hIB).z6))
            have HV9 : Hid (Byts wc B vc (pl.tx G A L (E + 1))) := Lib.hid (by
              rw [pl.tx_bare G A L E (by rw [HG8.out]; omega) HL1.out (.inr (by have := HAE.out; omega)) (.inr HAE.out.symm), ← HTXA.out, HXE.out _]
              exact HVC.out)
            have hkE : k < E + 1 := by have := HAE.out; have := HCASE.out; have := HL1.out; omega
            go_roundw
            case rel => exact ⟨E + 1, by go_num, by omega, Lib.hid (.inr (by have := HAE.out; omega)), HV9, fc⟩
            case measure => simp [intOf]; omega
        · have hkA : k < A ∨ A + L ≤ k := by
            rcases HCASE.out with ⟨h, _⟩ | ⟨h1, h2, h3, h4⟩
            · left; omega
            · have := HK.out; omega
          have HKA := Lib.hid hkA
          have hZb : ((k : Int) == (Z : Int)) = false := beqN k Z hkZ
          have hK := HK.out
          clear hkA hkZ
          obtain ⟨x, hx⟩ : ∃ x, G[k]? = some x := ⟨_, List.getElem?_eq_getElem (by rw [HG8.out]; omega)⟩
          have hxe : ∀ h : k < G.length, G[k] = x := fun h => (List.getElem?_eq_some_iff.1 hx).2
          have hx16 : x < 65536 := HSM.out x (List.mem_of_getElem? hx)
          have HC := Lib.hid (H6.out k x hx)
          have HXE := Lib.hid hxe
          clear hx hxe
          by_cases hk0 : k = 0
          · have hk0' : ¬ (0 : Int) < (k : Int) := by omega
            have HK0 := Lib.hid hk0
            have va := HBY
            have fa := HFR
            clear hk0 hK
            go_wp2_with (first
              | (go_at_call 117; refine (aph_sp _ _ x hx16 _ B vb.out sb (by have := HLEN.out; simp; omega)).mono ?_; rintro e wc ⟨vc, rfl, hvc, hfc⟩; have HVC := Lib.hid hvc; have fc := Lib.hid (fb.out.trans hfc); clear hvc hfc)
              | (go_at_call 116; have hx0 := fa; refine (HC.out _).mono ?_; rintro e wb ⟨rfl, hbb⟩; have fb := Lib.hid (fa.out.trans (Fr.of hbb sa)); have vb := Lib.hid (va.out.below hbb); have sb := Nat.le_trans hB1 fb.out.bel.size; clear hbb))
            have HV9 : Hid (Byts wc B vc (pl.tx G A L (k + 1))) := Lib.hid (by
              rw [pl.tx_bare G A L k (by rw [HG8.out]; omega) HL1.out HKA.out (.inl HK0.out), HXE.out _]
              exact HVC.out)
            go_roundw
            case rel => exact ⟨k + 1, by go_num, by omega, Lib.hid (by have := HKA.out; have := HL1.out; omega), HV9, fc⟩
            case measure => simp [intOf]; omega
          · have hk0' : (0 : Int) < (k : Int) := by omega
            have HNB : Hid (¬ pl.bare A L k) := Lib.hid (by
              rintro (h | h)
              · exact hk0 h
              · have := HL1.out; omega)
            clear hk0 hK
            go_wp2_with (first
              | (go_at_call 117; refine (aph_sp _ _ x hx16 _ B vb.out sb (by have := HLEN.out; simp; omega)).mono ?_; rintro e wc ⟨vc, rfl, hvc, hfc⟩; have HVC := Lib.hid hvc; have fc := Lib.hid (fb.out.trans hfc); clear hvc hfc)
              | (go_at_call 116; have hx0 := fa; refine (HC.out _).mono ?_; rintro e wb ⟨rfl, hbb⟩; have fb := Lib.hid (fa.out.trans (Fr.of hbb sa)); have vb := Lib.hid (va.out.below hbb); have sb := Nat.le_trans hB1 fb.out.bel.size; clear hbb)
              | (at_builtin; refine app_byte_fr (w := W1) 58 26 Tryd.underlying26 rfl _ _ rfl rfl B HBY.out rfl rfl (by have := HLEN.out; omega) HFR.out hB1 ?_; intro va1 wa va0 fa0; have va := Lib.hid va0; have fa := Lib.hid fa0; clear va0 fa0; have sa := Nat.le_trans hB1 fa.out.bel.size; obtain ⟨c0, c1, c2, _⟩ := blk3 (fa.out.oth _ _ _ (by decide) HA.out); have hz6 := (HI1.out.fr fa.out.bel hIB).z6))
            have HV9 : Hid (Byts wc B vc (pl.tx G A L (k + 1))) := Lib.hid (by
              rw [pl.tx_colon G A L k (by rw [HG8.out]; omega) HL1.out HKA.out HNB.out, HXE.out _]
              have := HVC.out
              rw [List.append_assoc] at this
              exact this)
            go_roundw
            case rel => exact ⟨k + 1, by go_num, by omega, Lib.hid (by have := HKA.out; have := HL1.out; omega), HV9, fc⟩
            case measure => simp [intOf]; omega
      · have hk8' : k = 8 := by omega
        subst hk8'
        have HV8 : Hid (Byts wr B _ R) := Lib.hid (by rw [← HT.out]; exact HBY.out)
        go_wp2_with fail
        go_ret
        exact ⟨_, rfl, HV8.out, F0.out.trans HFR.out⟩

end Go.Proofs.YtfkohahlpfejbaaDoor

/- Str10: WALKS: net/netip: String of an address. -/
namespace Go.Proofs.YtfkohahlpfejbaaDoor
open Go.RowKit

set_option maxRecDepth 100000 in
set_option maxHeartbeats 4000000 in
theorem valid_sp (g4 o4 g6 o6 hi lo g o : Nat) (w : World) (hI : IpVars w g4 o4 g6 o6) :
    Calls Tryd.prog 100 #[.agg #[.int .u64 (hi : Int), .int .u64 (lo : Int), .pointer (some ⟨g, o, none⟩)]] w fun e w' => e = .returned (.bool true) ∧ Below w.heap.size w w' := by
  have h0 := fun o => (hI.alloc o).z0
  have n4 := fun x => ptr_nil (w.alloc x) ⟨g, o, none⟩
  go_enter Tryd.func100, Tryd.ntmps100
  go_wp2_with fail
  go_ret
  exact ⟨rfl, (Below.refl _ _).alloc (Nat.le_refl _) _⟩

theorem IpVars.ipB {w : World} {g4 o4 g6 o6 : Nat} (h : IpVars w g4 o4 g6 o6) {B : Nat} (hB : w.heap.size ≤ B) : IpB B g4 g6 := by
  intro g hg
  rcases hg with rfl | rfl | hg
  · exact Nat.lt_of_lt_of_le (cell_lt h.b4) hB
  · exact Nat.lt_of_lt_of_le (cell_lt h.b6) hB
  · have h2 := cell_lt h.z6; omega

set_option maxRecDepth 100000 in
set_option maxHeartbeats 8000000 in
theorem str4_sp (g4 o4 g6 o6 : Nat) (x y z u : UInt8) (w : World) (hI : IpVars w g4 o4 g6 o6) :
    Calls Tryd.prog 96 #[adr g4 o4 g6 o6 [x, y, z, u]] w fun e w' => e = .returned (.string ⟨(pl.dots [x, y, z, u]).toArray⟩) ∧ Below w.heap.size w w' := by
  obtain ⟨i0, hi, hz0, hz1, hz2⟩ := info_parts infoByte
  obtain ⟨lo, hlo⟩ : ∃ lo, 281470681743360 + pl.be [x, y, z, u] = lo := ⟨_, rfl⟩
  have hadr : adr g4 o4 g6 o6 [x, y, z, u] = .agg #[.int .u64 0, .int .u64 (lo : Int), .pointer (some ⟨g4, o4, none⟩)] := by rw [← hlo]; rfl
  rw [hadr]
  obtain ⟨gb, hgb⟩ : ∃ gb, w.heap.size = gb := ⟨_, rfl⟩
  obtain ⟨W1, hW1⟩ : ∃ W1, w.alloc (Obj.cells #[Value.int IntKind.u64 0, Value.int IntKind.u64 (lo : Int), Value.pointer (some ⟨g4, o4, none⟩)] 119) = W1 := ⟨_, rfl⟩
  have hA : Blk W1 gb #[Value.int IntKind.u64 0, Value.int IntKind.u64 (lo : Int), Value.pointer (some ⟨g4, o4, none⟩)] 119 := by
    rw [← hW1, ← hgb]; exact Blk.new w _ _
  have hb : Below gb w W1 := by rw [← hW1, ← hgb]; exact (Below.refl _ _).alloc (Nat.le_refl _) _
  have hsz1 : W1.heap.size = gb + 1 := by rw [← hW1, World.size_alloc, hgb]
  have hI1 := hI.below hb (by omega)
  have hIB : IpB (gb + 1) g4 g6 := hI.ipB (by omega)
  have hva : Calls Tryd.prog 100 #[.agg #[.int .u64 0, .int .u64 (lo : Int), .pointer (some ⟨g4, o4, none⟩)]] W1 fun e w' => e = .returned (.bool true) ∧ Below W1.heap.size W1 w' := valid_sp g4 o4 g6 o6 0 lo g4 o4 W1 hI1
  have hap : ∀ (v : Value) (l : List UInt8) (W : World), Byts W (gb + 1) v l → gb + 1 ≤ W.heap.size → l.length ≤ 100 → Calls Tryd.prog 101 #[.agg #[.int .u64 0, .int .u64 (lo : Int), .pointer (some ⟨g4, o4, none⟩)], v] W fun e w' => ∃ v', e = .returned v' ∧ Byts w' (gb + 1) v' (l ++ pl.dots [x, y, z, u]) ∧ Fr (gb + 1) W w' := fun v l W => ap4_sp 0 lo g4 o4 x y z u hlo.symm v l W (gb + 1)
  have HVA := Lib.hid hva
  have HAP := Lib.hid hap
  have HA := Lib.hid hA
  have HI1 := Lib.hid hI1
  have HB := Lib.hid hb
  have s4 := fun W => ptr_same W ⟨g4, o4, none⟩
  obtain ⟨c0, c1, c2, _⟩ := blk3 hA
  clear hva hap hA hI1 hI hb hlo hadr
  go_enter Tryd.func96, Tryd.ntmps96
  go_wp2_with (first
    | (go_at_call 101; refine (HAP.out _ _ _ HBY.out hs3 (by simp)).mono ?_; rintro e w4 ⟨v4, rfl, hv4, hf4⟩; have hconv := conv_back (P := Tryd.prog) 26 9 5 Tryd.underlying26 Tryd.underlying5 Tryd.underlying9 hv4.reads; have HF4 := Lib.hid hf4; clear hv4 hf4)
    | (go_at_call 100; refine HVA.out.mono ?_; rintro e w2 ⟨rfl, hb2⟩; have HB2 := Lib.hid hb2; have hz4 := (HI1.out.below hb2 (Nat.le_refl _)).z4; have hs2 := hb2.size; obtain ⟨d0, d1, d2, _⟩ := blk3 (HA.out.below hb2 HA.out.lt); clear hb2)
    | (at_make; refine wpList_make_own _ rfl _ _ 26 rfl (gb + 1) 5 i0 (.int .u8 0) 1 Tryd.underlying26 hi hz0 hz1 _ _ _ 15 rfl rfl rfl (by rw [hz2]; omega) (by unfold maxLen; omega) (by omega) ?_; intro w3 hown3 hg3; have HBY : Hid (Byts w3 (gb + 1) (.slice (some ⟨_, 0, none⟩) 0 15) []) := Lib.hid hown3; have hs3 := Nat.le_trans (by omega : gb + 1 ≤ w2.heap.size) hg3.size; have HG3 : Hid (Below (gb + 1) w2 w3) := Lib.hid ((Below.refl (gb + 1) w2).grown hg3 (by omega) (fun k hk => by simp at hk)); obtain ⟨q0, q1, q2, _⟩ := blk3 ((HA.out.below HB2.out HA.out.lt).below HG3.out (Nat.lt_succ_self _)); clear hown3 hg3))
  go_ret
  exact ⟨rfl, by rw [hgb]; exact (HB.out.trans (HB2.out.mono (by omega))).trans ((HG3.out.mono (Nat.le_succ _)).trans (HF4.out.bel.mono (Nat.le_succ _)))⟩

set_option maxRecDepth 100000 in
set_option maxHeartbeats 8000000 in
theorem strm_sp (g4 o4 g6 o6 lo : Nat) (x y z u : UInt8) (hlo : lo = 281470681743360 + pl.be [x, y, z, u]) (w : World) (hI : IpVars w g4 o4 g6 o6) :
    Calls Tryd.prog 96 #[.agg #[.int .u64 0, .int .u64 (lo : Int), .pointer (some ⟨g6, o6, none⟩)]] w fun e w' => e = .returned (.string ⟨([58, 58, 102, 102, 102, 102, 58] ++ pl.dots [x, y, z, u]).toArray⟩) ∧ Below w.heap.size w w' := by
  obtain ⟨i0, hi0, hz0, hz1, hz2⟩ := info_parts infoByte
  have hl4 : ((lo : Int) / 4294967296 == 65535) = true := by
    have hx := x.toNat_lt
    have hy := y.toNat_lt
    have hz := z.toNat_lt
    have hu := u.toNat_lt
    rw [pl.be4] at hlo
    rw [beq_iff_eq]; omega
  obtain ⟨gb, hgb⟩ : ∃ gb, w.heap.size = gb := ⟨_, rfl⟩
  obtain ⟨W1, hW1⟩ : ∃ W1, w.alloc (Obj.cells #[Value.int IntKind.u64 0, Value.int IntKind.u64 (lo : Int), Value.pointer (some ⟨g6, o6, none⟩)] 119) = W1 := ⟨_, rfl⟩
  have hA : Blk W1 gb #[Value.int IntKind.u64 0, Value.int IntKind.u64 (lo : Int), Value.pointer (some ⟨g6, o6, none⟩)] 119 := by
    rw [← hW1, ← hgb]; exact Blk.new w _ _
  have hb : Below gb w W1 := by rw [← hW1, ← hgb]; exact (Below.refl _ _).alloc (Nat.le_refl _) _
  have hsz1 : W1.heap.size = gb + 1 := by rw [← hW1, World.size_alloc, hgb]
  have hI1 := hI.below hb (by omega)
  have hIB : IpB (gb + 1) g4 g6 := hI.ipB (by omega)
  have hva : Calls Tryd.prog 100 #[.agg #[.int .u64 0, .int .u64 (lo : Int), .pointer (some ⟨g6, o6, none⟩)]] W1 fun e w' => e = .returned (.bool true) ∧ Below W1.heap.size W1 w' := valid_sp g4 o4 g6 o6 0 lo g6 o6 W1 hI1
  have his : ∀ W, IpVars W g4 o4 g6 o6 → Calls Tryd.prog 102 #[.agg #[.int .u64 0, .int .u64 (lo : Int), .pointer (some ⟨g6, o6, none⟩)]] W fun e w' => e = .returned (.bool true) ∧ Below W.heap.size W w' := fun W hW => is46_zero g4 o4 g6 o6 lo true hl4 W hW
  have hap : ∀ (v : Value) (W : World), Byts W (gb + 1) v [] → gb + 1 ≤ W.heap.size → IpVars W g4 o4 g6 o6 → Calls Tryd.prog 103 #[.agg #[.int .u64 0, .int .u64 (lo : Int), .pointer (some ⟨g6, o6, none⟩)], v] W fun e w' => ∃ v', e = .returned v' ∧ Byts w' (gb + 1) v' ([58, 58, 102, 102, 102, 102, 58] ++ pl.dots [x, y, z, u]) ∧ Fr (gb + 1) W w' := fun v W hv hB hW => ap46_sp g4 o4 g6 o6 lo x y z u hlo v W (gb + 1) hW hIB hv hB
  have HVA := Lib.hid hva
  have HAP := Lib.hid hap
  have HIS := Lib.hid his
  have HA := Lib.hid hA
  have HI1 := Lib.hid hI1
  have HB := Lib.hid hb
  obtain ⟨c0, c1, c2, _⟩ := blk3 hA
  clear hva hap his hA hI1 hI hb hl4 hlo
  go_enter Tryd.func96, Tryd.ntmps96
  go_wp2_with (first
    | (go_at_call 103; refine (HAP.out _ _ HBY.out hs3 HI5.out).mono ?_; rintro e w4 ⟨v4, rfl, hv4, hf4⟩; have hconv := conv_back (P := Tryd.prog) 26 9 5 Tryd.underlying26 Tryd.underlying5 Tryd.underlying9 hv4.reads; have HF4 := Lib.hid hf4; clear hv4 hf4)
    | (go_at_call 102; refine (HIS.out _ HI2.out).mono ?_; rintro e w5 ⟨rfl, hb5⟩; have HB5 := Lib.hid hb5; have HI4 := Lib.hid (HI2.out.below hb5 (Nat.le_refl _)); have hs5 := hb5.size; obtain ⟨r0, r1, r2, _⟩ := blk3 ((HA.out.below HB2.out HA.out.lt).below hb5 (by omega)); clear hb5)
    | (go_at_call 100; refine HVA.out.mono ?_; rintro e w2 ⟨rfl, hb2⟩; have HB2 := Lib.hid hb2; have HI2 := Lib.hid (HI1.out.below hb2 (Nat.le_refl _)); have hz4 := HI2.out.z4; have he := HI2.out.eqs.2; have hs2 := hb2.size; obtain ⟨d0, d1, d2, _⟩ := blk3 (HA.out.below hb2 HA.out.lt); clear hb2)
    | (at_make; refine wpList_make_own _ rfl _ _ 26 rfl (gb + 1) 5 i0 (.int .u8 0) 1 Tryd.underlying26 hi0 hz0 hz1 _ _ _ 29 rfl rfl rfl (by rw [hz2]; omega) (by unfold maxLen; omega) (by omega) ?_; intro w3 hown3 hg3; have HBY : Hid (Byts w3 (gb + 1) (.slice (some ⟨_, 0, none⟩) 0 29) []) := Lib.hid hown3; have hs3 := Nat.le_trans (by omega : gb + 1 ≤ w5.heap.size) hg3.size; have HG3 : Hid (Below (gb + 1) w5 w3) := Lib.hid ((Below.refl (gb + 1) w5).grown hg3 (by omega) (fun k hk => by simp at hk)); have HI5 := Lib.hid (HI4.out.fr HG3.out hIB); obtain ⟨q0, q1, q2, _⟩ := blk3 (((HA.out.below HB2.out HA.out.lt).below HB5.out (by omega)).below HG3.out (Nat.lt_succ_self _)); clear hown3 hg3))
  go_ret
  exact ⟨rfl, by rw [hgb]; exact ((HB.out.trans (HB2.out.mono (by omega))).trans (HB5.out.mono (by omega))).trans ((HG3.out.mono (Nat.le_succ _)).trans (HF4.out.bel.mono (Nat.le_succ _)))⟩

set_option maxRecDepth 100000 in
set_option maxHeartbeats 8000000 in
theorem str6_sp (g4 o4 g6 o6 : Nat) (b : List UInt8) (hb16 : b.length = 16) (hm : pl.mapped b = false) (w : World) (hI : IpVars w g4 o4 g6 o6) :
    Calls Tryd.prog 96 #[.agg #[.int .u64 (pl.be (b.take 8) : Nat), .int .u64 (pl.be (b.drop 8) : Nat), .pointer (some ⟨g6, o6, none⟩)]] w fun e w' => e = .returned (.string ⟨(pl.text6 b).toArray⟩) ∧ Below w.heap.size w w' := by
  obtain ⟨i0, hi0, hz0, hz1, hz2⟩ := info_parts infoByte
  have hap0 := fun v W B h1 h2 h3 h4 => ap6_sp g4 o4 g6 o6 b hb16 v W B h1 h2 h3 h4
  have hno := pl.mapped_no b hb16 hm
  obtain ⟨hi, hhi⟩ : ∃ hi, pl.be (b.take 8) = hi := ⟨_, rfl⟩
  obtain ⟨lo, hlo⟩ : ∃ lo, pl.be (b.drop 8) = lo := ⟨_, rfl⟩
  rw [hhi, hlo] at hap0 hno ⊢
  obtain ⟨T, hT⟩ : ∃ T, pl.text6 b = T := ⟨_, rfl⟩
  rw [hT] at hap0 ⊢
  obtain ⟨gb, hgb⟩ : ∃ gb, w.heap.size = gb := ⟨_, rfl⟩
  obtain ⟨W1, hW1⟩ : ∃ W1, w.alloc (Obj.cells #[Value.int IntKind.u64 (hi : Int), Value.int IntKind.u64 (lo : Int), Value.pointer (some ⟨g6, o6, none⟩)] 119) = W1 := ⟨_, rfl⟩
  have hA : Blk W1 gb #[Value.int IntKind.u64 (hi : Int), Value.int IntKind.u64 (lo : Int), Value.pointer (some ⟨g6, o6, none⟩)] 119 := by
    rw [← hW1, ← hgb]; exact Blk.new w _ _
  have hb : Below gb w W1 := by rw [← hW1, ← hgb]; exact (Below.refl _ _).alloc (Nat.le_refl _) _
  have hsz1 : W1.heap.size = gb + 1 := by rw [← hW1, World.size_alloc, hgb]
  have hI1 := hI.below hb (by omega)
  have hIB : IpB (gb + 1) g4 g6 := hI.ipB (by omega)
  have hva : Calls Tryd.prog 100 #[.agg #[.int .u64 (hi : Int), .int .u64 (lo : Int), .pointer (some ⟨g6, o6, none⟩)]] W1 fun e w' => e = .returned (.bool true) ∧ Below W1.heap.size W1 w' := valid_sp g4 o4 g6 o6 hi lo g6 o6 W1 hI1
  have his : ∀ W, IpVars W g4 o4 g6 o6 → Calls Tryd.prog 102 #[.agg #[.int .u64 (hi : Int), .int .u64 (lo : Int), .pointer (some ⟨g6, o6, none⟩)]] W fun e w' => e = .returned (.bool false) ∧ Below W.heap.size W w' := fun W hW => by
    by_cases h0 : hi = 0
    · have hl : ((lo : Int) / 4294967296 == 65535) = false := by
        rw [beq_eq_false_iff_ne]
        rcases hno with h | h
        · exact absurd h0 h
        · omega
      rw [h0]
      exact is46_zero g4 o4 g6 o6 lo false hl W hW
    · exact is46_hi g4 o4 g6 o6 hi lo h0 W hW
  have hap : ∀ (v : Value) (W : World), Byts W (gb + 1) v [] → gb + 1 ≤ W.heap.size → IpVars W g4 o4 g6 o6 → Calls Tryd.prog 104 #[.agg #[.int .u64 (hi : Int), .int .u64 (lo : Int), .pointer (some ⟨g6, o6, none⟩)], v] W fun e w' => ∃ v', e = .returned v' ∧ Byts w' (gb + 1) v' (T) ∧ Fr (gb + 1) W w' := fun v W hv hB hW => hap0 v W (gb + 1) hW hIB hv hB
  have HVA := Lib.hid hva
  have HAP := Lib.hid hap
  have HIS := Lib.hid his
  have HA := Lib.hid hA
  have HI1 := Lib.hid hI1
  have HB := Lib.hid hb
  obtain ⟨c0, c1, c2, _⟩ := blk3 hA
  clear hva hap his hA hI1 hI hb hap0 hno hT hhi hlo hm hb16
  go_enter Tryd.func96, Tryd.ntmps96
  go_wp2_with (first
    | (go_at_call 104; refine (HAP.out _ _ HBY.out hs3 HI5.out).mono ?_; rintro e w4 ⟨v4, rfl, hv4, hf4⟩; have hconv := conv_back (P := Tryd.prog) 26 9 5 Tryd.underlying26 Tryd.underlying5 Tryd.underlying9 hv4.reads; have HF4 := Lib.hid hf4; clear hv4 hf4)
    | (go_at_call 102; refine (HIS.out _ HI2.out).mono ?_; rintro e w5 ⟨rfl, hb5⟩; have HB5 := Lib.hid hb5; have HI4 := Lib.hid (HI2.out.below hb5 (Nat.le_refl _)); have hs5 := hb5.size; obtain ⟨r0, r1, r2, _⟩ := blk3 ((HA.out.below HB2.out HA.out.lt).below hb5 (by omega)); clear hb5)
    | (go_at_call 100; refine HVA.out.mono ?_; rintro e w2 ⟨rfl, hb2⟩; have HB2 := Lib.hid hb2; have HI2 := Lib.hid (HI1.out.below hb2 (Nat.le_refl _)); have hz4 := HI2.out.z4; have he := HI2.out.eqs.2; have hs2 := hb2.size; obtain ⟨d0, d1, d2, _⟩ := blk3 (HA.out.below hb2 HA.out.lt); clear hb2)
    | (at_make; refine wpList_make_own _ rfl _ _ 26 rfl (gb + 1) 5 i0 (.int .u8 0) 1 Tryd.underlying26 hi0 hz0 hz1 _ _ _ 46 rfl rfl rfl (by rw [hz2]; omega) (by unfold maxLen; omega) (by omega) ?_; intro w3 hown3 hg3; have HBY : Hid (Byts w3 (gb + 1) (.slice (some ⟨_, 0, none⟩) 0 46) []) := Lib.hid hown3; have hs3 := Nat.le_trans (by omega : gb + 1 ≤ w5.heap.size) hg3.size; have HG3 : Hid (Below (gb + 1) w5 w3) := Lib.hid ((Below.refl (gb + 1) w5).grown hg3 (by omega) (fun k hk => by simp at hk)); have HI5 := Lib.hid (HI4.out.fr HG3.out hIB); obtain ⟨q0, q1, q2, _⟩ := blk3 (((HA.out.below HB2.out HA.out.lt).below HB5.out (by omega)).below HG3.out (Nat.lt_succ_self _)); clear hown3 hg3))
  go_ret
  exact ⟨rfl, by rw [hgb]; exact ((HB.out.trans (HB2.out.mono (by omega))).trans (HB5.out.mono (by omega))).trans ((HG3.out.mono (Nat.le_succ _)).trans (HF4.out.bel.mono (Nat.le_succ _)))⟩

theorem str_sp (g4 o4 g6 o6 : Nat) (b : List UInt8) (hb : b.length = 4 ∨ b.length = 16) (w : World) (hI : IpVars w g4 o4 g6 o6) :
    Calls Tryd.prog 96 #[adr g4 o4 g6 o6 b] w fun e w' => e = .returned (.string ⟨(pl.text b).toArray⟩) ∧ Below w.heap.size w w' := by
  rcases hb with hb | hb
  · match b, hb with
    | [x, y, z, u], _ => exact str4_sp g4 o4 g6 o6 x y z u w hI
  · have ha : adr g4 o4 g6 o6 b = .agg #[.int .u64 (pl.be (b.take 8) : Nat), .int .u64 (pl.be (b.drop 8) : Nat), .pointer (some ⟨g6, o6, none⟩)] := by
      unfold adr; rw [if_neg (by omega)]; rfl
    rw [ha]
    unfold pl.text
    rw [if_neg (by omega)]
    by_cases hm : pl.mapped b = true
    · rw [if_pos hm]
      obtain ⟨x, y, z, u, hd, h0, hl⟩ := pl.mapped_be b hb hm
      rw [hd, h0, hl]
      exact strm_sp g4 o4 g6 o6 _ x y z u rfl w hI
    · rw [if_neg hm]
      exact str6_sp g4 o4 g6 o6 b hb (by simpa using hm) w hI

end Go.Proofs.YtfkohahlpfejbaaDoor

/- Lit: WALKS: the package's parseAddr, parseLiteralIP, Literal. -/
namespace Go.Proofs.YtfkohahlpfejbaaDoor
open Go.RowKit

set_option maxRecDepth 100000 in
set_option maxHeartbeats 8000000 in
theorem par_sp (g4 o4 g6 o6 : Nat) (s : ByteArray) (w : World) (hs : s.size ≤ 2147483648) (hI : IpVars w g4 o4 g6 o6) (h37 : (37 : UInt8) ∉ s.data.toList) :
    Calls Tryd.prog 70 #[.string s] w fun e w' => IpRes g4 o4 g6 o6 w w' e (pl.addr s.data.toList) := by
  obtain ⟨g, hg⟩ : ∃ g, w.heap.size = g := ⟨_, rfl⟩
  obtain ⟨W1, hW1⟩ : ∃ W1, w.alloc (Obj.cells #[Value.int IntKind.u64 0, Value.int IntKind.u64 0, Value.pointer none] 119) = W1 := ⟨_, rfl⟩
  have hR : Blk W1 g #[Value.int IntKind.u64 0, Value.int IntKind.u64 0, Value.pointer none] 119 := by rw [← hW1, ← hg]; exact Blk.new w _ _
  have hb1 : Below g w W1 := by rw [← hW1, ← hg]; exact (Below.refl _ _).alloc (Nat.le_refl _) _
  have hI1 := hI.below hb1 (by omega)
  have h4 := pa_sp g4 o4 g6 o6 s W1 hs hI1 h37
  obtain ⟨F, hF⟩ : ∃ F, pl.addr s.data.toList = F := ⟨_, rfl⟩
  have hgl := hR.lt
  rw [hF] at h4 ⊢
  have HCALL := Lib.hid h4
  have HR := Lib.hid hR
  have HB1 := Lib.hid hb1
  clear h4 hF hR hb1 hI1 hI
  rcases F with _ | b
  · have hno : Calls Tryd.prog 93 #[.string s] W1 fun e w' => (∃ t v, e = .returned (.tuple #[.agg #[.int .u64 0, .int .u64 0, .pointer none], .iface t v])) ∧ Hid (Below W1.heap.size W1 w') := by
      refine HCALL.out.mono fun e w' ⟨hb, hr⟩ => ?_
      rcases hr with ⟨_, t, v, h⟩ | ⟨b, h, _⟩
      · exact ⟨⟨t, v, h⟩, Lib.hid hb⟩
      · cases h
    have HNO := Lib.hid hno
    clear hno
    go_enter Tryd.func70, Tryd.ntmps70
    go_wp2_with (go_at_call 93; refine HNO.out.mono ?_; rintro e w2 ⟨⟨t, v, rfl⟩, HB2⟩; obtain ⟨d0, d1, d2, k0, k1, k2⟩ := blk3 (HR.out.below HB2.out hgl))
    have hst := set3 (.int .u64 0) (.int .u64 0) (.pointer none) (HR.out.below HB2.out hgl)
    refine bodyPost_ret (results_cell_tmp_row rfl _ _ g _ _ _ _ rfl rfl hst.1 Tryd.underlying119 rfl (by kernel_rfl)) rfl ?_
    exact ⟨hg ▸ hst.2.1 g w (HB1.out.trans (HB2.out.mono (Nat.le_of_lt hgl))) (Nat.le_refl _), .inl ⟨rfl, _, _, rfl⟩⟩
  · obtain ⟨hi, lo, gz, oz, hadr⟩ := adr_cells g4 o4 g6 o6 b
    have hyes : Calls Tryd.prog 93 #[.string s] W1 fun e w' => e = .returned (.tuple #[.agg #[.int .u64 (hi : Int), .int .u64 (lo : Int), .pointer (some ⟨gz, oz, none⟩)], .nilIface]) ∧ Hid (Below W1.heap.size W1 w') ∧ Hid (b.length = 4 ∨ b.length = 16) := by
      refine HCALL.out.mono fun e w' ⟨hb, hr⟩ => ?_
      rcases hr with ⟨h, _⟩ | ⟨b', h, hl, he⟩
      · cases h
      · injection h with h
        subst h
        rw [hadr] at he
        exact ⟨he, Lib.hid hb, Lib.hid hl⟩
    have HYES := Lib.hid hyes
    have HADR := Lib.hid hadr
    clear hyes hadr
    go_enter Tryd.func70, Tryd.ntmps70
    go_wp2_with (go_at_call 93; refine HYES.out.mono ?_; rintro e w2 ⟨rfl, HB2, HLB⟩; obtain ⟨d0, d1, d2, k0, k1, k2⟩ := blk3 (HR.out.below HB2.out hgl))
    have hst := set3 (.int .u64 (hi : Int)) (.int .u64 (lo : Int)) (.pointer (some ⟨gz, oz, none⟩)) (HR.out.below HB2.out hgl)
    refine bodyPost_ret (results_cell_tmp_row rfl _ _ g _ _ _ _ rfl rfl hst.1 Tryd.underlying119 rfl (by kernel_rfl)) rfl ?_
    exact ⟨hg ▸ hst.2.1 g w (HB1.out.trans (HB2.out.mono (Nat.le_of_lt hgl))) (Nat.le_refl _), .inr ⟨b, rfl, HLB.out, by rw [HADR.out]; rfl⟩⟩

/-- the own form of a literal address, or nothing -/
def pl.lit (s : List UInt8) : List UInt8 := match pl.addr s with
  | some b => pl.text b
  | none => []

set_option maxRecDepth 100000 in
set_option maxHeartbeats 8000000 in
theorem plip_sp (g4 o4 g6 o6 : Nat) (s : ByteArray) (w : World) (hs : s.size ≤ 2147483648) (hI : IpVars w g4 o4 g6 o6) (h37 : (37 : UInt8) ∉ s.data.toList) :
    Calls Tryd.prog 79 #[.string s] w fun e w' => e = .returned (.string ⟨(pl.lit s.data.toList).toArray⟩) ∧ Below w.heap.size w w' := by
  have h4 := par_sp g4 o4 g6 o6 s w hs hI h37
  unfold pl.lit
  generalize pl.addr s.data.toList = F at h4 ⊢
  rcases F with _ | b
  · have hno : Calls Tryd.prog 70 #[.string s] w fun e w' => (∃ t v, e = .returned (.tuple #[.agg #[.int .u64 0, .int .u64 0, .pointer none], .iface t v])) ∧ Hid (Below w.heap.size w w') := by
      refine h4.mono fun e w' ⟨hb, hr⟩ => ?_
      rcases hr with ⟨_, t, v, h⟩ | ⟨b, h, _⟩
      · exact ⟨⟨t, v, h⟩, Lib.hid hb⟩
      · cases h
    have HNO := Lib.hid hno
    clear hno h4 hI
    go_enter Tryd.func79, Tryd.ntmps79
    go_wp2_with (go_at_call 70; refine HNO.out.mono ?_; rintro e w2 ⟨⟨t, v, rfl⟩, HB2⟩)
    go_ret
    exact ⟨rfl, HB2.out.alloc HB2.out.size _⟩
  · obtain ⟨hi, lo, gz, oz, hadr⟩ := adr_cells g4 o4 g6 o6 b
    have hyes : Calls Tryd.prog 70 #[.string s] w fun e w' => e = .returned (.tuple #[.agg #[.int .u64 (hi : Int), .int .u64 (lo : Int), .pointer (some ⟨gz, oz, none⟩)], .nilIface]) ∧ Hid (Below w.heap.size w w') ∧ Hid (b.length = 4 ∨ b.length = 16) := by
      refine h4.mono fun e w' ⟨hb, hr⟩ => ?_
      rcases hr with ⟨h, _⟩ | ⟨b', h, hl, he⟩
      · cases h
      · injection h with h
        subst h
        rw [hadr] at he
        exact ⟨he, Lib.hid hb, Lib.hid hl⟩
    have hstr : ∀ W, b.length = 4 ∨ b.length = 16 → Below w.heap.size w W → Calls Tryd.prog 96 #[.agg #[.int .u64 (hi : Int), .int .u64 (lo : Int), .pointer (some ⟨gz, oz, none⟩)]] W fun e w' => e = .returned (.string ⟨(pl.text b).toArray⟩) ∧ Below W.heap.size W w' := fun W hl hb => by
      rw [← hadr]; exact str_sp g4 o4 g6 o6 b hl W (hI.below hb (Nat.le_refl _))
    obtain ⟨T, hT⟩ : ∃ T, pl.text b = T := ⟨_, rfl⟩
    simp only [hT]
    rw [hT] at hstr
    have HYES := Lib.hid hyes
    have HSTR := Lib.hid hstr
    clear hyes hstr h4 hI hadr hT
    go_enter Tryd.func79, Tryd.ntmps79
    go_wp2_with (first
      | (go_at_call 96; have HB3 := Lib.hid (HB2.out.alloc HB2.out.size (Obj.cells #[.int .u64 (hi : Int), .int .u64 (lo : Int), .pointer (some ⟨gz, oz, none⟩)] 119)); refine (HSTR.out _ HLB.out HB3.out).mono ?_; rintro e w3 ⟨rfl, hb3⟩; have HB4 := Lib.hid (HB3.out.trans (hb3.mono HB3.out.size)); clear hb3)
      | (go_at_call 70; refine HYES.out.mono ?_; rintro e w2 ⟨rfl, HB2, HLB⟩))
    go_ret
    exact ⟨rfl, HB4.out⟩

set_option maxRecDepth 100000 in
set_option maxHeartbeats 8000000 in
theorem plit_sp (g4 o4 g6 o6 : Nat) (s : ByteArray) (w : World) (hs : s.size ≤ 2147483648) (hI : IpVars w g4 o4 g6 o6) (h37 : (37 : UInt8) ∉ s.data.toList) :
    Calls Tryd.prog 57 #[.string s] w fun e w' => e = .returned (.string ⟨(pl.lit s.data.toList).toArray⟩) ∧ Below w.heap.size w w' := by
  have h4 := plip_sp g4 o4 g6 o6 s w hs hI h37
  obtain ⟨T, hT⟩ : ∃ T, pl.lit s.data.toList = T := ⟨_, rfl⟩
  rw [hT] at h4 ⊢
  have H4 := Lib.hid h4
  clear h4 hT hI
  go_enter Tryd.func57, Tryd.ntmps57
  go_wp2_with (go_at_call 79; refine H4.out.mono ?_; rintro e w2 ⟨rfl, hb⟩)
  go_ret
  exact ⟨rfl, hb⟩
set_option maxRecDepth 100000 in
set_option maxHeartbeats 8000000 in
theorem ilit_sp (g4 o4 g6 o6 : Nat) (s : ByteArray) (w : World) (hs : s.size ≤ 2147483648) (hI : IpVars w g4 o4 g6 o6) (h37 : (37 : UInt8) ∉ s.data.toList) :
    Calls Tryd.prog 36 #[.string s] w fun e w' => e = .returned (.string ⟨(pl.lit s.data.toList).toArray⟩) ∧ Below w.heap.size w w' := by
  have h4 := plit_sp g4 o4 g6 o6 s w hs hI h37
  obtain ⟨T, hT⟩ : ∃ T, pl.lit s.data.toList = T := ⟨_, rfl⟩
  rw [hT] at h4 ⊢
  have H4 := Lib.hid h4
  clear h4 hT hI
  go_enter Tryd.func36, Tryd.ntmps36
  go_wp2_with (go_at_call 57; refine H4.out.mono ?_; rintro e w2 ⟨rfl, hb⟩)
  go_ret
  exact ⟨rfl, hb⟩

end Go.Proofs.YtfkohahlpfejbaaDoor

/- Number: WALK: the reference's number. -/
namespace Go.Proofs.YtfkohahlpfejbaaDoor
open Go.RowKit

theorem pl.hx_ext (n : Nat) (h : n < 16) (S : ByteArray) : ((⟨#[48, 49, 50, 51, 52, 53, 54, 55, 56, 57, 97, 98, 99, 100, 101, 102]⟩ : ByteArray).extract n (n + 1) ++ S).data.toList = pl.hx n :: S.data.toList := by
  have := pl.hx_slice n h
  have e : (⟨#[48, 49, 50, 51, 52, 53, 54, 55, 56, 57, 97, 98, 99, 100, 101, 102]⟩ : ByteArray) = pl.hexd := rfl
  rw [e, ByteArray.data_append, Array.toList_append, this]
  rfl

theorem pow_half (m k b : Nat) (hb : 2 ≤ b) (hm : m < 2 ^ (64 - k)) (hk : k ≤ 64) (h : 0 < m ∨ k = 0) : k + 1 ≤ 64 ∧ m / b < 2 ^ (64 - (k + 1)) := by
  have hk1 : k + 1 ≤ 64 := by
    rcases h with h | h
    · rcases Nat.lt_or_ge k 64 with h' | h'
      · exact h'
      · rw [show 64 - k = 0 by omega, Nat.pow_zero] at hm
        omega
    · omega
  refine ⟨hk1, ?_⟩
  have h2 : m / b ≤ m / 2 := Nat.div_le_div_left hb (by omega)
  have e : 64 - k = 64 - (k + 1) + 1 := by omega
  rw [e, Nat.pow_succ] at hm
  omega

set_option maxHeartbeats 2000000 in
theorem num_10 (n : Nat) (w : World) (hn : n < 9223372036854775808) :
    Calls Tryd.prog 55 #[.int .i64 (n : Int), .int .i64 10] w fun e w' => e = .returned (.string ⟨(pl.num 10 n).toArray⟩) ∧ ∃ k, w' = w.drewN k := by
  go_enter Tryd.func55, Tryd.ntmps55
  go_wp2_with fail
  go_loopw [0, 5] (fun nv sv wr => ∃ (m k : Nat) (S : ByteArray), nv = .int .i64 m ∧ sv = .string S ∧ wr = w.drewN k ∧ m ≤ n ∧ Hid (pl.numHead 10 n m S.data.toList) ∧ S.size ≤ 64 ∧ Hid (m < 2 ^ (64 - S.size))) (fun nv sv _ => 2 * (intOf nv).toNat + (match sv with | .string S => (if S.size = 0 then 1 else 0) | _ => 0))
  case atStart => exact ⟨n, 0, _, rfl, rfl, rfl, Nat.le_refl _, Lib.hid (.inl ⟨rfl, rfl⟩), by simp [ByteArray.size], Lib.hid (by show n < 2 ^ 64; omega)⟩
  case round =>
    obtain ⟨m, k, S, rfl, rfl, rfl, hm, HH, hsz, HP⟩ := hrel
    have t1 : Int.tmod (m : Int) 10 = ((m % 10 : Nat) : Int) := by rw [Int.tmod_eq_emod_of_nonneg (by omega)]; omega
    have t2 : Int.tdiv (m : Int) 10 = ((m / 10 : Nat) : Int) := by rw [Int.tdiv_eq_ediv_of_nonneg (by omega)]; omega
    obtain ⟨q, hq⟩ : ∃ q, m / 10 = q := ⟨_, rfl⟩
    obtain ⟨r, hr⟩ : ∃ r, m % 10 = r := ⟨_, rfl⟩
    have hr16 : r < 16 := by omega
    have hqm : 2 * q ≤ m := by omega
    rw [hr] at t1
    rw [hq] at t2
    have HQ := Lib.hid hq
    have HR := Lib.hid hr
    clear hq hr
    by_cases hgo : 0 < m ∨ S.size = 0
    · have hst := pl.numHead_step 10 n m S.data.toList (by decide) (by omega) HH.out (by rcases hgo with h | h; exact .inl h; exact .inr (pl.nil_of S h))
      obtain ⟨hp1, hp2⟩ := pow_half m S.size 10 (by decide) HP.out hsz hgo
      rw [HQ.out, HR.out, ← pl.hx_ext r hr16 S] at hst
      rw [HQ.out] at hp2
      have HST := Lib.hid hst
      have HP2 := Lib.hid hp2
      have hsz2 : ((⟨#[48, 49, 50, 51, 52, 53, 54, 55, 56, 57, 97, 98, 99, 100, 101, 102]⟩ : ByteArray).extract r (r + 1) ++ S).size = S.size + 1 := by
        exact congrArg List.length (pl.hx_ext r hr16 S)
      have HS2 := Lib.hid hsz2
      clear hst hp2 hsz2
      rcases Nat.eq_zero_or_pos m with h0 | h0
      · subst h0
        have hs0 : S.size = 0 := by omega
        have he := pl.emp_of S hs0
        have HS0 := Lib.hid hs0
        have hq0 : q = 0 := by have := HQ.out; omega
        have hr0 : r = 0 := by have := HR.out; omega
        subst hq0
        subst hr0
        have HST2 : Hid (pl.numHead 10 n 0 ((⟨#[48, 49, 50, 51, 52, 53, 54, 55, 56, 57, 97, 98, 99, 100, 101, 102]⟩ : ByteArray).extract 0 1 ++ S).data.toList) := HST
        have HS3 : Hid (((⟨#[48, 49, 50, 51, 52, 53, 54, 55, 56, 57, 97, 98, 99, 100, 101, 102]⟩ : ByteArray).extract 0 1 ++ S).size = S.size + 1) := HS2
        clear hgo hs0
        go_wp2_with fail
        go_quiet (fail)
        go_wp2_with fail
        refine ⟨⟨0, _, _, rfl, rfl, rfl, by omega, HST2, by rw [HS3.out]; omega, Lib.hid (Nat.two_pow_pos _)⟩, ?_⟩
        show 2 * 0 + (if ((⟨#[48, 49, 50, 51, 52, 53, 54, 55, 56, 57, 97, 98, 99, 100, 101, 102]⟩ : ByteArray).extract 0 1 ++ S).size = 0 then 1 else 0) < 2 * 0 + (if S.size = 0 then 1 else 0)
        rw [if_neg (by rw [HS3.out]; omega), if_pos HS0.out]
        omega
      · have h0' : (0 : Int) < (m : Int) := by omega
        clear hgo
        go_wp2_with fail
        go_quiet (fail)
        go_wp2_with fail
        go_roundw
        case rel => exact ⟨q, _, _, by go_num, rfl, rfl, by omega, HST, by rw [HS2.out]; omega, Lib.hid (by rw [HS2.out]; exact HP2.out)⟩
        case measure =>
          show 2 * ((q : Int)).toNat + (if _ = 0 then 1 else 0) < 2 * ((m : Int)).toNat + (if S.size = 0 then 1 else 0)
          rw [if_neg (by rw [HS2.out]; omega)]
          omega
    · have h0 : m = 0 := by omega
      have hs0 : S.size ≠ 0 := by omega
      subst h0
      have he := pl.ne_empty S hs0
      have hend := pl.numHead_end 10 n S.data.toList HH.out (pl.data_ne S hs0)
      have HE := Lib.hid hend
      clear hgo hs0 hend
      go_wp2_with fail
      go_ret
      exact ⟨ret_str (by rw [← HE.out]), _, rfl⟩

set_option maxHeartbeats 2000000 in
theorem num_16 (n : Nat) (w : World) (hn : n < 9223372036854775808) :
    Calls Tryd.prog 55 #[.int .i64 (n : Int), .int .i64 16] w fun e w' => e = .returned (.string ⟨(pl.num 16 n).toArray⟩) ∧ ∃ k, w' = w.drewN k := by
  go_enter Tryd.func55, Tryd.ntmps55
  go_wp2_with fail
  go_loopw [0, 5] (fun nv sv wr => ∃ (m k : Nat) (S : ByteArray), nv = .int .i64 m ∧ sv = .string S ∧ wr = w.drewN k ∧ m ≤ n ∧ Hid (pl.numHead 16 n m S.data.toList) ∧ S.size ≤ 64 ∧ Hid (m < 2 ^ (64 - S.size))) (fun nv sv _ => 2 * (intOf nv).toNat + (match sv with | .string S => (if S.size = 0 then 1 else 0) | _ => 0))
  case atStart => exact ⟨n, 0, _, rfl, rfl, rfl, Nat.le_refl _, Lib.hid (.inl ⟨rfl, rfl⟩), by simp [ByteArray.size], Lib.hid (by show n < 2 ^ 64; omega)⟩
  case round =>
    obtain ⟨m, k, S, rfl, rfl, rfl, hm, HH, hsz, HP⟩ := hrel
    have t1 : Int.tmod (m : Int) 16 = ((m % 16 : Nat) : Int) := by rw [Int.tmod_eq_emod_of_nonneg (by omega)]; omega
    have t2 : Int.tdiv (m : Int) 16 = ((m / 16 : Nat) : Int) := by rw [Int.tdiv_eq_ediv_of_nonneg (by omega)]; omega
    obtain ⟨q, hq⟩ : ∃ q, m / 16 = q := ⟨_, rfl⟩
    obtain ⟨r, hr⟩ : ∃ r, m % 16 = r := ⟨_, rfl⟩
    have hr16 : r < 16 := by omega
    have hqm : 2 * q ≤ m := by omega
    rw [hr] at t1
    rw [hq] at t2
    have HQ := Lib.hid hq
    have HR := Lib.hid hr
    clear hq hr
    by_cases hgo : 0 < m ∨ S.size = 0
    · have hst := pl.numHead_step 16 n m S.data.toList (by decide) (by omega) HH.out (by rcases hgo with h | h; exact .inl h; exact .inr (pl.nil_of S h))
      obtain ⟨hp1, hp2⟩ := pow_half m S.size 16 (by decide) HP.out hsz hgo
      rw [HQ.out, HR.out, ← pl.hx_ext r hr16 S] at hst
      rw [HQ.out] at hp2
      have HST := Lib.hid hst
      have HP2 := Lib.hid hp2
      have hsz2 : ((⟨#[48, 49, 50, 51, 52, 53, 54, 55, 56, 57, 97, 98, 99, 100, 101, 102]⟩ : ByteArray).extract r (r + 1) ++ S).size = S.size + 1 := by
        exact congrArg List.length (pl.hx_ext r hr16 S)
      have HS2 := Lib.hid hsz2
      clear hst hp2 hsz2
      rcases Nat.eq_zero_or_pos m with h0 | h0
      · subst h0
        have hs0 : S.size = 0 := by omega
        have he := pl.emp_of S hs0
        have HS0 := Lib.hid hs0
        have hq0 : q = 0 := by have := HQ.out; omega
        have hr0 : r = 0 := by have := HR.out; omega
        subst hq0
        subst hr0
        have HST2 : Hid (pl.numHead 16 n 0 ((⟨#[48, 49, 50, 51, 52, 53, 54, 55, 56, 57, 97, 98, 99, 100, 101, 102]⟩ : ByteArray).extract 0 1 ++ S).data.toList) := HST
        have HS3 : Hid (((⟨#[48, 49, 50, 51, 52, 53, 54, 55, 56, 57, 97, 98, 99, 100, 101, 102]⟩ : ByteArray).extract 0 1 ++ S).size = S.size + 1) := HS2
        clear hgo hs0
        go_wp2_with fail
        go_quiet (fail)
        go_wp2_with fail
        refine ⟨⟨0, _, _, rfl, rfl, rfl, by omega, HST2, by rw [HS3.out]; omega, Lib.hid (Nat.two_pow_pos _)⟩, ?_⟩
        show 2 * 0 + (if ((⟨#[48, 49, 50, 51, 52, 53, 54, 55, 56, 57, 97, 98, 99, 100, 101, 102]⟩ : ByteArray).extract 0 1 ++ S).size = 0 then 1 else 0) < 2 * 0 + (if S.size = 0 then 1 else 0)
        rw [if_neg (by rw [HS3.out]; omega), if_pos HS0.out]
        omega
      · have h0' : (0 : Int) < (m : Int) := by omega
        clear hgo
        go_wp2_with fail
        go_quiet (fail)
        go_wp2_with fail
        go_roundw
        case rel => exact ⟨q, _, _, by go_num, rfl, rfl, by omega, HST, by rw [HS2.out]; omega, Lib.hid (by rw [HS2.out]; exact HP2.out)⟩
        case measure =>
          show 2 * ((q : Int)).toNat + (if _ = 0 then 1 else 0) < 2 * ((m : Int)).toNat + (if S.size = 0 then 1 else 0)
          rw [if_neg (by rw [HS2.out]; omega)]
          omega
    · have h0 : m = 0 := by omega
      have hs0 : S.size ≠ 0 := by omega
      subst h0
      have he := pl.ne_empty S hs0
      have hend := pl.numHead_end 16 n S.data.toList HH.out (pl.data_ne S hs0)
      have HE := Lib.hid hend
      clear hgo hs0 hend
      go_wp2_with fail
      go_ret
      exact ⟨ret_str (by rw [← HE.out]), _, rfl⟩

end Go.Proofs.YtfkohahlpfejbaaDoor
