/-
  WALKS: lookupStaticAddr, lookupStaticHost.
-/
import Derived.Test.YtfkohahlpfejbaaDoorRh1
import Derived.Laws.CopyOwn
namespace Go.Proofs.YtfkohahlpfejbaaDoor
open Go.RowKit

set_option maxRecDepth 100000 in
/-- copy(d, s) of strings, d as long as s -/
theorem copy_strs {ops : Array Oper} {rest : List Oper} {o : Oper} {a : Act} {Q : Exit → Act → World → Prop} {wr : World} {dv sv : Value} {l l0 : List (List UInt8)}
    (hgd : o.guard = none) (d s : Operand) (ho : o.op = .call { callee := .builtin .copy, args := #[d, s], argTypes := #[31, 31] }) (hd : a.eval d = dv) (hs : a.eval s = sv) (B : Nat) (hown : Strs wr B dv l0) (hl : l0.length = l.length) (hpos : 0 < l.length) (hr : RdS wr sv l)
    (h : ∀ w', Strs w' B dv l → (∀ B0 w0, Below B0 w0 wr → B0 ≤ B → Below B0 w0 w') → wpList Tryd.prog ops Q rest (a.put o.dst (goInt l.length)) w') : wpList Tryd.prog ops Q (o :: rest) a wr := by
  obtain ⟨sa, sc, rfl, _, _, hsc⟩ := hr
  obtain ⟨sg, so, rfl, _, _⟩ := hsc 0 _ (List.getElem?_eq_getElem hpos)
  rcases hown.2 with ⟨_, hn⟩ | ⟨g, cap, cur, rfl, hB, hh, h1, h2, h3, h4⟩
  · omega
  · have hsz : (Tryd.prog.info? 9).map (·.size) = some 1 := by kernel_rfl
    have hcs : (l.map pl.strV).length = l.length := by simp
    have hcur : cur.size = cap := by omega
    refine wpList_copy_own hgd d s 31 31 ho 9 Tryd.underlying31 hsz g 0 l0.length cap ⟨sg, so, none⟩ l.length sc hd hs cur 9 hh (l.map pl.strV) (by rw [hcs, hl]; simp) (fun j v hj => by
      rw [List.getElem?_map, Option.map_eq_some_iff] at hj
      obtain ⟨p, hp, rfl⟩ := hj
      obtain ⟨g', o', e1, _, hc⟩ := hsc j p hp
      injection e1 with e1
      injection e1 with e2 e3
      subst e2 e3
      rw [Addr.add_lit]
      exact hc) (by rw [hcs]; omega) (fun v hv => by
      obtain ⟨p, _, rfl⟩ := List.mem_map.1 hv
      rfl) ?_
    rw [hcs]
    refine h _ ?_ (fun B0 w0 hb hB0 => below_setRow hb (Nat.le_trans hB0 hB) _)
    have hlen : (l.map pl.strV ++ cur.toList.drop l.length).length = cap := by
      have h5 : l.length ≤ cap := by rw [← hl]; exact h1
      simp only [List.length_append, List.length_drop, List.length_map, Array.length_toList]
      omega
    refine ⟨by simp, .inr ⟨g, cap, (l.map pl.strV ++ cur.toList.drop l.length).toArray, by rw [hl], hB, ?_, (by rw [← hl]; exact h1), h2, by simpa using hlen, ?_⟩⟩
    · have := setRow_heap wr g cur (cur.toList.take 0 ++ ((l.map pl.strV) ++ cur.toList.drop (0 + l.length))).toArray 9 (0, 0) hh
      simpa using this
    · show (l.map pl.strV ++ cur.toList.drop l.length).take (l.length * 1) = _
      rw [Nat.mul_one, ← hcs, List.take_left]

/-- the length of a map -/
theorem MapF.size {P : Program} {k : TypeId} {w : World} {b n : Nat} {f : Key → Option Value} (h : MapF P k w b n f) : ∃ es clock, w.heap[b]? = some (.map es clock) ∧ es.size ≤ n ∧ (es.size = 0 → ∀ x, f x = none) := by
  obtain ⟨D, ⟨es, clock, hb, F, hs, rfl⟩, h2⟩ := h
  refine ⟨es, clock, hb, hs, fun h0 x => ?_⟩
  have he : es = #[] := Array.eq_empty_of_size_eq_zero h0
  cases hf : f x with
  | none => rfl
  | some v =>
    have := (h2.2 x).1 v hf .nil
    rw [he] at this
    cases this

theorem pl.lit_len' (p : List UInt8) : (pl.lit p).length ≤ 100 := by
  unfold pl.lit
  cases h : pl.addr p with
  | none => simp
  | some b => exact pl.text_len b (pl.addr_len _ _ h)

theorem MapF.size_ne {P : Program} {k : TypeId} {w : World} {b n : Nat} {f : Key → Option Value} (h : MapF P k w b n f) (x : Key) (v : Value) (hx : f x = some v) : ∃ es clock, w.heap[b]? = some (.map es clock) ∧ ((es.size : Int) != 0) = true := by
  obtain ⟨es, clock, h1, _, h3⟩ := h.size
  refine ⟨es, clock, h1, ?_⟩
  rw [bne_iff_ne]
  intro h0
  have h4 := h3 (by omega) x
  rw [hx] at h4
  cases h4

set_option maxRecDepth 100000 in
set_option maxHeartbeats 4000000 in
theorem lsa_sp (g4 o4 g6 o6 : Nat) (w : World) (gt bh bi n B : Nat) (H : HSt) (I : ISt) (X : Nat → Prop) (ad : List UInt8) (hT : TbE w B bh bi n H I X) (hK : Blk w gt #[.map (some bh), .map (some bi)] 140) (hI : IpVars w g4 o4 g6 o6)
    (h37 : (37 : UInt8) ∉ ad) (hle : (pl.lit ad).isEmpty = false) (hal : ad.length ≤ 2147483647) (hln : (I (pl.lit ad)).length ≤ 1000000) :
    Calls Tryd.prog 65 #[.pointer (some ⟨gt, 0, none⟩), .string ⟨ad.toArray⟩] w fun e w' => ∃ v, e = .returned v ∧ Hid (Strs w' w.heap.size v (I (pl.lit ad))) ∧ Hid (Below w.heap.size w w') := by
  have hpl : Calls Tryd.prog 79 #[.string ⟨ad.toArray⟩] w fun e w' => e = .returned (.string ⟨(pl.lit ad).toArray⟩) ∧ Below w.heap.size w w' := plip_sp g4 o4 g6 o6 ⟨ad.toArray⟩ w (by show ad.length ≤ _; omega) hI h37
  have HPL := Lib.hid hpl
  have HT := Lib.hid hT
  have HK := Lib.hid hK
  clear hpl hT hK hI h37 hal
  have hsz : (⟨(pl.lit ad).toArray⟩ : ByteArray).size ≤ maxLen := by
    have h1 := pl.lit_len' ad
    show (pl.lit ad).length ≤ maxLen
    unfold maxLen; omega
  have HSZ := Lib.hid hsz
  clear hsz
  obtain ⟨i0, hi, hz0, hz1, hz2⟩ := info_parts infoStr
  obtain ⟨LL, hLL⟩ : ∃ LL, I (pl.lit ad) = LL := ⟨_, rfl⟩
  have HLL := Lib.hid hLL
  rw [hLL] at hln ⊢
  clear hLL
  by_cases hn : LL = []
  · subst hn
    clear hln
    go_enter Tryd.func65, Tryd.ntmps65
    go_wp2_with (first
      | (go_at_call 79; refine HPL.out.mono ?_; rintro e w2 ⟨rfl, hb2⟩; have HK2 := HK.out.below hb2 HK.out.lt; have c0 : w2.cell? ⟨gt, 0, none⟩ = some (.map (some bh)) := HK2.cell 0; have c1 : w2.cell? ⟨gt, 1, none⟩ = some (.map (some bi)) := HK2.cell 1; obtain ⟨fh, fi, gh, gi, hTb⟩ := HT.out.below hb2; have HTB := Lib.hid hTb; have hfi := hTb.pi.no (pl.lit ad) HLL.out; obtain ⟨es, clock, hes, _, _⟩ := hTb.mi.size; have hlen := run_len_map (P := Tryd.prog) (w := w2) 134 3 bi es clock (by kernel_rfl) hes; have HFI := Lib.hid hfi; have HB2 := Lib.hid hb2; clear HK2 hTb hb2 hes hfi)
      | (at_lookup; refine wpList_look _ rfl _ _ 134 true rfl 9 31 Tryd.underlying9 Tryd.underlying134 bi n fi (.slice none 0 0) (zero_ss _) rfl HTB.out.mi ⟨(pl.lit ad).toArray⟩ HSZ.out rfl none HFI.out ?_))
    all_goals go_ret
    all_goals exact ⟨_, rfl, Lib.hid (Strs.nil _ _), HB2⟩
  · have HN := Lib.hid hn
    clear hn
    go_enter Tryd.func65, Tryd.ntmps65
    go_wp2_with (first
      | (go_at_call 79; refine HPL.out.mono ?_; rintro e w2 ⟨rfl, hb2⟩; have HK2 := HK.out.below hb2 HK.out.lt; have c0 : w2.cell? ⟨gt, 0, none⟩ = some (.map (some bh)) := HK2.cell 0; have c1 : w2.cell? ⟨gt, 1, none⟩ = some (.map (some bi)) := HK2.cell 1; obtain ⟨fh, fi, gh, gi, hTb⟩ := HT.out.below hb2; have HTB := Lib.hid hTb; obtain ⟨ci, hfi, hsi⟩ := hTb.pi.yes (pl.lit ad) (by rw [HLL.out]; exact HN.out); rw [HLL.out] at hfi hsi; unfold wrapI at hfi; obtain ⟨es, clock, hes, hne⟩ := hTb.mi.size_ne _ _ hfi; have hlen := run_len_map (P := Tryd.prog) (w := w2) 134 3 bi es clock (by kernel_rfl) hes; have HFI := Lib.hid hfi; have HSI := Lib.hid hsi; have HB2 := Lib.hid hb2; clear HK2 hTb hb2 hes hfi hsi)
      | (at_lookup; refine wpList_look _ rfl _ _ 134 true rfl 9 31 Tryd.underlying9 Tryd.underlying134 bi n fi (.slice none 0 0) (zero_ss _) rfl HTB.out.mi ⟨(pl.lit ad).toArray⟩ HSZ.out rfl _ HFI.out ?_)
      | (at_make; refine wpList_make_full _ rfl _ _ 31 rfl w2.heap.size 9 i0 (.string ⟨#[]⟩) 1 Tryd.underlying31 hi hz0 hz1 _ _ _ _ LL.length rfl rfl rfl rfl (by rw [hz2]; omega) (by unfold maxLen; omega) (Nat.le_refl _) ?_))
    intro w3 hown3 hg3
    have hmade : Strs w3 w2.heap.size (.slice (some ⟨w2.heap.size, 0, none⟩) LL.length LL.length) (List.replicate LL.length []) := by
      unfold Strs
      rw [List.length_replicate, List.map_replicate]
      have e : (madeCells #[Value.string ⟨#[]⟩] LL.length).toList = List.replicate LL.length (pl.strV []) := toList_madeCells_one _ _
      rw [e] at hown3
      exact hown3
    have hb3 : Below w2.heap.size w2 w3 := (Below.refl _ _).grown hg3 (Nat.le_refl _) (fun k hk => by cases hk)
    have hsrc := RdS.of_strs (HSI.out.below hb3)
    have hpos : 0 < LL.length := by
      rcases Nat.eq_zero_or_pos LL.length with h0 | h0
      · exact absurd (List.eq_nil_of_length_eq_zero h0) HN.out
      · exact h0
    have HREP : Hid ((List.replicate LL.length ([] : List UInt8)).length = LL.length) := Lib.hid (by simp)
    have HMADE := Lib.hid hmade
    have HB3 := Lib.hid hb3
    have HSRC := Lib.hid hsrc
    clear hmade hb3 hsrc hown3 hg3
    go_wp2_with (refine copy_strs (l := LL) (l0 := List.replicate LL.length []) rfl (.tmp 31) (.tmp 32) rfl rfl rfl w2.heap.size HMADE.out HREP.out hpos HSRC.out ?_)
    intro w4 hs4 hb4
    go_wp2_with fail
    go_ret
    exact ⟨_, rfl, Lib.hid (hs4.mono HB2.out.size), Lib.hid (hb4 _ _ (HB2.out.trans (HB3.out.mono HB2.out.size)) HB2.out.size)⟩

end Go.Proofs.YtfkohahlpfejbaaDoor
