/-
  WALK: ServicePort.
-/
import Derived.Test.YtabeklpllphiaaaSvR
namespace Go.Proofs.Ytabeklpllphiaaa
open Go.RowKit

/-- 'T[p][s]' with the inner map at hand, nil or not -/
theorem wpList_look_in {ops : Array Oper} {rest : List Oper} {o : Oper} {a : Act} {Q : Exit → Act → World → Prop} {w : World} {bo n : Nat} {T : TabF} {g : Key → Option Nat} (hT : Tbl w bo n T g)
    (hgd : o.guard = none) (m x : Operand) (hop : o.op = Op.lookup 90 m x true) (p : Key) (mv : Value) (hm : a.eval m = mv) (hmv : ((g p).map (fun b => Value.map (some b))).getD (.map none) = mv)
    (s : ByteArray) (hs : s.size ≤ maxLen) (hx : a.eval x = .string s) (v : Option Int) (hv : T p s.data.toList = v)
    (hK : wpList Try.prog ops Q rest (a.put o.dst (.tuple #[.int .i64 (v.getD 0), .bool v.isSome])) w) : wpList Try.prog ops Q (o :: rest) a w := by
  cases hg : g p with
  | none =>
    have hn := hT.non p hg s.data.toList
    rw [hn] at hv
    subst hv
    rw [hg] at hmv
    refine wpList_look_nil w hgd m x _ true hop 9 3 Try.underlying9 Try.underlying90 (.int .i64 0) (zero_i w) (by rw [hm, ← hmv]; rfl) s hs hx ?_
    exact hK
  | some b =>
    rw [hg] at hmv
    refine wpList_look w hgd m x _ true hop 9 3 Try.underlying9 Try.underlying90 b n _ (.int .i64 0) (zero_i w) (by rw [hm, ← hmv]; rfl) (hT.inn p b hg) s hs hx (v.map (fun v => Value.int .i64 v)) (by simp only [hv]) ?_
    cases v with
    | none => exact hK
    | some z => exact hK

set_option maxRecDepth 100000 in
set_option maxHeartbeats 2000000 in
theorem sport_sp (l : SvcL) (pr nm : Key) (o : Option Int) (w : World) (S : List Key) (hS : pl.chkS l [] = some S) (hl : ∀ s ∈ l, SvLine s) (hn : l.length ≤ 100) (h1 : pr.length ≤ 2147483647) (h2 : nm.length ≤ 2147483647) (ho : pl.portOf l pr nm = o) :
    Calls Try.prog 27 #[.string ⟨(pl.svText l).toArray⟩, .string ⟨pr.toArray⟩, .string ⟨nm.toArray⟩] w fun e w' => e = .returned (.tuple #[.int .i64 (o.getD 0), .bool o.isSome]) ∧ Hid (Below w.heap.size w w') := by
  have hrs := rs_sp l w (w.alloc (.cells #[.string ⟨(pl.svText l).toArray⟩] 95)) hl hn ((Below.refl _ _).alloc (Nat.le_refl _) _) (by rw [pl.svText_ls]; exact Blk.new w _ _)
  rw [← pl.tab_port l S hS] at ho
  obtain ⟨PB, hPB⟩ : ∃ PB : ByteArray, (⟨pr.toArray⟩ : ByteArray) = PB := ⟨_, rfl⟩
  obtain ⟨NB, hNB⟩ : ∃ NB : ByteArray, (⟨nm.toArray⟩ : ByteArray) = NB := ⟨_, rfl⟩
  have hPd : PB.data.toList = pr := by rw [← hPB]
  have hNd : NB.data.toList = nm := by rw [← hNB]
  have hPs : PB.size ≤ maxLen := by rw [← hPB]; show pr.length ≤ maxLen; unfold maxLen; omega
  have hNs : NB.size ≤ maxLen := by rw [← hNB]; show nm.length ≤ maxLen; unfold maxLen; omega
  rw [hPB, hNB]
  have HRS := Lib.hid hrs
  have HO := Lib.hid ho
  have HPD := Lib.hid hPd
  have HND := Lib.hid hNd
  have HPS := Lib.hid hPs
  have HNS := Lib.hid hNs
  clear hrs ho hPd hNd hPs hNs hPB hNB hl hS h1 h2
  go_enter Try.func27, Try.ntmps27
  go_wp2_with (first
    | (go_at_call 37; refine HRS.out.mono ?_; rintro e w2 ⟨bo, n, rfl, HT, HB⟩; obtain ⟨g, hT⟩ := HT.out; have HTT := Lib.hid hT; obtain ⟨r, hr⟩ : ∃ r, (g pr).map (fun b => Value.map (some b)) = r := ⟨_, rfl⟩; obtain ⟨mv, hmv⟩ : ∃ mv, r.getD (.map none) = mv := ⟨_, rfl⟩; have HMV : Hid (((g pr).map (fun b => Value.map (some b))).getD (.map none) = mv) := Lib.hid (by rw [hr]; exact hmv); have HMV2 := Lib.hid hmv; have HR : Hid ((fun p => (g p).map (fun b => Value.map (some b))) PB.data.toList = r) := Lib.hid (by rw [HPD.out]; exact hr); have HV : Hid (pl.svTab l pr NB.data.toList = o) := Lib.hid (by rw [HND.out]; exact HO.out); have mk1 := Lib.hid trivial; clear hT hr hmv)
    | (at_lookup; have hx0 := mk1; clear hx0 mk1; refine wpList_look _ rfl _ _ 91 false rfl 9 90 Try.underlying9 Try.underlying91 bo n (fun p => (g p).map (fun b => Value.map (some b))) (.map none) (zero_mi _) rfl HTT.out.out PB HPS.out rfl r HR.out ?_; simp only [Bool.false_eq_true, if_false]; rw [HMV2.out])
    | (at_lookup; refine wpList_look_in HTT.out rfl _ _ rfl pr mv rfl HMV.out NB HNS.out rfl o HV.out ?_))
  go_ret2
  exact ⟨rfl, HB⟩

theorem sporti_sp (l : SvcL) (pr nm : Key) (o : Option Int) (w : World) (S : List Key) (hS : pl.chkS l [] = some S) (hl : ∀ s ∈ l, SvLine s) (hn : l.length ≤ 100) (h1 : pr.length ≤ 2147483647) (h2 : nm.length ≤ 2147483647) (ho : pl.portOf l pr nm = o) :
    Calls Try.prog 13 #[.string ⟨(pl.svText l).toArray⟩, .string ⟨pr.toArray⟩, .string ⟨nm.toArray⟩] w fun e w' => e = .returned (.tuple #[.int .i64 (o.getD 0), .bool o.isSome]) ∧ Hid (Below w.heap.size w w') := by
  have HSP := Lib.hid (sport_sp l pr nm o w S hS hl hn h1 h2 ho)
  obtain ⟨TB, hTB⟩ : ∃ TB : ByteArray, (⟨(pl.svText l).toArray⟩ : ByteArray) = TB := ⟨_, rfl⟩
  obtain ⟨PB, hPB⟩ : ∃ PB : ByteArray, (⟨pr.toArray⟩ : ByteArray) = PB := ⟨_, rfl⟩
  obtain ⟨NB, hNB⟩ : ∃ NB : ByteArray, (⟨nm.toArray⟩ : ByteArray) = NB := ⟨_, rfl⟩
  rw [hTB, hPB, hNB] at HSP ⊢
  clear hTB hPB hNB hS hl ho h1 h2
  go_enter Try.func13, Try.ntmps13
  go_wp2_with (go_at_call 27; refine HSP.out.mono ?_; rintro e w2 ⟨rfl, HB⟩)
  go_ret2
  exact ⟨rfl, HB⟩

end Go.Proofs.Ytabeklpllphiaaa
