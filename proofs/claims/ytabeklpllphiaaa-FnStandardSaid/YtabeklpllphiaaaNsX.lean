/-
  WALK: spec.Switch.
-/
import Derived.Test.YtabeklpllphiaaaNsA
namespace Go.Proofs.Ytabeklpllphiaaa
open Go.RowKit

def SwRes (db : List UInt8) (l : List Src) (w : World) (e : Ending) (w' : World) : Prop :=
  Below w.heap.size w w' ∧ ((pl.swOk db l = true ∧ e = .returned (.tuple #[.string ⟨(pl.swText db l).toArray⟩, .bool true])) ∨ (pl.swOk db l = false ∧ e = .returned (.tuple #[.string ⟨#[]⟩, .bool false])))

/-- what stands behind a name after some criteria -/
def pl.cPre (l : List Crit) : List UInt8 := if l = [] then [] else [32, 91] ++ pl.critsIn l
theorem pl.critsIn_snoc (c : Crit) : ∀ (l : List Crit), l ≠ [] → pl.critsIn (l ++ [c]) = pl.critsIn l ++ ([32] ++ pl.critTx c)
  | [], h => absurd rfl h
  | d :: r, _ => by simp [pl.critsIn]
theorem pl.cPre_zero (c : Crit) : pl.cPre ([] ++ [c]) = [32, 91] ++ pl.critTx c := by simp [pl.cPre, pl.critsIn]
theorem pl.cPre_snoc (l : List Crit) (c : Crit) (h : l ≠ []) : pl.cPre (l ++ [c]) = pl.cPre l ++ ([32] ++ pl.critTx c) := by
  unfold pl.cPre
  rw [if_neg h, if_neg (by simp), pl.critsIn_snoc c l h]
  simp
theorem pl.cPre_full (l : List Crit) : pl.critsTx l = if l = [] then [] else pl.cPre l ++ [93] := by
  unfold pl.critsTx pl.cPre
  by_cases h : l = [] <;> simp [h]
theorem pl.srcsTx_snoc (l : List Src) (s : Src) : pl.srcsTx (l ++ [s]) = pl.srcsTx l ++ ([32] ++ (s.1 ++ pl.critsTx s.2)) := by simp [pl.srcsTx, pl.srcTx]
def pl.swTop (db : List UInt8) : List UInt8 := pl.nsTop ++ (db ++ [58])
theorem pl.swText_top (db : List UInt8) (l : List Src) : pl.swText db l = pl.swTop db ++ (pl.srcsTx l ++ pl.nsEnd) := by simp [pl.swText, pl.swTop]

theorem pl.sw_no1 (db : List UInt8) (l : List Src) (h : pl.plain db = false) : pl.swOk db l = false := by unfold pl.swOk; rw [h]; rfl
theorem pl.sw_no2 (db : List UInt8) (l : List Src) (h : db = pl.nsOther) : pl.swOk db l = false := by unfold pl.swOk; rw [decide_eq_true h]; simp
theorem pl.sw_no3 (db : List UInt8) (l : List Src) (h : ¬ l.length ≤ 20) : pl.swOk db l = false := by unfold pl.swOk; rw [decide_eq_false h]; simp
theorem pl.sw_no4 (db : List UInt8) (l : List Src) (h : l.all pl.srcOk = false) : pl.swOk db l = false := by unfold pl.swOk; rw [h]; simp

set_option maxRecDepth 100000 in
set_option maxHeartbeats 8000000 in
theorem switch_sp (v : Value) (db : List UInt8) (l : List Src) (w : World) (hv : RdN w v l) (hd : db.length ≤ 2147483647) (hf : ∀ s ∈ l, FitN s) :
    Calls Try.prog 20 #[.string ⟨db.toArray⟩, v] w (SwRes db l w) := by
  obtain ⟨a, cap, rfl, hc⟩ := hv
  obtain ⟨q1, hq1⟩ : ∃ q, pl.plain db = q := ⟨_, rfl⟩
  have hpl := fun W => plain_is db q1 (by omega) hq1 W
  obtain ⟨DB, hDB⟩ : ∃ DB : ByteArray, (⟨db.toArray⟩ : ByteArray) = DB := ⟨_, rfl⟩
  have hDd : DB.data.toList = db := by rw [← hDB]
  have hDs : DB.size ≤ 2147483647 := by rw [← hDB]; exact hd
  rw [hDB] at hpl ⊢
  have HPL := Lib.hid hpl
  have HC := Lib.hid hc
  have HF := Lib.hid hf
  clear hpl hc hf
  rcases q1 with _ | _
  · have HX := Lib.hid (pl.sw_no1 db l hq1)
    clear hq1 hDB hDd hd
    go_enter Try.func20, Try.ntmps20
    go_wp2_with (go_at_call 10; refine (HPL.out _).mono ?_; rintro e w2 ⟨rfl, hb2⟩)
    go_ret2
    exact ⟨hb2.out, .inr ⟨HX.out, rfl⟩⟩
  obtain ⟨q2, hq2⟩ : ∃ q : Bool, (DB.toList == [111, 116, 104, 101, 114]) = q := ⟨_, rfl⟩
  have hq2d : decide (db = pl.nsOther) = q2 := by
    rw [← hq2, Lib.toList_data, hDd]
    exact (Bool.beq_eq_decide_eq _ _).symm
  rcases q2 with _ | _
  rotate_left
  · have HX := Lib.hid (pl.sw_no2 db l (of_decide_eq_true hq2d))
    clear hq1 hDB hDd hd hq2d
    go_enter Try.func20, Try.ntmps20
    go_wp2_with (go_at_call 10; refine (HPL.out _).mono ?_; rintro e w2 ⟨rfl, hb2⟩)
    go_ret2
    exact ⟨hb2.out, .inr ⟨HX.out, rfl⟩⟩
  by_cases h20 : l.length ≤ 20
  rotate_left
  · have HX := Lib.hid (pl.sw_no3 db l h20)
    have h20i : (20 : Int) < (l.length : Int) := by omega
    clear hq1 hDB hDd hd hq2d h20
    go_enter Try.func20, Try.ntmps20
    go_wp2_with (go_at_call 10; refine (HPL.out _).mono ?_; rintro e w2 ⟨rfl, hb2⟩)
    go_ret2
    exact ⟨hb2.out, .inr ⟨HX.out, rfl⟩⟩
  have hyes : l.all pl.srcOk = true → pl.swOk db l = true := fun h => by
    unfold pl.swOk
    rw [hq1, hq2d, decide_eq_true h20, h]; rfl
  have hno := pl.sw_no4 db l
  have h20i : ¬ ((20 : Int) < (l.length : Int)) := by omega
  have HYES := Lib.hid hyes
  have HNO := Lib.hid hno
  have HDD := Lib.hid hDd
  have H20 := Lib.hid h20
  clear hq1 hDB hd hq2d h20 hyes hno hDd
  go_enter Try.func20, Try.ntmps20
  go_wp2_with (go_at_call 10; refine (HPL.out _).mono ?_; rintro e w2 ⟨rfl, hb2⟩)
  have htop : ((⟨#[35, 32, 110, 115, 115, 119, 105, 116, 99, 104, 10, 111, 116, 104, 101, 114, 58, 32, 102, 105, 108, 101, 115, 10]⟩ : ByteArray) ++ DB ++ ⟨#[58]⟩).data.toList = pl.swTop db := by
    rw [app_ba, app_ba, HDD.out]
    simp [pl.swTop, pl.nsTop]
  have hts : ((⟨#[35, 32, 110, 115, 115, 119, 105, 116, 99, 104, 10, 111, 116, 104, 101, 114, 58, 32, 102, 105, 108, 101, 115, 10]⟩ : ByteArray) ++ DB ++ ⟨#[58]⟩).size ≤ 2147483700 := by
    rw [ByteArray.size_append, ByteArray.size_append]
    have e1 : (⟨#[35, 32, 110, 115, 115, 119, 105, 116, 99, 104, 10, 111, 116, 104, 101, 114, 58, 32, 102, 105, 108, 101, 115, 10]⟩ : ByteArray).size = 24 := rfl
    have e2 : (⟨#[58]⟩ : ByteArray).size = 1 := rfl
    omega
  obtain ⟨T0, hT0⟩ : ∃ T0 : ByteArray, (⟨#[35, 32, 110, 115, 115, 119, 105, 116, 99, 104, 10, 111, 116, 104, 101, 114, 58, 32, 102, 105, 108, 101, 115, 10]⟩ : ByteArray) ++ DB ++ ⟨#[58]⟩ = T0 := ⟨_, rfl⟩
  rw [hT0] at htop hts ⊢
  have HT := Lib.hid htop
  have HB0 := hb2
  have hl20 : l.length ≤ 20 := H20.out
  clear hT0 htop hb2 h20i
  go_loopw [6, 29] (fun out i wr => ∃ (k : Nat) (S : ByteArray), k ≤ l.length ∧ i = .int .i64 k ∧ out = .string S ∧ Hid (S.data.toList = pl.swTop db ++ pl.srcsTx (l.take k)) ∧ Hid ((l.take k).all pl.srcOk = true) ∧ S.size ≤ 2147483700 + k * 40000000000 ∧ Below w.heap.size w wr) (fun _ i _ => l.length - (intOf i).toNat)
  case atStart => exact ⟨0, _, Nat.zero_le _, rfl, rfl, Lib.hid (by rw [HT.out]; simp [pl.srcsTx]), Lib.hid rfl, by omega, HB0.out⟩
  case round =>
    obtain ⟨k, S, hk, rfl, rfl, HS, HA, hsz, hb⟩ := hrel
    by_cases hlt : k < l.length
    · obtain ⟨s, hs⟩ : ∃ s, l[k]? = some s := ⟨_, List.getElem?_eq_getElem hlt⟩
      obtain ⟨ga, oa, vn, rfl, hga, hcell, hcell2, hrd⟩ := HC.out k s hs
      obtain ⟨nm, cs⟩ := s
      obtain ⟨hl1, hl2, hl3⟩ := HF.out _ (List.mem_of_getElem? hs)
      have hl1' : nm.length ≤ 2147483647 := hl1
      have hl2' : cs.length ≤ 2147483647 := hl2
      have hl3' : ∀ c ∈ cs, FitC c := hl3
      have hrd' : RdK w vn cs := hrd
      obtain ⟨NB, hNB⟩ : ∃ NB : ByteArray, (⟨nm.toArray⟩ : ByteArray) = NB := ⟨_, rfl⟩
      have hNd : NB.data.toList = nm := by rw [← hNB]
      have hNs : NB.size ≤ 2147483647 := by rw [← hNB]; exact hl1'
      have hc1 : wr.cell? ⟨ga, oa + k * 2, none⟩ = some (.string NB) := by rw [below_cell hb _ _ hga, ← hNB]; exact hcell
      obtain ⟨an, cn, rfl, hnc⟩ := hrd'
      have hc2 : wr.cell? ⟨ga, oa + k * 2 + 1, none⟩ = some (.slice an cs.length cn) := by rw [below_cell hb _ _ hga]; exact hcell2
      have hnc2 : ∀ W, Below w.heap.size w W → ∀ (m : Nat) (c : Crit), cs[m]? = some c → ∃ g o, an = some ⟨g, o, none⟩ ∧ W.cell? ⟨g, o + m * 3, none⟩ = some (.bool c.1) ∧ W.cell? ⟨g, o + m * 3 + 1, none⟩ = some (pl.strV c.2.1) ∧ W.cell? ⟨g, o + m * 3 + 2, none⟩ = some (pl.strV c.2.2) := fun W hW m c hc => by
        obtain ⟨g, o, e, hg, h0, h1, h2⟩ := hnc m c hc
        exact ⟨g, o, e, by rw [below_cell hW _ _ hg]; exact h0, by rw [below_cell hW _ _ hg]; exact h1, by rw [below_cell hW _ _ hg]; exact h2⟩
      obtain ⟨o1, ho1⟩ : ∃ o, pl.plain nm = o := ⟨_, rfl⟩
      have hpn := fun W => plain_is nm o1 (by omega) ho1 W
      rw [hNB] at hpn
      have hbad : pl.srcOk (nm, cs) = false → pl.swOk db l = false := fun h => HNO.out (pl.all_no l pl.srcOk k _ hs h)
      have htk := pl.take_at l k _ hs
      have hall := fun h => pl.all_take l pl.srcOk k _ hs HA.out h
      have HPN := Lib.hid hpn
      have HO1 := Lib.hid ho1
      have HBAD := Lib.hid hbad
      have HTK := Lib.hid htk
      have HALL := Lib.hid hall
      have HNC := Lib.hid hnc2
      have HND := Lib.hid hNd
      have HL3 := Lib.hid hl3'
      have HB := Lib.hid hb
      have HBK := Lib.hid (Blk.new wr #[.string NB, .slice an cs.length cn] 51)
      clear hpn ho1 hbad htk hall hnc hnc2 hNB hNd hcell hcell2 hrd hl1 hl2 hl3 hl1' hl2' hl3' hs hb
      rcases o1 with _ | _
      · have hF : pl.srcOk (nm, cs) = false := by unfold pl.srcOk; rw [show pl.plain (nm, cs).1 = false from HO1.out]; rfl
        have HX := Lib.hid (HBAD.out hF)
        clear hF
        go_wp2_with (go_at_call 10; have HB1 := Lib.hid (HB.out.alloc HB.out.size (Obj.cells #[.string NB, .slice an cs.length cn] 51)); refine (HPN.out _).mono ?_; rintro e w2 ⟨rfl, hb2⟩; have HB2 := Lib.hid (HB1.out.trans (hb2.out.mono HB1.out.size)); clear hb2)
        go_ret2
        exact ⟨HB2.out, .inr ⟨HX.out, rfl⟩⟩
      by_cases h8 : 8 < cs.length
      · have hF : pl.srcOk (nm, cs) = false := by unfold pl.srcOk; rw [decide_eq_false (p := (nm, cs).2.length ≤ 8) (by show ¬ cs.length ≤ 8; omega)]; simp
        have HX := Lib.hid (HBAD.out hF)
        have h8i : (8 : Int) < (cs.length : Int) := by omega
        clear hF h8
        go_wp2_with (go_at_call 10; have HB1 := Lib.hid (HB.out.alloc HB.out.size (Obj.cells #[.string NB, .slice an cs.length cn] 51)); refine (HPN.out _).mono ?_; rintro e w2 ⟨rfl, hb2⟩; have hbk := HBK.out.below hb2.out HBK.out.lt; have c21 := hbk.cell 1; simp at c21; have HB2 := Lib.hid (HB1.out.trans (hb2.out.mono HB1.out.size)); clear hb2 hbk)
        go_ret2
        exact ⟨HB2.out, .inr ⟨HX.out, rfl⟩⟩
      have h8i : ¬ ((8 : Int) < (cs.length : Int)) := by omega
      have hc8 : cs.length ≤ 8 := by omega
      clear h8
      go_wp2_with (go_at_call 10; have HB1 := Lib.hid (HB.out.alloc HB.out.size (Obj.cells #[.string NB, .slice an cs.length cn] 51)); refine (HPN.out _).mono ?_; rintro e w2 ⟨rfl, hb2⟩; have hbk := HBK.out.below hb2.out HBK.out.lt; have c20 := hbk.cell 0; have c21 := hbk.cell 1; simp at c20 c21; have HBK2 := Lib.hid hbk; have HB2 := Lib.hid (HB1.out.trans (hb2.out.mono HB1.out.size)); clear hb2 hbk)
      have h1d : (S ++ ((⟨#[32]⟩ : ByteArray) ++ NB)).data.toList = S.data.toList ++ ([32] ++ nm) := by rw [app_ba, app_ba, HND.out]
      have h1s : (S ++ ((⟨#[32]⟩ : ByteArray) ++ NB)).size ≤ S.size + 2147483648 := by
        rw [ByteArray.size_append, ByteArray.size_append]
        have e1 : (⟨#[32]⟩ : ByteArray).size = 1 := rfl
        omega
      obtain ⟨S1, hS1⟩ : ∃ S1 : ByteArray, S ++ ((⟨#[32]⟩ : ByteArray) ++ NB) = S1 := ⟨_, rfl⟩
      rw [hS1] at h1d h1s ⊢
      have H1D := Lib.hid h1d
      clear hS1 h1d c20 c21
      have hsb : S1.size ≤ 810000000000 := by omega
      obtain ⟨gs, hgs⟩ : ∃ gs, wr.heap.size = gs := ⟨_, rfl⟩
      have HBK3 := HBK2
      rw [hgs] at HBK3 ⊢
      have HGS := Lib.hid hgs
      clear hgs
      have HAW := HB2
      obtain ⟨wo, rfl⟩ : ∃ wo : World, wo = w2 := ⟨_, rfl⟩
      go_loopw [6, 51] (fun out i wq => ∃ (m : Nat) (S2 : ByteArray), m ≤ cs.length ∧ i = .int .i64 m ∧ out = .string S2 ∧ Hid (S2.data.toList = S1.data.toList ++ pl.cPre (cs.take m)) ∧ Hid ((cs.take m).all pl.critOk = true) ∧ S2.size ≤ S1.size + m * 4294967310 ∧ Hid (Blk wq gs #[.string NB, .slice an cs.length cn] 51) ∧ Below w.heap.size w wq) (fun _ i _ => cs.length - (intOf i).toNat)
      case atStart => exact ⟨0, _, Nat.zero_le _, rfl, rfl, Lib.hid (by simp [pl.cPre]), Lib.hid rfl, by omega, HBK3, HAW.out⟩
      case round =>
        obtain ⟨m, S2, hm, rfl, rfl, HS2, HA2, hsz2, HBKq, hbq⟩ := hrel
        by_cases hlm : m < cs.length
        · obtain ⟨c, hcc⟩ : ∃ c, cs[m]? = some c := ⟨_, List.getElem?_eq_getElem hlm⟩
          obtain ⟨gn, on, rfl, d0, d1, d2⟩ := HNC.out wr hbq m c hcc
          obtain ⟨hf1, hf2⟩ := HL3.out c (List.mem_of_getElem? hcc)
          obtain ⟨ng, st, ac⟩ := c
          have hf1' : st.length ≤ 2147483647 := hf1
          have hf2' : ac.length ≤ 2147483647 := hf2
          obtain ⟨SB, hSB⟩ : ∃ SB : ByteArray, (⟨st.toArray⟩ : ByteArray) = SB := ⟨_, rfl⟩
          obtain ⟨AB, hAB⟩ : ∃ AB : ByteArray, (⟨ac.toArray⟩ : ByteArray) = AB := ⟨_, rfl⟩
          have hSd : SB.data.toList = st := by rw [← hSB]
          have hAd : AB.data.toList = ac := by rw [← hAB]
          have hSs : SB.size ≤ 2147483647 := by rw [← hSB]; exact hf1'
          have hAs : AB.size ≤ 2147483647 := by rw [← hAB]; exact hf2'
          have d0' : wr.cell? ⟨gn, on + m * 3, none⟩ = some (.bool ng) := d0
          have d1' : wr.cell? ⟨gn, on + m * 3 + 1, none⟩ = some (.string SB) := by rw [d1, ← hSB]; rfl
          have d2' : wr.cell? ⟨gn, on + m * 3 + 2, none⟩ = some (.string AB) := by rw [d2, ← hAB]; rfl
          obtain ⟨o2, ho2⟩ : ∃ o, pl.plain st = o := ⟨_, rfl⟩
          obtain ⟨o3, ho3⟩ : ∃ o, pl.plain ac = o := ⟨_, rfl⟩
          have hp2 := fun W => plain_is st o2 (by omega) ho2 W
          have hp3 := fun W => plain_is ac o3 (by omega) ho3 W
          rw [hSB] at hp2
          rw [hAB] at hp3
          have hcb : pl.critOk (ng, st, ac) = (o2 && o3) := by unfold pl.critOk; rw [show pl.plain (ng, st, ac).2.1 = o2 from ho2, show pl.plain (ng, st, ac).2.2 = o3 from ho3]
          have hbad2 : (o2 && o3) = false → pl.swOk db l = false := fun h => HBAD.out (by
            unfold pl.srcOk
            rw [show (nm, cs).2.all pl.critOk = false from pl.all_no cs pl.critOk m _ hcc (by rw [hcb]; exact h)]
            simp)
          have htk2 := pl.take_at cs m _ hcc
          have hall2 : (o2 && o3) = true → (cs.take (m + 1)).all pl.critOk = true := fun h => pl.all_take cs pl.critOk m _ hcc HA2.out (by rw [hcb]; exact h)
          have hbk := Blk.new wr #[.bool ng, .string SB, .string AB] 54
          have halk : Below wr.heap.size wr (wr.alloc (Obj.cells #[.bool ng, .string SB, .string AB] 54)) := (Below.refl _ _).alloc (Nat.le_refl _) _
          have hbw1 := hbq.trans (halk.mono hbq.size)
          have hbks := HBKq.out.below halk HBKq.out.lt
          have HP2 := Lib.hid hp2
          have HP3 := Lib.hid hp3
          have HBAD2 := Lib.hid hbad2
          have HTK2 := Lib.hid htk2
          have HALL2 := Lib.hid hall2
          have HBKc := Lib.hid hbk
          have HBW1 := Lib.hid hbw1
          have HBKS := Lib.hid hbks
          have HSD := Lib.hid hSd
          have HAD := Lib.hid hAd
          have HBQ := Lib.hid hbq
          clear hp2 hp3 hbad2 htk2 hall2 hbk halk hbw1 hbks hSd hAd hcb ho2 ho3 hSB hAB d0 d1 d2 hf1 hf2 hcc hbq
          rcases o2 with _ | _
          · have HX := Lib.hid (HBAD2.out rfl)
            go_wp2_with (go_at_call 10; (with_reducible refine (HP2.out _).mono ?_); rintro e w3 ⟨rfl, hb3⟩; have HB3 := Lib.hid (HBW1.out.trans (hb3.out.mono HBW1.out.size)); clear hb3)
            go_ret2
            exact ⟨HB3.out, .inr ⟨HX.out, rfl⟩⟩
          rcases o3 with _ | _
          · have HX := Lib.hid (HBAD2.out rfl)
            go_wp2_with (first
              | (go_at_call 10; have hx0 := HB3; (with_reducible refine (HP3.out _).mono ?_); rintro e w4 ⟨rfl, hb4⟩; have HB4 := Lib.hid (HB3.out.trans (hb4.out.mono HB3.out.size)); clear hb4)
              | (go_at_call 10; (with_reducible refine (HP2.out _).mono ?_); rintro e w3 ⟨rfl, hb3⟩; have hk3 := HBKc.out.below hb3.out HBKc.out.lt; have e32 := hk3.cell 2; simp at e32; have HB3 := Lib.hid (HBW1.out.trans (hb3.out.mono HBW1.out.size)); clear hb3 hk3))
            go_ret2
            exact ⟨HB4.out, .inr ⟨HX.out, rfl⟩⟩
          have HGOOD := Lib.hid (HALL2.out rfl)
          have b2 : S2.size ≤ 850000000000 := by omega
          have hpre : pl.cPre (cs.take m ++ [(ng, st, ac)]) = pl.cPre (cs.take m) ++ ((if ((m : Int) == 0) = true then [32, 91] else [32]) ++ pl.critTx (ng, st, ac)) := by
            by_cases h0 : m = 0
            · subst h0
              rw [List.take_zero, pl.cPre_zero]
              rfl
            · have hne : cs.take m ≠ [] := by
                intro e
                have h := congrArg List.length e
                rw [List.length_take, Nat.min_eq_left hm] at h
                exact h0 h
              rw [pl.cPre_snoc _ _ hne, if_neg (by simp; exact h0)]
          have PRE := Lib.hid hpre
          clear hpre
          rcases hm0 : ((m : Int) == 0) with _ | _
          all_goals
            rcases ng with _ | _
            all_goals
              go_wp2_with (first
                | (go_at_call 10; have hx0 := HB3; (with_reducible refine (HP3.out _).mono ?_); rintro e w4 ⟨rfl, hb4⟩; have hk4 := HK3.out.below hb4.out HK3.out.lt; have e40 := hk4.cell 0; have e41 := hk4.cell 1; have e42 := hk4.cell 2; simp at e40 e41 e42; have HB4 := Lib.hid (HB3.out.trans (hb4.out.mono HB3.out.size)); have HKS4 := Lib.hid (HKS3.out.below hb4.out HKS3.out.lt); clear hb4 hk4)
                | (go_at_call 10; (with_reducible refine (HP2.out _).mono ?_); rintro e w3 ⟨rfl, hb3⟩; have hk3 := HBKc.out.below hb3.out HBKc.out.lt; have e32 := hk3.cell 2; simp at e32; have HK3 := Lib.hid hk3; have HKS3 := Lib.hid (HBKS.out.below hb3.out HBKS.out.lt); have HB3 := Lib.hid (HBW1.out.trans (hb3.out.mono HBW1.out.size)); clear hb3 hk3))
              go_roundw
              case rel =>
                exact ⟨m + 1, _, by omega, by go_num, rfl, Lib.hid (by rw [app_ba, HS2.out, HTK2.out, PRE.out, hm0]; simp [app_ba, HSD.out, HAD.out, pl.critTx]), HGOOD, (by
                  simp only [ByteArray.size_append]
                  have e1 : (⟨#[32]⟩ : ByteArray).size = 1 := rfl
                  have e2 : (⟨#[32, 91]⟩ : ByteArray).size = 2 := rfl
                  have e3 : (⟨#[33]⟩ : ByteArray).size = 1 := rfl
                  have e4 : (⟨#[61]⟩ : ByteArray).size = 1 := rfl
                  omega), HKS4, HB4.out⟩
              case measure => simp [intOf]; omega
        · have hme : m = cs.length := by omega
          subst hme
          rw [List.take_length] at HS2 HA2
          have hsok : pl.srcOk (nm, cs) = true := by
            unfold pl.srcOk
            rw [show pl.plain (nm, cs).1 = true from HO1.out, decide_eq_true (p := (nm, cs).2.length ≤ 8) hc8, show (nm, cs).2.all pl.critOk = true from HA2.out]
            rfl
          have HALLk := Lib.hid (HALL.out hsok)
          have q1 : wr.cell? ⟨gs, 1, none⟩ = some (.slice an cs.length cn) := HBKq.out.cell 1
          have hful := pl.cPre_full cs
          have b2 : S2.size ≤ 850000000000 := by omega
          have HFUL := Lib.hid hful
          have HBF := Lib.hid hbq
          clear hsok hful hbq
          by_cases h0 : 0 < cs.length
          · have h0i : (0 : Int) < (cs.length : Int) := by omega
            have hne : cs ≠ [] := List.length_pos_iff.1 h0
            have HNE := Lib.hid hne
            clear hne
            go_wp2_with fail
            go_roundw
            case rel =>
              exact ⟨k + 1, _, by omega, by go_num, rfl, Lib.hid (by rw [app_ba, HS2.out, H1D.out, HS.out, HTK.out, pl.srcsTx_snoc, HFUL.out, if_neg HNE.out]; simp), HALLk, (by
                rw [ByteArray.size_append]
                have e1 : (⟨#[93]⟩ : ByteArray).size = 1 := rfl
                omega), HBF.out⟩
            case measure => simp [intOf]; omega
          · have h0i : ¬ ((0 : Int) < (cs.length : Int)) := by omega
            have hne : cs = [] := List.eq_nil_of_length_eq_zero (by omega)
            have HNE := Lib.hid hne
            clear hne
            go_wp2_with fail
            go_roundw
            case rel =>
              exact ⟨k + 1, _, by omega, by go_num, rfl, Lib.hid (by rw [HS2.out, H1D.out, HS.out, HTK.out, pl.srcsTx_snoc, HFUL.out, if_pos HNE.out, HNE.out]; simp [pl.cPre]), HALLk, (by omega), HBF.out⟩
            case measure => simp [intOf]; omega
    · have hke : l.take k = l := List.take_of_length_le (by omega)
      rw [hke] at HS HA
      clear hke
      go_wp2_with fail
      go_ret2
      have hfin : (⟨(pl.swText db l).toArray⟩ : ByteArray) = S ++ ⟨#[32, 35, 32, 99, 111, 109, 109, 101, 110, 116, 10]⟩ := by
        apply pl.ba_ext
        rw [app_ba, HS.out, pl.swText_top]
        simp [pl.nsEnd]
      refine ⟨hb, .inl ⟨HYES.out HA.out, ?_⟩⟩
      rw [hfin]
      rfl

end Go.Proofs.Ytabeklpllphiaaa
