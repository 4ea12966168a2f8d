/-
  WALK: spec.Hosts.
-/
import Derived.Test.YtfkohahlpfejbaaDoorArgs
namespace Go.Proofs.YtfkohahlpfejbaaDoor
open Go.RowKit

def pl.gapS : Nat → List UInt8
  | 0 => [32]
  | 1 => [9]
  | _ => [32, 32, 9, 32]
def pl.cmt : List UInt8 := [32, 35, 32, 99, 111, 109, 109, 101, 110, 116, 10]
def pl.hnames (g : Nat) (ns : List (List UInt8)) : List UInt8 := ns.flatMap (fun n => pl.gapS g ++ n)
def pl.hline (g : Nat) (h : List UInt8 × List (List UInt8)) : List UInt8 := h.1 ++ pl.hnames g h.2 ++ pl.cmt
def pl.hhead : List UInt8 := [35, 32, 104, 111, 115, 116, 115, 10, 10]
/-- a hosts file -/
def pl.hosts (g : Nat) (l : HostL) : List UInt8 := pl.hhead ++ l.flatMap (pl.hline g)
def pl.hostOk (h : List UInt8 × List (List UInt8)) : Bool := (pl.addr h.1).isSome && decide (h.2.length ≠ 0) && decide (h.2.length ≤ 20) && h.2.all pl.plain

theorem app_ba (a b : ByteArray) : (a ++ b).data.toList = a.data.toList ++ b.data.toList := by simp [ByteArray.data_append]

theorem pl.take_at {α : Type} (l : List α) (k : Nat) (x : α) (h : l[k]? = some x) : l.take (k + 1) = l.take k ++ [x] := by
  obtain ⟨hk, rfl⟩ := List.getElem?_eq_some_iff.1 h
  rw [List.take_succ_eq_append_getElem hk]
theorem pl.hnames_snoc (g : Nat) (l : List (List UInt8)) (x : List UInt8) : pl.hnames g (l ++ [x]) = pl.hnames g l ++ (pl.gapS g ++ x) := by
  simp [pl.hnames]

theorem addr_is (p : List UInt8) (o : Bool) (hs : p.length ≤ 2147483648) (ho : (pl.addr p).isSome = o) (w : World) :
    Calls Tryd.prog 15 #[.string ⟨p.toArray⟩] w fun e w' => (∃ a n c, e = .returned (.tuple #[.slice a n c, .bool o])) ∧ Hid (Below w.heap.size w w') := by
  refine (addr_sp ⟨p.toArray⟩ w hs).mono fun e w' ⟨hb, hr⟩ => ?_
  rcases hr with ⟨v, l, h2, he, hY⟩ | ⟨h2, a, n, c, h3⟩
  · obtain ⟨a, c, rfl, _⟩ := hY.reads
    have h2' : pl.addr p = some l := h2
    rw [h2'] at ho
    subst ho
    exact ⟨⟨_, _, _, he⟩, Lib.hid hb⟩
  · have h2' : pl.addr p = none := h2
    rw [h2'] at ho
    subst ho
    exact ⟨⟨_, _, _, h3⟩, Lib.hid hb⟩

theorem plain_is (p : List UInt8) (o : Bool) (hs : p.length ≤ 2147483648) (ho : pl.plain p = o) (w : World) :
    Calls Tryd.prog 20 #[.string ⟨p.toArray⟩] w fun e w' => e = .returned (.bool o) ∧ Hid (Below w.heap.size w w') := by
  refine (plain_sp ⟨p.toArray⟩ w (by show p.length ≤ _; omega)).mono fun e w' ⟨he, hb⟩ => ⟨?_, Lib.hid hb⟩
  rw [he, ← ho]

theorem pl.hostOk_no (h : List UInt8 × List (List UInt8)) : (pl.addr h.1).isSome = false → pl.hostOk h = false := fun h1 => by simp [pl.hostOk, h1]

def HosRes (g : Nat) (l : HostL) (w : World) (e : Ending) (w' : World) : Prop :=
  Below w.heap.size w w' ∧ ((l.all pl.hostOk = true ∧ e = .returned (.tuple #[.string ⟨(pl.hosts g l).toArray⟩, .bool true])) ∨ (l.all pl.hostOk = false ∧ e = .returned (.tuple #[.string ⟨#[]⟩, .bool false])))

set_option maxRecDepth 100000 in
set_option maxHeartbeats 8000000 in
theorem hosts_in (v : Value) (l : HostL) (g : Nat) (w : World) (hv : RdH w v l) (hf : pl.fits1 l = true) (hg : g < 3) (hl : l.length ≤ 100) :
    Calls Tryd.prog 14 #[v, .int .i64 (g : Int)] w (HosRes g l w) := by
  obtain ⟨a, cap, rfl, hc⟩ := hv
  obtain ⟨W1, hW1⟩ : ∃ W1, w.alloc (Obj.cells #[.string ⟨#[32]⟩, .string ⟨#[9]⟩, .string ⟨#[32, 32, 9, 32]⟩] 9) = W1 := ⟨_, rfl⟩
  have hw1 : Below w.heap.size w W1 := by rw [← hW1]; exact (Below.refl _ _).alloc (Nat.le_refl _) _
  have hblk : Blk W1 w.heap.size #[.string ⟨#[32]⟩, .string ⟨#[9]⟩, .string ⟨#[32, 32, 9, 32]⟩] 9 := by rw [← hW1]; exact Blk.new w _ _
  have hgap : ∀ W, Below W1.heap.size W1 W → W.cell? ⟨w.heap.size, g, none⟩ = some (.string ⟨(pl.gapS g).toArray⟩) := fun W hW => by
    rw [((hblk.below hW hblk.lt).cell g)]
    match g, hg with
    | 0, _ => rfl
    | 1, _ => rfl
    | 2, _ => rfl
  have hgl : (pl.gapS g).length ≤ 4 := by
    match g, hg with
    | 0, _ => decide
    | 1, _ => decide
    | 2, _ => decide
  have hfit : ∀ (k : Nat) (p : List UInt8 × List (List UInt8)), l[k]? = some p → p.1.length ≤ 2147483647 ∧ ∀ q ∈ p.2, q.length ≤ 2147483647 := fun k p hp => by
    unfold pl.fits1 at hf
    rw [Bool.and_eq_true, List.all_eq_true] at hf
    have h2 := hf.2 p (List.mem_of_getElem? hp)
    unfold pl.fits2 pl.fits3 at h2
    rw [Bool.and_eq_true, Bool.and_eq_true, List.all_eq_true] at h2
    exact ⟨by simpa using h2.1, fun q hq => by simpa using h2.2.2 q hq⟩
  have hg0 : ¬ ((g : Int) < 0) := by omega
  have hg3 : ¬ (3 ≤ (g : Int)) := by omega
  have hl100 : ¬ (100 < (l.length : Int)) := by omega
  have HC := Lib.hid hc
  have HG := Lib.hid hgap
  have HFI := Lib.hid hfit
  have HW := Lib.hid hw1
  clear hc hgap hfit hw1 hblk hf
  go_enter Tryd.func14, Tryd.ntmps14
  go_wp2_with fail
  go_loopw [6, 30] (fun out i wr => ∃ (k : Nat) (S : ByteArray), k ≤ l.length ∧ i = .int .i64 k ∧ out = .string S ∧ Hid (S.data.toList = pl.hhead ++ (l.take k).flatMap (pl.hline g)) ∧ Hid ((l.take k).all pl.hostOk = true) ∧ S.size ≤ 20 + k * 50000000000 ∧ Below W1.heap.size W1 wr) (fun _ i _ => l.length - (intOf i).toNat)
  case atStart => exact ⟨0, _, Nat.zero_le _, rfl, rfl, Lib.hid rfl, Lib.hid rfl, by decide, Below.refl _ _⟩
  case round =>
    obtain ⟨k, S, hk, rfl, rfl, HS, HA, hsz, hb⟩ := hrel
    by_cases hlt : k < l.length
    · obtain ⟨p, hp⟩ : ∃ p, l[k]? = some p := ⟨_, List.getElem?_eq_getElem hlt⟩
      obtain ⟨pa, pn⟩ := p
      obtain ⟨ga, oa, vn, rfl, hga, hcell, hcell2, hrd⟩ := HC.out k (pa, pn) hp
      have hbw : Below w.heap.size w wr := HW.out.trans (hb.mono HW.out.size)
      have hc1 : wr.cell? ⟨ga, oa + k * 2, none⟩ = some (pl.strV pa) := by rw [below_cell hbw _ _ hga]; exact hcell
      have hc2 : wr.cell? ⟨ga, oa + k * 2 + 1, none⟩ = some vn := by rw [below_cell hbw _ _ hga]; exact hcell2
      obtain ⟨hpa, hpn⟩ := HFI.out k (pa, pn) hp
      obtain ⟨an, cn, rfl, _, _, hnc⟩ := hrd
      have hpa' : pa.length ≤ 2147483647 := hpa
      obtain ⟨o, ho⟩ : ∃ o, (pl.addr pa).isSome = o := ⟨_, rfl⟩
      have had := fun W => addr_is pa o (by omega) ho W
      have HAD := Lib.hid had
      have HO := Lib.hid ho
      have HNC := Lib.hid hnc
      have HPN := Lib.hid hpn
      have HP := Lib.hid hp
      have HB := Lib.hid hb
      have hpas : (⟨pa.toArray⟩ : ByteArray).size ≤ 2147483647 := hpa'
      unfold pl.strV at hc1
      dsimp only at hc2
      clear had ho hnc hpn hp hcell hcell2 hpa
      rcases o with _ | _
      · go_wp2_with (go_at_call 15; have HB1 := Lib.hid (HB.out.alloc HB.out.size (Obj.cells #[.string ⟨pa.toArray⟩, .slice an pn.length cn] 68)); refine (HAD.out _).mono ?_; rintro e w2 ⟨⟨a1, n1, c1, rfl⟩, hb2⟩; have HB2 := Lib.hid (HB1.out.trans (hb2.out.mono HB1.out.size)); clear hb2)
        have hno := pl.all_no l pl.hostOk k _ HP.out (by simp [pl.hostOk, HO.out])
        go_ret2
        exact ⟨HW.out.trans (HB2.out.mono HW.out.size), .inr ⟨hno, rfl⟩⟩
      · by_cases hn0 : pn.length = 0
        · have h0 : ((pn.length : Int) == 0) = true := by rw [beq_iff_eq]; omega
          have hno := pl.all_no l pl.hostOk k _ HP.out (by simp [pl.hostOk, hn0])
          have HNO := Lib.hid hno
          have HN0 := Lib.hid hn0
          clear hno hn0
          go_wp2_with (go_at_call 15; have HB1 := Lib.hid (HB.out.alloc HB.out.size (Obj.cells #[.string ⟨pa.toArray⟩, .slice an pn.length cn] 68)); refine (HAD.out _).mono ?_; rintro e w2 ⟨⟨a1, n1, c1, rfl⟩, hb2⟩; have c20 : w2.cell? ⟨wr.heap.size, 0, none⟩ = some (.string ⟨pa.toArray⟩) := ((Blk.new wr #[.string ⟨pa.toArray⟩, .slice an pn.length cn] 68).below hb2.out (Blk.new wr _ 68).lt).cell 0; have c21 : w2.cell? ⟨wr.heap.size, 1, none⟩ = some (.slice an pn.length cn) := ((Blk.new wr #[.string ⟨pa.toArray⟩, .slice an pn.length cn] 68).below hb2.out (Blk.new wr _ 68).lt).cell 1; have HB2 := Lib.hid (HB1.out.trans (hb2.out.mono HB1.out.size)); clear hb2)
          go_ret2
          exact ⟨HW.out.trans (HB2.out.mono HW.out.size), .inr ⟨HNO.out, rfl⟩⟩
        · by_cases hn20 : 20 < pn.length
          · have h0 : ((pn.length : Int) == 0) = false := by rw [beq_eq_false_iff_ne]; omega
            have h20 : (20 < (pn.length : Int)) := by omega
            have hno := pl.all_no l pl.hostOk k _ HP.out (by simp [pl.hostOk]; omega)
            have HNO := Lib.hid hno
            have HN0 := Lib.hid hn0
            have HN20 := Lib.hid hn20
            clear hno hn0 hn20
            go_wp2_with (go_at_call 15; have HB1 := Lib.hid (HB.out.alloc HB.out.size (Obj.cells #[.string ⟨pa.toArray⟩, .slice an pn.length cn] 68)); refine (HAD.out _).mono ?_; rintro e w2 ⟨⟨a1, n1, c1, rfl⟩, hb2⟩; have c20 : w2.cell? ⟨wr.heap.size, 0, none⟩ = some (.string ⟨pa.toArray⟩) := ((Blk.new wr #[.string ⟨pa.toArray⟩, .slice an pn.length cn] 68).below hb2.out (Blk.new wr _ 68).lt).cell 0; have c21 : w2.cell? ⟨wr.heap.size, 1, none⟩ = some (.slice an pn.length cn) := ((Blk.new wr #[.string ⟨pa.toArray⟩, .slice an pn.length cn] 68).below hb2.out (Blk.new wr _ 68).lt).cell 1; have HB2 := Lib.hid (HB1.out.trans (hb2.out.mono HB1.out.size)); clear hb2)
            go_ret2
            exact ⟨HW.out.trans (HB2.out.mono HW.out.size), .inr ⟨HNO.out, rfl⟩⟩
          · have h0 : ((pn.length : Int) == 0) = false := by rw [beq_eq_false_iff_ne]; omega
            have h20 : ¬ (20 < (pn.length : Int)) := by omega
            have HN0 := Lib.hid hn0
            clear hn0
            go_wp2_with (go_at_call 15; have HB1 := Lib.hid (HB.out.alloc HB.out.size (Obj.cells #[.string ⟨pa.toArray⟩, .slice an pn.length cn] 68)); refine (HAD.out _).mono ?_; rintro e w2 ⟨⟨a1, n1, c1, rfl⟩, hb2⟩; have c20 : w2.cell? ⟨wr.heap.size, 0, none⟩ = some (.string ⟨pa.toArray⟩) := ((Blk.new wr #[.string ⟨pa.toArray⟩, .slice an pn.length cn] 68).below hb2.out (Blk.new wr _ 68).lt).cell 0; have c21 : w2.cell? ⟨wr.heap.size, 1, none⟩ = some (.slice an pn.length cn) := ((Blk.new wr #[.string ⟨pa.toArray⟩, .slice an pn.length cn] 68).below hb2.out (Blk.new wr _ 68).lt).cell 1; have HB2 := Lib.hid (HB1.out.trans (hb2.out.mono HB1.out.size)); clear hb2)
            have hSs : (S ++ (⟨pa.toArray⟩ : ByteArray)).size = S.size + pa.length := by rw [ByteArray.size_append]; rfl
            have hw2 : Below W1.heap.size W1 w2 := HB2.out
            have HSS := Lib.hid hSs
            have HN20 := Lib.hid hn20
            clear hSs hn20
            obtain ⟨wo, rfl⟩ : ∃ wo : World, wo = wr := ⟨_, rfl⟩
            go_loopw [6, 61] (fun out j wq => ∃ (m : Nat) (S2 : ByteArray), m ≤ pn.length ∧ j = .int .i64 m ∧ out = .string S2 ∧ Hid (S2.data.toList = S.data.toList ++ pa ++ pl.hnames g (pn.take m)) ∧ Hid ((pn.take m).all pl.plain = true) ∧ S2.size ≤ S.size + pa.length + m * 2147483651 ∧ Below W1.heap.size W1 wq) (fun _ j _ => pn.length - (intOf j).toNat)
            case atStart => exact ⟨0, _, Nat.zero_le _, rfl, rfl, Lib.hid (by rw [app_ba]; simp [pl.hnames]), Lib.hid rfl, by rw [HSS.out]; omega, hw2⟩
            case round =>
              obtain ⟨m, S2, hm, rfl, rfl, HS2, HA2, hsz2, hbq⟩ := hrel
              by_cases hlm : m < pn.length
              · obtain ⟨q, hq⟩ : ∃ q, pn[m]? = some q := ⟨_, List.getElem?_eq_getElem hlm⟩
                obtain ⟨gn, on, rfl, hgn, hqc⟩ := HNC.out m q hq
                have hbwq : Below w.heap.size w wr := HW.out.trans (hbq.mono HW.out.size)
                have hq1 : wr.cell? ⟨gn, on + m, none⟩ = some (pl.strV q) := by rw [below_cell hbwq _ _ hgn]; exact hqc
                unfold pl.strV at hq1
                have hql := HPN.out q (List.mem_of_getElem? hq)
                have hqs : (⟨q.toArray⟩ : ByteArray).size = q.length := by rfl
                obtain ⟨o2, ho2⟩ : ∃ o2, pl.plain q = o2 := ⟨_, rfl⟩
                have hpl := fun W => plain_is q o2 (by omega) ho2 W
                have HPL := Lib.hid hpl
                have HO2 := Lib.hid ho2
                have HQ := Lib.hid hq
                have HBQ := Lib.hid hbq
                have hgc : ∀ W, Below wr.heap.size wr W → W.cell? ⟨w.heap.size, g, none⟩ = some (.string ⟨(pl.gapS g).toArray⟩) := fun W hW => HG.out W (HBQ.out.trans (hW.mono HBQ.out.size))
                have HGC := Lib.hid hgc
                have hgs : (⟨(pl.gapS g).toArray⟩ : ByteArray).size = (pl.gapS g).length := by rfl
                have HGS := Lib.hid hgs
                have HQS := Lib.hid hqs
                have b1 : (⟨q.toArray⟩ : ByteArray).size ≤ 2147483647 := by rw [hqs]; exact hql
                have b2 : (⟨(pl.gapS g).toArray⟩ : ByteArray).size ≤ 4 := by rw [hgs]; exact hgl
                have b3 : S2.size ≤ 5100000000000 := by omega
                clear hpl ho2 hq hqc hgc hgs hqs
                rcases o2 with _ | _
                · go_wp2_with (go_at_call 20; refine (HPL.out _).mono ?_; rintro e w3 ⟨rfl, hb3⟩; have HB3 := Lib.hid (HBQ.out.trans (hb3.out.mono HBQ.out.size)); clear hb3)
                  have hno2 := pl.all_no pn pl.plain m _ HQ.out HO2.out
                  have hno := pl.all_no l pl.hostOk k _ HP.out (by unfold pl.hostOk; rw [hno2]; simp)
                  go_ret2
                  exact ⟨HW.out.trans (HB3.out.mono HW.out.size), .inr ⟨hno, rfl⟩⟩
                · go_wp2_with (go_at_call 20; refine (HPL.out _).mono ?_; rintro e w3 ⟨rfl, hb3⟩; have hg3 := HGC.out _ hb3.out; have HB3 := Lib.hid (HBQ.out.trans (hb3.out.mono HBQ.out.size)); clear hb3)
                  have hda : (S2 ++ ((⟨(pl.gapS g).toArray⟩ : ByteArray) ++ ⟨q.toArray⟩)).data.toList = S.data.toList ++ pa ++ pl.hnames g (pn.take (m + 1)) := by
                    rw [app_ba, app_ba, HS2.out, pl.take_at pn m q HQ.out, pl.hnames_snoc]
                    simp only [List.append_assoc]
                  have hsi : (S2 ++ ((⟨(pl.gapS g).toArray⟩ : ByteArray) ++ ⟨q.toArray⟩)).size ≤ S.size + pa.length + (m + 1) * 2147483651 := by
                    rw [ByteArray.size_append, ByteArray.size_append]; omega
                  have HDA := Lib.hid hda
                  have HSI := Lib.hid hsi
                  clear hda hsi
                  go_roundw
                  case rel => exact ⟨m + 1, _, by omega, by go_num, rfl, HDA, Lib.hid (pl.all_take pn pl.plain m q HQ.out HA2.out HO2.out), HSI.out, HB3.out⟩
                  case measure => simp [intOf]; omega
              · have hme : pn.take m = pn := List.take_of_length_le (by omega)
                rw [hme] at HS2 HA2
                have hok : pl.hostOk (pa, pn) = true := by
                  unfold pl.hostOk
                  rw [HA2.out]
                  have n0 := HN0.out
                  have n20 := HN20.out
                  simp [HO.out]
                  exact ⟨by intro h; apply n0; rw [h]; rfl, by omega⟩
                have HOK := Lib.hid hok
                clear hme hok
                have b3 : S2.size ≤ 5100000000000 := by omega
                have b4 : m ≤ 20 := by have := HN20.out; omega
                go_wp2_with fail
                have hda : (S2 ++ (⟨#[32, 35, 32, 99, 111, 109, 109, 101, 110, 116, 10]⟩ : ByteArray)).data.toList = pl.hhead ++ (l.take (k + 1)).flatMap (pl.hline g) := by
                  rw [app_ba, HS2.out, HS.out, pl.take_at l k _ HP.out, List.flatMap_append]
                  simp [pl.hline, pl.cmt, List.append_assoc]
                have hsi : (S2 ++ (⟨#[32, 35, 32, 99, 111, 109, 109, 101, 110, 116, 10]⟩ : ByteArray)).size ≤ 20 + (k + 1) * 50000000000 := by
                  rw [ByteArray.size_append]
                  have : (⟨#[32, 35, 32, 99, 111, 109, 109, 101, 110, 116, 10]⟩ : ByteArray).size = 11 := rfl
                  omega
                have HDA := Lib.hid hda
                have HSI := Lib.hid hsi
                clear hda hsi
                go_roundw
                case rel => exact ⟨k + 1, _, by omega, by go_num, rfl, HDA, Lib.hid (pl.all_take l pl.hostOk k _ HP.out HA.out HOK.out), HSI.out, hbq⟩
                case measure => simp [intOf]; omega
    · have hke : l.take k = l := List.take_of_length_le (by omega)
      rw [hke] at HS HA
      go_wp2_with fail
      go_ret2
      refine ⟨HW.out.trans (hb.mono HW.out.size), .inl ⟨HA.out, ?_⟩⟩
      have : S = ⟨(pl.hosts g l).toArray⟩ := pl.ba_ext HS.out
      rw [← this]
      rfl

end Go.Proofs.YtfkohahlpfejbaaDoor
