/-
  WALK: spec.NamesOf.
-/
import Derived.Test.YtfkohahlpfejbaaDoorHosts
namespace Go.Proofs.YtfkohahlpfejbaaDoor
open Go.RowKit

/-- the names of an address -/
def pl.namesOf (l : HostL) (b : List UInt8) : List (List UInt8) := l.flatMap (fun h => if pl.addr h.1 = some b then h.2.map pl.absN else [])

theorem abs_is (p : List UInt8) (hs : p.length ≤ 2147483647) (w : World) :
    Calls Tryd.prog 47 #[.string ⟨p.toArray⟩] w fun e w' => e = .returned (.string ⟨(pl.absN p).toArray⟩) ∧ ∃ n, w' = w.drewN n :=
  abs_sp ⟨p.toArray⟩ w (by show p.length ≤ _; omega)

theorem addr_some (p b : List UInt8) (hs : p.length ≤ 2147483648) (hb : pl.addr p = some b) (w : World) :
    Calls Tryd.prog 15 #[.string ⟨p.toArray⟩] w fun e w' => ∃ a c, e = .returned (.tuple #[.slice a b.length c, .bool true]) ∧ Hid (Reads w' (.slice a b.length c) b) ∧ Hid (Below w.heap.size w w') := by
  refine (addr_yes2 ⟨p.toArray⟩ b w hs hb).mono fun e w' ⟨v, he, hY, hB⟩ => ?_
  have hR := hY.out.reads
  obtain ⟨a, c, rfl, _⟩ := hY.out.reads
  exact ⟨a, c, he, Lib.hid hR, hB⟩

theorem pl.hostOk_parts (pa : List UInt8) (pn : List (List UInt8)) (h : pl.hostOk (pa, pn) = true) : (∃ b, pl.addr pa = some b) ∧ pn.length ≠ 0 ∧ pn.length ≤ 20 ∧ pn.all pl.plain = true := by
  unfold pl.hostOk at h
  simp only [Bool.and_eq_true, decide_eq_true_eq] at h
  obtain ⟨⟨⟨h1, h2⟩, h3⟩, h4⟩ := h
  exact ⟨Option.isSome_iff_exists.1 h1, h2, h3, h4⟩

def FitL (l : HostL) : Prop := ∀ (k : Nat) (p : List UInt8 × List (List UInt8)), l[k]? = some p → p.1.length ≤ 2147483647 ∧ ∀ q ∈ p.2, q.length ≤ 2147483647
theorem FitL.of {l : HostL} (hf : pl.fits1 l = true) : FitL l := fun k p hp => by
  unfold pl.fits1 at hf
  rw [Bool.and_eq_true, List.all_eq_true] at hf
  have h2 := hf.2 p (List.mem_of_getElem? hp)
  unfold pl.fits2 pl.fits3 at h2
  rw [Bool.and_eq_true, Bool.and_eq_true, List.all_eq_true] at h2
  exact ⟨by simpa using h2.1, fun q hq => by simpa using h2.2.2 q hq⟩

theorem pl.flat_len {α β : Type} (l : List α) (f : α → List β) (n : Nat) (h : ∀ x ∈ l, (f x).length ≤ n) : (l.flatMap f).length ≤ l.length * n := by
  induction l with
  | nil => simp
  | cons a l ih =>
    rw [List.flatMap_cons, List.length_append, List.length_cons, Nat.add_mul, Nat.one_mul]
    have h1 := h a (by simp)
    have h2 := ih (fun x hx => h x (by simp [hx]))
    omega

set_option maxRecDepth 100000 in
set_option maxHeartbeats 8000000 in
theorem names_sp (v : Value) (l : HostL) (ad b0 : List UInt8) (w : World) (hv : RdH w v l) (hf : FitL l) (hok : l.all pl.hostOk = true) (hl : l.length ≤ 100) (hal : ad.length ≤ 2147483648) (had : pl.addr ad = some b0) :
    Calls Tryd.prog 19 #[v, .string ⟨ad.toArray⟩] w fun e w' => ∃ v', e = .returned v' ∧ Hid (Strs w' w.heap.size v' (pl.namesOf l b0)) ∧ Hid (Below w.heap.size w w') := by
  have cv : ∀ (W : World) (v : Value) (l : List UInt8), Reads W v l → (convert 26 9 v).run Tryd.prog W = .ok (.string ⟨l.toArray⟩) W := fun W v l h => conv_back 26 9 5 Tryd.underlying26 Tryd.underlying5 Tryd.underlying9 h
  obtain ⟨a, cap, rfl, hc⟩ := hv
  have hadr := fun W => addr_some ad b0 hal had W
  rw [List.all_eq_true] at hok
  have hok' : ∀ (k : Nat) (p : List UInt8 × List (List UInt8)), l[k]? = some p → pl.hostOk p = true := fun k p hp => hok p (List.mem_of_getElem? hp)
  have hnl : ∀ k, (pl.namesOf (l.take k) b0).length ≤ 2000 := fun k => by
    have h1 : (pl.namesOf (l.take k) b0).length ≤ (l.take k).length * 20 := pl.flat_len _ _ 20 fun x hx => by
      split
      · rw [List.length_map]
        exact (pl.hostOk_parts x.1 x.2 (hok x (List.mem_of_mem_take hx))).2.2.1
      · simp
    have h2 : (l.take k).length ≤ l.length := List.length_take_le' _ _
    omega
  have HC := Lib.hid hc
  have HCV := Lib.hid cv
  have HADR := Lib.hid hadr
  have HOK := Lib.hid hok'
  have HFI := Lib.hid hf
  have HNL := Lib.hid hnl
  clear hc cv hadr hok hok' hf hnl had hal
  go_enter Tryd.func19, Tryd.ntmps19
  go_wp2_with (go_at_call 15; refine (HADR.out _).mono ?_; rintro e w1 ⟨a1, c1, rfl, HR1, HB1⟩)
  go_loopw [7, 21] (fun out i wr => ∃ k : Nat, k ≤ l.length ∧ i = .int .i64 k ∧ Strs wr w1.heap.size out (pl.namesOf (l.take k) b0) ∧ Below w1.heap.size w1 wr) (fun _ i _ => l.length - (intOf i).toNat)
  case atStart => exact ⟨0, Nat.zero_le _, rfl, Strs.nil _ _, Below.refl _ _⟩
  case round =>
    obtain ⟨k, hk, rfl, hown, hb⟩ := hrel
    by_cases hlt : k < l.length
    · obtain ⟨p, hp⟩ : ∃ p, l[k]? = some p := ⟨_, List.getElem?_eq_getElem hlt⟩
      obtain ⟨pa, pn⟩ := p
      obtain ⟨ga, oa, vn, rfl, hga, hcell, hcell2, hrd⟩ := HC.out k (pa, pn) hp
      have hbw : Below w.heap.size w wr := HB1.out.trans (hb.mono HB1.out.size)
      have hc1 : wr.cell? ⟨ga, oa + k * 2, none⟩ = some (pl.strV pa) := by rw [below_cell hbw _ _ hga]; exact hcell
      have hc2 : wr.cell? ⟨ga, oa + k * 2 + 1, none⟩ = some vn := by rw [below_cell hbw _ _ hga]; exact hcell2
      obtain ⟨hpa, hpn⟩ := HFI.out k (pa, pn) hp
      obtain ⟨⟨b, hb0⟩, hn0, hn20, _⟩ := pl.hostOk_parts pa pn (HOK.out k _ hp)
      obtain ⟨an, cn, rfl, _, _, hnc⟩ := hrd
      have hpa' : pa.length ≤ 2147483647 := hpa
      have had2 := fun W => addr_some pa b (by omega) hb0 W
      have HAD := Lib.hid had2
      have HNC := Lib.hid hnc
      have HPN := Lib.hid hpn
      have HP := Lib.hid hp
      have HB := Lib.hid hb
      have HBB := Lib.hid hb0
      have HOWN := Lib.hid hown
      have HN20 : Hid (pn.length ≤ 20) := Lib.hid hn20
      obtain ⟨ao, co, rfl, _⟩ := hown.form
      unfold pl.strV at hc1
      dsimp only at hc2
      clear had2 hnc hpn hp hcell hcell2 hpa hb0 hown hn0
      by_cases hbe : b = b0
      · subst hbe
        go_wp2_with (go_at_call 15; have HBX := Lib.hid (HB.out.alloc HB.out.size (Obj.cells #[.string ⟨pa.toArray⟩, .slice an pn.length cn] 68)); refine (HAD.out _).mono ?_; rintro e w2 ⟨a2, c2, rfl, HR2, hb2⟩; have c20 : w2.cell? ⟨wr.heap.size, 0, none⟩ = some (.string ⟨pa.toArray⟩) := ((Blk.new wr #[.string ⟨pa.toArray⟩, .slice an pn.length cn] 68).below hb2.out (Blk.new wr _ 68).lt).cell 0; have c21 : w2.cell? ⟨wr.heap.size, 1, none⟩ = some (.slice an pn.length cn) := ((Blk.new wr #[.string ⟨pa.toArray⟩, .slice an pn.length cn] 68).below hb2.out (Blk.new wr _ 68).lt).cell 1; have HB2 := Lib.hid (HBX.out.trans (hb2.out.mono HBX.out.size)); have f1 := HCV.out w2 _ _ HR2.out; have f2 := HCV.out w2 _ _ (HR1.out.below HB2.out); have HO2 := Lib.hid ((HOWN.out.below ((Below.refl _ _).alloc (Nat.le_refl _) _)).below hb2.out); clear hb2)
        obtain ⟨wo, rfl⟩ : ∃ wo : World, wo = wr := ⟨_, rfl⟩
        have hw2 : Below w1.heap.size w1 w2 := HB2.out
        have ho2 := HO2.out
        go_loopw [7, 43] (fun out j wq => ∃ m : Nat, m ≤ pn.length ∧ j = .int .i64 m ∧ Strs wq w1.heap.size out (pl.namesOf (l.take k) b ++ (pn.map pl.absN).take m) ∧ Below w1.heap.size w1 wq) (fun _ j _ => pn.length - (intOf j).toNat)
        case atStart => exact ⟨0, Nat.zero_le _, rfl, by simpa using ho2, hw2⟩
        case round =>
          obtain ⟨m, hm, rfl, hown, hbq⟩ := hrel
          by_cases hlm : m < pn.length
          · obtain ⟨q, hq⟩ : ∃ q, pn[m]? = some q := ⟨_, List.getElem?_eq_getElem hlm⟩
            obtain ⟨gn, on, rfl, hgn, hqc⟩ := HNC.out m q hq
            have hbwq : Below w.heap.size w wr := HB1.out.trans (hbq.mono HB1.out.size)
            have hq1 : wr.cell? ⟨gn, on + m, none⟩ = some (pl.strV q) := by rw [below_cell hbwq _ _ hgn]; exact hqc
            unfold pl.strV at hq1
            have hql := HPN.out q (List.mem_of_getElem? hq)
            have hab := fun W => abs_is q hql W
            have HAB := Lib.hid hab
            have HQ := Lib.hid hq
            have hll : (pl.namesOf (l.take k) b ++ (pn.map pl.absN).take m).length < 8796093022207 := by
              rw [List.length_append]
              have h1 := HNL.out k
              have h2 := List.length_take_le' m (pn.map pl.absN)
              rw [List.length_map] at h2
              have h3 := HN20.out
              omega
            have HLL := Lib.hid hll
            clear hab hq hqc hll
            go_wp2_with (first
              | (go_at_call 47; refine (HAB.out _).mono ?_; rintro e w3 ⟨rfl, n3, rfl⟩)
              | (at_builtin; refine app_str (w := w1) (pl.absN q) rfl _ _ rfl rfl w1.heap.size (hown.below (below_drewN (Below.refl _ _) _)) rfl rfl HLL.out (below_drewN hbq _) (Nat.le_refl _) ?_))
            intro v' w' hown' hb' _
            clear hown hbq
            go_wp2_with fail
            go_roundw
            case rel => exact ⟨m + 1, by omega, by go_num, by rw [pl.take_at (pn.map pl.absN) m (pl.absN q) (by rw [List.getElem?_map, HQ.out]; rfl)]; exact hown', hb'⟩
            case measure => simp [intOf]; omega
          · have hme : (pn.map pl.absN).take m = pn.map pl.absN := List.take_of_length_le (by rw [List.length_map]; omega)
            rw [hme] at hown
            have hst : pl.namesOf (l.take k) b ++ pn.map pl.absN = pl.namesOf (l.take (k + 1)) b := by
              unfold pl.namesOf
              rw [pl.take_at l k _ HP.out, List.flatMap_append]
              simp [HBB.out]
            rw [hst] at hown
            clear hme hst
            go_wp2_with fail
            go_roundw
            case rel => exact ⟨k + 1, by omega, by go_num, hown, hbq⟩
            case measure => simp [intOf]; omega
      · have hne : (b == b0) = false := by rw [beq_eq_false_iff_ne]; exact hbe
        have HBE := Lib.hid hbe
        clear hbe
        go_wp2_with (go_at_call 15; have HBX := Lib.hid (HB.out.alloc HB.out.size (Obj.cells #[.string ⟨pa.toArray⟩, .slice an pn.length cn] 68)); refine (HAD.out _).mono ?_; rintro e w2 ⟨a2, c2, rfl, HR2, hb2⟩; have c20 : w2.cell? ⟨wr.heap.size, 0, none⟩ = some (.string ⟨pa.toArray⟩) := ((Blk.new wr #[.string ⟨pa.toArray⟩, .slice an pn.length cn] 68).below hb2.out (Blk.new wr _ 68).lt).cell 0; have c21 : w2.cell? ⟨wr.heap.size, 1, none⟩ = some (.slice an pn.length cn) := ((Blk.new wr #[.string ⟨pa.toArray⟩, .slice an pn.length cn] 68).below hb2.out (Blk.new wr _ 68).lt).cell 1; have HB2 := Lib.hid (HBX.out.trans (hb2.out.mono HBX.out.size)); have f1 := HCV.out w2 _ _ HR2.out; have f2 := HCV.out w2 _ _ (HR1.out.below HB2.out); have HO2 := Lib.hid ((HOWN.out.below ((Below.refl _ _).alloc (Nat.le_refl _) _)).below hb2.out); clear hb2)
        have hst : pl.namesOf (l.take (k + 1)) b0 = pl.namesOf (l.take k) b0 := by
          unfold pl.namesOf
          rw [pl.take_at l k _ HP.out, List.flatMap_append]
          have : ¬ (pl.addr pa = some b0) := by rw [HBB.out]; intro h; injection h with h; exact HBE.out h
          simp [this]
        have HST := Lib.hid hst
        clear hst
        go_roundw
        case rel => exact ⟨k + 1, by omega, by go_num, by rw [HST.out]; exact HO2.out, HB2.out⟩
        case measure => simp [intOf]; omega
    · have hke : l.take k = l := List.take_of_length_le (by omega)
      rw [hke] at hown
      go_wp2_with fail
      go_ret
      exact ⟨_, rfl, Lib.hid (hown.mono HB1.out.size), Lib.hid (HB1.out.trans (hb.mono HB1.out.size))⟩

end Go.Proofs.YtfkohahlpfejbaaDoor
