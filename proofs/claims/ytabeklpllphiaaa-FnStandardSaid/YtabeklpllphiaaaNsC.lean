/-
  WALKS: parseCriteria$1.
-/
import Derived.Test.YtabeklpllphiaaaPlNs
import Derived.Deep.RegionLaw
import Derived.Deep.DrawnRows
namespace Go.Proofs.Ytabeklpllphiaaa
open Go.RowKit
attribute [local go_sem ↓] Go.wp_at_zero Go.wp_at_succ

theorem conv_to (s : ByteArray) (W : World) : ∃ W1 cap, (convert 9 33 (.string s)).run Try.prog W = .ok (.slice (some ⟨W.heap.size, 0, none⟩) s.size cap) W1 ∧ ByteRow W1 W.heap.size s.data.toList ∧ Below W.heap.size W W1 ∧ W1.heap.size = W.heap.size + 1 := by
  refine ⟨_, _, run_bytes_of_string (P := Try.prog) W 9 33 5 s Try.underlying9 Try.underlying33 Try.underlying5, ByteRow.of_string W s _, (Below.refl _ _).drew.alloc (Nat.le_refl _) _, ?_⟩
  show (W.heap.push _).size = _
  simp
theorem conv_from (W : World) (g cap n : Nat) (l : List UInt8) (hn : l.length = n) (h : ByteRow W g l) : (convert 33 9 (.slice (some ⟨g, 0, none⟩) n cap)).run Try.prog W = .ok (.string ⟨l.toArray⟩) W := by
  subst hn
  exact run_convert_bytes_back (P := Try.prog) W 33 9 5 ⟨g, 0, none⟩ cap l Try.underlying33 Try.underlying5 Try.underlying9 (fun j hj => by
    rw [Addr.add_lit, Nat.zero_add]
    exact h.cell j _ (List.getElem?_eq_getElem hj))
theorem infoNC : (Try.prog.info? 110).map (fun i => (i.zero, i.size, i.bytes)) = some (some (.agg #[.bool false, .string ⟨#[]⟩, .string ⟨#[]⟩]), 3, 40) := by kernel_rfl

theorem Crs.snoc {w : World} {B : Nat} {t : TypeId} {v : Value} {l : List Crit} {c : Crit} {cs : List Value} (h : w.ownsRow B t 3 v (l.length + 1) (l.flatMap critCells ++ cs)) (e : cs = critCells c) : Crs w B t v (l ++ [c]) := by
  subst e
  unfold Crs
  rw [List.length_append, List.flatMap_append]
  simpa using h
def ClRes (gc : Nat) (l : List Crit) (w : World) (e : Ending) (w' : World) : Prop :=
  e = .returned .nilIface ∧ ∃ v', Blk w' gc #[v'] 106 ∧ Crs w' (gc + 1) 110 v' l ∧ Below gc w w'

set_option maxHeartbeats 8000000 in
theorem cl_sp (gc : Nat) (c : Crit) (l : List Crit) (v : Value) (w : World) (hok : pl.critOk c = true) (hfit : FitC c) (hB : Blk w gc #[v] 106) (hC : Crs w (gc + 1) 110 v l) (hl : l.length ≤ 100) :
    Calls Try.prog 58 #[.string ⟨(pl.critTx c).toArray⟩, .pointer (some ⟨gc, 0, none⟩)] w (ClRes gc (l ++ [pl.lowC c]) w) := by
  obtain ⟨av, cv, rfl⟩ := Row.shape hC
  obtain ⟨N, hN⟩ : ∃ N, l.length = N := ⟨_, rfl⟩
  rw [hN] at hC hB
  have HNN := Lib.hid hN.symm
  clear hN
  obtain ⟨ng, st, ac⟩ := c
  obtain ⟨hp1, hp2⟩ := pl.critOk_parts _ hok
  obtain ⟨hn1, ho1⟩ := pl.plain_ok st hp1
  obtain ⟨hn2, ho2⟩ := pl.plain_ok ac hp2
  obtain ⟨hf1, hf2⟩ := hfit
  have hf1' : st.length ≤ 2147483647 := hf1
  have hf2' : ac.length ≤ 2147483647 := hf2
  have hp1' := List.length_pos_iff.2 hn1
  have hp2' := List.length_pos_iff.2 hn2
  obtain ⟨k, hk⟩ : ∃ k : Nat, st.length = k := ⟨_, rfl⟩
  obtain ⟨G, hG⟩ : ∃ G : ByteArray, G.data.toList = st ++ 61 :: ac := ⟨⟨(st ++ 61 :: ac).toArray⟩, rfl⟩
  have hGs : G.size = k + 1 + ac.length := by
    have h : G.data.toList.length = G.size := by simp
    rw [hG, List.length_append, List.length_cons, hk] at h
    omega
  have hix : pl.idx G.data.toList 61 = (k : Int) := by
    rw [hG, ← hk]
    exact pl.idx_byte 61 st ac (fun h => (pl.ok_ne 61 (ho1 61 h)).2.2.2.2.1 rfl)
  have hasc : ∀ b ∈ G.data.toList, b.toNat < 128 := fun b hb => by
    rw [hG] at hb
    rcases List.mem_append.1 hb with hb | hb
    · exact pl.ok_asc b (ho1 b hb)
    · rcases List.mem_cons.1 hb with rfl | hb
      · decide
      · exact pl.ok_asc b (ho2 b hb)
  obtain ⟨u, hu⟩ : ∃ u, G.data.toList.any pl.upB = u := ⟨_, rfl⟩
  obtain ⟨H, hH, hHu⟩ : ∃ H : ByteArray, H.data.toList = pl.low st ++ 61 :: pl.low ac ∧ (u = false → H = G) := by
    rcases u with _ | _
    · exact ⟨G, by rw [← pl.low_body, ← hG]; exact (pl.upB_low _ hu).symm, fun _ => rfl⟩
    · exact ⟨⟨(pl.low st ++ 61 :: pl.low ac).toArray⟩, rfl, fun h => by cases h⟩
  have hHs : H.size = G.size := by
    have h : H.data.toList.length = H.size := by simp
    rw [hH, List.length_append, List.length_cons, pl.low_len, pl.low_len, hk] at h
    omega
  have hHt : H.extract 0 k = ⟨(pl.low st).toArray⟩ := by
    rw [pl.ext_take, hH, List.take_append_of_le_length (by rw [pl.low_len]; omega), List.take_of_length_le (by rw [pl.low_len]; omega)]
  have hHd : H.extract (k + 1) H.size = ⟨(pl.low ac).toArray⟩ := by
    have hlk : (pl.low st).length = k := by rw [pl.low_len, hk]
    have hd : (pl.low st ++ 61 :: pl.low ac).drop (k + 1) = pl.low ac := by rw [← hlk, ← List.drop_drop, List.drop_left]; rfl
    rw [pl.ext_drop, hH, hd]
  have hlow : pl.low G.data.toList = H.data.toList := by rw [hG, hH, pl.low_body]
  have hup := fun W => hup_sp G W (by omega) hasc
  rw [hu] at hup
  have hHe : H = ⟨(pl.low G.data.toList).toArray⟩ := pl.ba_ext hlow.symm
  obtain ⟨SB, hSB⟩ : ∃ SB : ByteArray, (⟨(pl.low st).toArray⟩ : ByteArray) = SB := ⟨_, rfl⟩
  obtain ⟨AB, hAB⟩ : ∃ AB : ByteArray, (⟨(pl.low ac).toArray⟩ : ByteArray) = AB := ⟨_, rfl⟩
  rw [hSB] at hHt
  rw [hAB] at hHd
  have hcr : ([.bool ng, .string SB, .string AB] : List Value) = critCells (pl.lowC (ng, st, ac)) := by rw [← hSB, ← hAB]; rfl
  obtain ⟨F, hF⟩ : ∃ F : ByteArray, (⟨(pl.critTx (ng, st, ac)).toArray⟩ : ByteArray) = F := ⟨_, rfl⟩
  have hFd : F.data.toList = (if ng = true then [33] else []) ++ G.data.toList := by rw [← hF, hG]; rfl
  rw [hF]
  have hG3 : ¬ ((G.size : Int) < 3) := by omega
  have hG0 : 0 < G.size := by omega
  have hG0i : (0 : Int) < (G.size : Int) := by omega
  have hi := fun W => idx_val' G 61 k W hix (by omega)
  have hg0 : ((G[0].toNat : Int) == 33) = false := by
    have h1 := pl.getElem_data G 0 hG0
    rw [hG] at h1
    match st, hn1, ho1, h1 with
    | x :: r, _, ho1, h1 =>
      injection h1 with h1
      rw [← h1, beq_eq_false_iff_ne]
      intro e
      exact (pl.ok_ne x (ho1 x (by simp))).2.1 (UInt8.toNat_inj.1 (by have : (33 : UInt8).toNat = 33 := rfl; omega))
  have hkG : (k : Int) ≤ (G.size : Int) := by omega
  have hkG1 : (k : Int) + 1 ≤ (G.size : Int) := by omega
  have hGb : G.size ≤ 5000000000 := by omega
  have hk0 : (0 : Int) ≤ (k : Int) := by omega
  have hkb : k ≤ 2147483647 := by omega
  have HUP := Lib.hid hup
  have HI := Lib.hid hi
  have HHE := Lib.hid hHe
  have HHU := Lib.hid hHu
  have HB := Lib.hid hB
  have HC := Lib.hid hC
  have HL := Lib.hid hl
  have HCR := Lib.hid hcr
  have HHT := Lib.hid hHt
  have HHD := Lib.hid hHd
  have HHS := Lib.hid hHs
  have HGS := Lib.hid hGs
  clear hok hp1 hp2 hn1 ho1 hn2 ho2 hf1 hf2 hf1' hf2' hp1' hp2' hk hix hasc hu hH hHu hHs hHt hHd hlow hup hHe hSB hAB hcr hi hB hC hl hG hF hGs
  rcases ng with _ | _
  focus
    have hFG : G = F := pl.ba_ext (by rw [hFd]; rfl)
    subst hFG
    clear hFd
  rotate_left
  focus
    have hFd' : F.data.toList = 33 :: G.data.toList := by rw [hFd]; rfl
    have hFs : F.size = G.size + 1 := by
      have h : F.data.toList.length = F.size := by simp
      have h2 : G.data.toList.length = G.size := by simp
      rw [hFd', List.length_cons] at h
      omega
    have hF0 : 0 < F.size := by omega
    have hF0i : (0 : Int) < (F.size : Int) := by omega
    have hF1i : (1 : Int) ≤ (F.size : Int) := by omega
    have hFb : F[0] = 33 := by
      have h1 := pl.getElem_data F 0 hF0
      rw [hFd'] at h1
      injection h1 with h1
      exact h1.symm
    have hFG : F.extract 1 F.size = G := pl.ba_ext (by rw [Lib.extract_to_end, hFd']; rfl)
    clear hFd hFd' hFs hg0
  rotate_left
  all_goals
    rcases u with _ | _
    focus
      have hHG := (HHU.out rfl).symm
      subst hHG
      go_enter Try.func58, Try.ntmps58
      go_wp2_with (first
        | (go_at_call 46; refine (HI.out _).mono ?_; rintro e w1 ⟨rfl, rfl⟩)
        | (go_at_call 59; refine (HUP.out _).mono ?_; rintro e w1 ⟨rfl, hb1⟩; have HB1 := Lib.hid hb1; clear hb1))
      refine wp_name (fun V hV => ?_)
      have hbV : Below w.heap.size w V := by rw [hV]; exact HB1.out
    rotate_left
    focus
      go_enter Try.func58, Try.ntmps58
      go_wp2_with (first
        | (go_at_call 46; refine (HI.out _).mono ?_; rintro e w1 ⟨rfl, rfl⟩)
        | (go_at_call 59; refine (HUP.out _).mono ?_; rintro e w1 ⟨rfl, hb1⟩; have HB1 := Lib.hid hb1; obtain ⟨Wc, cap, hconv, hrow, hbc, hszc⟩ := conv_to G w1; have hlab := lab_sp w1.heap.size cap G Wc (by omega) hrow; have HLAB := Lib.hid hlab; have HBC := Lib.hid hbc; clear hb1 hlab hbc hszc hrow)
        | (go_at_call 60; refine HLAB.out.mono ?_; rintro e w2 ⟨rfl, hR5, hb5⟩; have hbk := conv_from w2 w1.heap.size cap G.size (pl.low G.data.toList) (by rw [pl.low_len]; simp) hR5; rw [← HHE.out] at hbk; have hbx : Below w.heap.size w w2 := HB1.out.trans ((HBC.out.trans hb5).mono HB1.out.size); have HB2 := Lib.hid hbx; clear hb5 hR5 hbx))
      refine wp_name (fun V hV => ?_)
      have hbV : Below w.heap.size w V := by rw [hV]; exact HB2.out
      have hsH := HHS.out
      have hkG : (k : Int) ≤ (H.size : Int) := by omega
      have hkG1 : (k : Int) + 1 ≤ (H.size : Int) := by omega
      clear hsH
    rotate_left
  all_goals
    have hBV := HB.out.below hbV HB.out.lt
    have hCV := HC.out.below hbV
    have hwV : Below gc w V := hbV.mono (Nat.le_of_lt HB.out.lt)
    have hV0 : V.cell? ⟨gc, 0, none⟩ = some (.slice av N cv) := hBV.cell 0
    have hV0d : V.drew.cell? ⟨gc, 0, none⟩ = some (.slice av N cv) := hV0
    have hbeg : ∀ q : Bool, Below V.heap.size V (V.alloc (Obj.cells #[.bool q, .string SB, .string AB] 110)).drew := fun q => ((Below.refl V.heap.size V).alloc (Nat.le_refl _) _).drew
    have hU0 : ∀ q : Bool, (V.alloc (Obj.cells #[.bool q, .string SB, .string AB] 110)).cell? ⟨gc, 0, none⟩ = some (.slice av N cv) := fun q => (hBV.below (hbeg q) hBV.lt).cell 0
    have hBU := fun q => hBV.below (hbeg q) hBV.lt
    have hCU := fun q => hCV.below (hbeg q)
    have hrow : ∀ q : Bool, Blk (V.alloc (Obj.cells #[.bool q, .string SB, .string AB] 110)).drew V.heap.size #[.bool q, .string SB, .string AB] 110 := fun q => Blk.new V _ _
    have hzU : ∀ q : Bool, gc + 1 ≤ (V.alloc (Obj.cells #[.bool q, .string SB, .string AB] 110)).drew.heap.size := fun q => (hBU q).lt
    have hwr : IntKind.i64.wrap ((k : Int) + 1) = (k : Int) + 1 := IntWalk.i64_in _ (by omega)
    have hnn : (0 : Int) ≤ (k : Int) + 1 := by omega
    have htn : ((k : Int) + 1).toNat = k + 1 := by omega
    have HBU := Lib.hid hBU
    have HCU := Lib.hid hCU
    have HROW := Lib.hid hrow
    have HZU := Lib.hid hzU
    have HBV := Lib.hid hwV
    have HAL := Lib.hid hbeg
    have HKV := Lib.hid hBV.lt
    clear hV hbV hBV hCV hwV hbeg hBU hCU hrow hzU
    have hHT := HHT.out
    have hHD := HHD.out
    go_region_law (refine step_row 106 110 (.agg #[.bool false, .string ⟨#[]⟩, .string ⟨#[]⟩]) 3 40 Try.underlying106 infoNC rfl (by decide) (by decide) #[.bool _, .string SB, .string AB] rfl (by simp [Value.oneCell']) rfl _ _ rfl rfl (gc + 1) (HCU.out _) V.heap.size rfl (HROW.out _) (by have := HL.out; have := HNN.out; omega) (HZU.out _) ?_; intro v9 w9 hv9 hg9 hp9; have hb9 := (HBU.out _).keepT (KeepT.grown (HCU.out _) hg9) (by decide); have c90 : w9.cell? ⟨gc, 0, none⟩ = some (.slice av N cv) := hb9.cell 0; have f90 := hb9.frozen 0; have HB9 := Lib.hid hb9; have HV9 := Lib.hid hv9; have HG9 := Lib.hid hg9; obtain ⟨a9, c9, rfl⟩ := Row.shape hv9; clear hb9 hv9 hg9 hp9)
    all_goals
      go_wp2_with fail
      go_ret
      refine ⟨rfl, _, HB9.out.set 0 _, ?_, ?_⟩
      · have h9 := ownsRow_far HV9.out gc 0 (.slice a9 (l.length + 1) c9) (Nat.lt_succ_self gc)
        exact Crs.snoc h9 HCR.out
      · refine Below.setCell (p := ⟨gc, 0, none⟩) ?_ (Nat.le_refl gc) _
        refine Below.grown ?_ HG9.out ?_ ?_
        · exact HBV.out.trans ((HAL.out _).mono (Nat.le_of_lt HKV.out))
        · exact Nat.le_of_lt (HZU.out _)
        · exact fun q hq => Nat.le_of_succ_le ((World.ownsRow.lt HC.out q hq).1)

end Go.Proofs.Ytabeklpllphiaaa
