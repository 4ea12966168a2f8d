/-
  WALK: spec.PortOf.
-/
import Derived.Test.YtabeklpllphiaaaSvW
namespace Go.Proofs.Ytabeklpllphiaaa
open Go.RowKit

theorem pl.port_hit (l : SvcL) (p n : Key) (k : Nat) (s : Svc) (hk : l[k]? = some s) (h : (l.take k).all (fun s => !pl.svHit s p n) = true) (hh : pl.svHit s p n = true) : pl.portOf l p n = some s.2.1 := by
  obtain ⟨hl, e⟩ := List.getElem?_eq_some_iff.1 hk
  have hs : l = l.take k ++ s :: l.drop (k + 1) := by
    rw [← e, ← List.drop_eq_getElem_cons hl, List.take_append_drop]
  unfold pl.portOf
  rw [hs, List.find?_append]
  have h0 : (l.take k).find? (fun s => pl.svHit s p n) = none := by
    rw [List.find?_eq_none]
    intro t ht hx
    rw [List.all_eq_true] at h
    have := h t ht
    rw [hx] at this
    cases this
  rw [h0, List.find?_cons_of_pos (p := fun s => pl.svHit s p n) hh]
  rfl
theorem pl.port_no (l : SvcL) (p n : Key) (h : l.all (fun s => !pl.svHit s p n) = true) : pl.portOf l p n = none := by
  unfold pl.portOf
  have h0 : l.find? (fun s => pl.svHit s p n) = none := by
    rw [List.find?_eq_none]
    intro t ht hx
    rw [List.all_eq_true] at h
    have := h t ht
    rw [hx] at this
    cases this
  rw [h0]; rfl

set_option maxRecDepth 100000 in
set_option maxHeartbeats 8000000 in
theorem portof_sp (v : Value) (l : SvcL) (pr0 nm0 : Key) (w : World) (hv : RdV w v l) (hf : FitV l) (hl : l.length ≤ 100) (h20 : ∀ s ∈ l, s.2.2.2.length ≤ 20) (h1 : pr0.length ≤ 2147483647) (h2 : nm0.length ≤ 2147483647) :
    Calls Try.prog 14 #[v, .string ⟨pr0.toArray⟩, .string ⟨nm0.toArray⟩] w fun e w' => e = .returned (.tuple #[.int .i64 ((pl.portOf l pr0 nm0).getD 0), .bool (pl.portOf l pr0 nm0).isSome]) ∧ Hid (Below w.heap.size w w') := by
  obtain ⟨a, cap, rfl, hc⟩ := hv
  obtain ⟨PB, hPB⟩ : ∃ PB : ByteArray, (⟨pr0.toArray⟩ : ByteArray) = PB := ⟨_, rfl⟩
  obtain ⟨NB, hNB⟩ : ∃ NB : ByteArray, (⟨nm0.toArray⟩ : ByteArray) = NB := ⟨_, rfl⟩
  have hPd : PB.data.toList = pr0 := by rw [← hPB]
  have hNd : NB.data.toList = nm0 := by rw [← hNB]
  have HC := Lib.hid hc
  have HFI := Lib.hid hf
  have H20 := Lib.hid h20
  have HPD := Lib.hid hPd
  have HND := Lib.hid hNd
  rw [hPB, hNB]
  clear hc hf h20 hPB hNB hPd hNd h1 h2
  go_enter Try.func14, Try.ntmps14
  go_wp2_with fail
  go_loopw [14] (fun i wr => ∃ k : Nat, k ≤ l.length ∧ i = .int .i64 k ∧ Hid ((l.take k).all (fun s => !pl.svHit s pr0 nm0) = true) ∧ Below w.heap.size w wr) (fun i _ => l.length - (intOf i).toNat)
  case atStart => exact ⟨0, Nat.zero_le _, rfl, Lib.hid rfl, Below.refl _ _⟩
  case round =>
    obtain ⟨k, hk, rfl, HA, hb⟩ := hrel
    by_cases hlt : k < l.length
    · obtain ⟨p, hp⟩ : ∃ p, l[k]? = some p := ⟨_, List.getElem?_eq_getElem hlt⟩
      obtain ⟨nm, pt, pr, al⟩ := p
      obtain ⟨ga, oa, vn, rfl, hga, hcell, hcell2, hcell3, hcell4, hrd⟩ := HC.out k (nm, pt, pr, al) hp
      obtain ⟨PRB, hPRB⟩ : ∃ PRB : ByteArray, (⟨pr.toArray⟩ : ByteArray) = PRB := ⟨_, rfl⟩
      have hPRd : PRB.data.toList = pr := by rw [← hPRB]
      have hc1 : wr.cell? ⟨ga, oa + k * 4, none⟩ = some (pl.strV nm) := by rw [below_cell hb _ _ hga]; exact hcell
      have hc2 : wr.cell? ⟨ga, oa + k * 4 + 1, none⟩ = some (.int .i64 pt) := by rw [below_cell hb _ _ hga]; exact hcell2
      have hc3 : wr.cell? ⟨ga, oa + k * 4 + 2, none⟩ = some (.string PRB) := by rw [below_cell hb _ _ hga, hcell3, ← hPRB]; rfl
      have hc4 : wr.cell? ⟨ga, oa + k * 4 + 3, none⟩ = some vn := by rw [below_cell hb _ _ hga]; exact hcell4
      have hn20 : al.length ≤ 20 := H20.out _ (List.mem_of_getElem? hp)
      have hrd0 := hrd
      obtain ⟨an, cn, rfl, _, _, hnc⟩ := hrd
      have hhit : pl.svHit (nm, pt, pr, al) pr0 nm0 = true → pl.portOf l pr0 nm0 = some pt := fun h => pl.port_hit l pr0 nm0 k _ hp HA.out h
      have hmis : pl.svHit (nm, pt, pr, al) pr0 nm0 = false → (l.take (k + 1)).all (fun s => !pl.svHit s pr0 nm0) = true := fun h => pl.all_take l (fun s => !pl.svHit s pr0 nm0) k _ hp HA.out (by rw [h]; rfl)
      unfold pl.strV at hc1
      dsimp only at hc2 hc4
      have hbx : Below w.heap.size w (wr.alloc (Obj.cells #[.string ⟨nm.toArray⟩, .int .i64 pt, .string PRB, .slice an al.length cn] 61)) := hb.alloc hb.size _
      have hszx : (wr.alloc (Obj.cells #[.string ⟨nm.toArray⟩, .int .i64 pt, .string PRB, .slice an al.length cn] 61)).heap.size = wr.heap.size + 1 := by simp
      have hby : Below w.heap.size w ((wr.alloc (Obj.cells #[.string ⟨nm.toArray⟩, .int .i64 pt, .string PRB, .slice an al.length cn] 61)).alloc (Obj.cells #[.string ⟨nm.toArray⟩] 9)) := hbx.alloc hbx.size _
      have hvn : Strs ((wr.alloc (Obj.cells #[.string ⟨nm.toArray⟩, .int .i64 pt, .string PRB, .slice an al.length cn] 61)).alloc (Obj.cells #[.string ⟨nm.toArray⟩] 9)) w.heap.size (.slice (some ⟨wr.heap.size + 1, 0, none⟩) 1 1) [nm] := by
        have h := World.ownsRow_lit (base := w.heap.size) (e := 9) (size := 1) (wr.alloc (Obj.cells #[.string ⟨nm.toArray⟩, .int .i64 pt, .string PRB, .slice an al.length cn] 61)) #[.string ⟨nm.toArray⟩] 1 hbx.size (by unfold maxLen; omega) rfl
        rw [hszx] at h
        exact h
      have hrd1 := hrd0.below hby
      have hbk := (Blk.new wr #[.string ⟨nm.toArray⟩, .int .i64 pt, .string PRB, .slice an al.length cn] 61).alloc (Obj.cells #[.string ⟨nm.toArray⟩] 9)
      have c3 := fun o => ((Blk.new wr #[.string ⟨nm.toArray⟩, .int .i64 pt, .string PRB, .slice an al.length cn] 61).alloc o).cell 3
      have c0 := (Blk.new wr #[.string ⟨nm.toArray⟩, .int .i64 pt, .string PRB, .slice an al.length cn] 61).cell 0
      simp at c3 c0
      have HHIT := Lib.hid hhit
      have HMIS := Lib.hid hmis
      have HBY := Lib.hid hby
      have HVN := Lib.hid hvn
      have HRD1 := Lib.hid hrd1
      have HBK := Lib.hid hbk
      have HPR := Lib.hid hPRd
      have HB := Lib.hid hb
      have HN20 := Lib.hid hn20
      clear hhit hmis hby hvn hrd1 hbk hPRd hbx hszx hrd0 hnc hcell hcell2 hcell3 hcell4 hPRB hp
      go_wp2_with (at_builtin; refine app_strs (w := w) (v := .slice (some ⟨wr.heap.size + 1, 0, none⟩) 1 1) (yv := .slice an al.length cn) (l := [nm]) (m := al) rfl (.tmp 20) (.tmp 22) rfl rfl w.heap.size HVN.out rfl HRD1.out (by have := HN20.out; simp; omega) HBY.out (Nat.le_refl _) ?_; intro v4 w4 hs4 hb4 hg4; have hbk := HBK.out.keep (hg4.block wr.heap.size HBK.out.lt (by intro e; simp only [Value.ownBlock, Option.some.injEq] at e; omega)); have q1 := hbk.cell 1; have q2 := hbk.cell 2; simp at q1 q2; have HS4 := Lib.hid hs4; have HB4 := Lib.hid hb4; obtain ⟨a4, c4, rfl, hf4⟩ := hs4.form; have HF4 := Lib.hid hf4; clear hs4 hb4 hg4 hbk hf4)
      have hlN : ([nm] ++ al).length = al.length + 1 := by simp
      rw [hlN] at HS4
      clear hlN c3 c0 hc1 hc2 hc3 hc4
      obtain ⟨wo, rfl⟩ : ∃ wo : World, wo = wr := ⟨_, rfl⟩
      obtain ⟨b1, hb1⟩ : ∃ b1, (PRB.toList == PB.toList) = b1 := ⟨_, rfl⟩
      have hpb : b1 = decide (pr = pr0) := by
        rw [← hb1, Lib.toList_data, Lib.toList_data, HPR.out, HPD.out]; exact (Bool.beq_eq_decide_eq pr pr0)
      have HPB := Lib.hid hpb
      clear hpb
      go_loopw [25] (fun j wq => ∃ m : Nat, m ≤ al.length + 1 ∧ j = .int .i64 m ∧ Hid (pr = pr0 → nm0 ∉ (nm :: al).take m) ∧ wq = w4) (fun j _ => al.length + 1 - (intOf j).toNat)
      case atStart => exact ⟨0, Nat.zero_le _, rfl, Lib.hid (fun _ => by simp), rfl⟩
      case round =>
        obtain ⟨m, hm, rfl, HN, rfl⟩ := hrel
        by_cases hlm : m < al.length + 1
        · obtain ⟨q, hq⟩ : ∃ q, (nm :: al)[m]? = some q := ⟨_, List.getElem?_eq_getElem (by simp; omega)⟩
          obtain ⟨gq, rfl, _, _, hcell⟩ := HF4.out m q hq
          obtain ⟨Q, hQ⟩ : ∃ Q : ByteArray, (⟨q.toArray⟩ : ByteArray) = Q := ⟨_, rfl⟩
          have hQd : Q.data.toList = q := by rw [← hQ]
          have hcell' : wr.cell? ⟨gq, m, none⟩ = some (.string Q) := by rw [hcell, ← hQ]; rfl
          obtain ⟨b2, hb2⟩ : ∃ b2, (Q.toList == NB.toList) = b2 := ⟨_, rfl⟩
          have hqb : b2 = decide (q = nm0) := by
            rw [← hb2, Lib.toList_data, Lib.toList_data, hQd, HND.out]; exact (Bool.beq_eq_decide_eq q nm0)
          have htk := pl.take_at (nm :: al) m q hq
          have HQB := Lib.hid hqb
          have HTK := Lib.hid htk
          have HQ := Lib.hid hq
          clear hqb htk hQd hQ hcell hq
          rcases b1 with _ | _
          · have hne : pr ≠ pr0 := by have := HPB.out; simpa using this.symm
            have HNE := Lib.hid hne
            clear hne
            go_wp2_with fail
            go_roundw
            case rel => exact ⟨m + 1, by omega, by go_num, Lib.hid (fun h => absurd h HNE.out), trivial⟩
            case measure => simp [intOf]; omega
          · rcases b2 with _ | _
            · have hne : q ≠ nm0 := by have := HQB.out; simpa using this.symm
              have HNE := Lib.hid hne
              clear hne
              go_wp2_with fail
              go_roundw
              case rel => exact ⟨m + 1, by omega, by go_num, Lib.hid (fun h => by rw [HTK.out]; intro hx; rcases List.mem_append.1 hx with hx | hx; exact HN.out h hx; exact HNE.out (List.mem_singleton.1 hx).symm), trivial⟩
              case measure => simp [intOf]; omega
            · have h1 : pr = pr0 := by have := HPB.out; simpa using this.symm
              have h2 : q = nm0 := by have := HQB.out; simpa using this.symm
              have hmem : q ∈ nm :: al := List.mem_of_getElem? HQ.out
              have hp := HHIT.out (by
                unfold pl.svHit pl.svNames
                rw [show (nm, pt, pr, al).2.2.1 = pr0 from h1, show (nm, pt, pr, al).1 :: (nm, pt, pr, al).2.2.2 = nm :: al from rfl, ← h2]
                simp [hmem])
              have HP := Lib.hid hp
              clear h1 h2 hmem hp
              go_wp2_with fail
              go_ret2
              exact ⟨by rw [HP.out]; rfl, HB4⟩
        · have hme : (nm :: al).take m = nm :: al := List.take_of_length_le (by simp; omega)
          rw [hme] at HN
          have hmm := HMIS.out (by
            unfold pl.svHit pl.svNames
            by_cases h1 : pr = pr0
            · have h2 := HN.out h1
              rw [show (nm, pt, pr, al).1 :: (nm, pt, pr, al).2.2.2 = nm :: al from rfl, decide_eq_false h2]
              simp
            · rw [show (nm, pt, pr, al).2.2.1 = pr from rfl, decide_eq_false h1]
              rfl)
          have HMM := Lib.hid hmm
          clear hme hmm
          go_wp2_with fail
          go_roundw
          case rel => exact ⟨k + 1, by omega, by go_num, HMM, HB4.out⟩
          case measure => simp [intOf]; omega
    · have hke : l.take k = l := List.take_of_length_le (by omega)
      rw [hke] at HA
      have hno := pl.port_no l pr0 nm0 HA.out
      have HNO := Lib.hid hno
      clear hno
      go_wp2_with fail
      go_ret2
      exact ⟨by rw [HNO.out]; rfl, Lib.hid hb⟩

end Go.Proofs.Ytabeklpllphiaaa
