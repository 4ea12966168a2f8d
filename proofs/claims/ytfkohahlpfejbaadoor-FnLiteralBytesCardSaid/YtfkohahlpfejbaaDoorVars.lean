/-
  The variables of net/netip, out of the row's condition.
-/
import Derived.Test.YtfkohahlpfejbaaDoorNet1
import Derived.Test.YtfkohahlpfejbaaDoorRows
import Derived.LaidMore
import Derived.LaidLaws
import Derived.MakeChecks
namespace Go.Proofs.YtfkohahlpfejbaaDoor
open Go.RowKit

theorem cells_h : Tryd.prog.cellsOf 117 = 1 := by kernel_rfl
theorem cells_p : Tryd.prog.cellsOf 115 = 1 := by kernel_rfl
theorem cells_d : Tryd.prog.cellsOf 146 = 2 := by kernel_rfl
theorem cells_b : Tryd.prog.cellsOf 4 = 1 := by kernel_rfl
theorem cells_s : Tryd.prog.cellsOf 9 = 1 := by kernel_rfl

theorem bool_of_trod {P : Program} {W : World} {t : TypeId} {n : Nat} {x : Value} {b : Bool} {p : List MemPlace} (hu : P.underlying t = some .bool) (h : DataW.trod (fun _ => ()) P W 0 (fun _ => true) false n t [x] = some (.lit (.bool b), p)) : x = .bool b ∧ p = [] := by
  cases n with
  | zero => simp [DataW.trod] at h
  | succ n => cases x <;> simp [DataW.trod, hu] at h <;> simp [h]
theorem empty_of_trod {P : Program} {W : World} {t : TypeId} {n : Nat} {x : Value} {p : List MemPlace} (hu : P.underlying t = some .string) (h : DataW.trod (fun _ => ()) P W 0 (fun _ => true) false n t [x] = some (.lit (.string []), p)) : x = .string ⟨#[]⟩ ∧ p = [] := by
  cases n with
  | zero => simp [DataW.trod] at h
  | succ n =>
    cases x <;> simp [DataW.trod, hu] at h
    rename_i s
    obtain ⟨_, h1, h2⟩ := h
    refine ⟨?_, h2⟩
    obtain ⟨d⟩ := s
    simp at h1
    rw [h1]
theorem handle_any {P : Program} {W : World} {t1 t2 t3 tb ts : TypeId} {F0 F1 F2 : Field} {l : List Value} {p : List MemPlace} {b : Bool}
    (hu1 : P.underlying t1 = some (.struct #[F0])) (h0 : F0.type = t2) (o0 : F0.offset = 0) (c1 : P.cellsOf t1 = 1)
    (hu2 : P.underlying t2 = some (.pointer t3)) (c2 : P.cellsOf t2 = 1)
    (hu3 : P.underlying t3 = some (.struct #[F1, F2])) (h1 : F1.type = tb) (o1 : F1.offset = 0) (h2 : F2.type = ts) (o2 : F2.offset = 1) (c3 : P.cellsOf t3 = 2)
    (hub : P.underlying tb = some .bool) (cb : P.cellsOf tb = 1) (hus : P.underlying ts = some .string) (cs' : P.cellsOf ts = 1) {fuel : Nat}
    (h : DataW.trod (fun _ => ()) P W 0 (fun _ => true) false fuel t1 l = some (.agg [.ptr (.agg [.lit (.bool b), .lit (.string [])])], p)) :
    ∃ a : Addr, l = [.pointer (some a)] ∧ W.cell? a = some (.bool b) ∧ W.cell? (a.add 1) = some (.string ⟨#[]⟩) ∧ p = MemPlace.row a 2 := by
  match fuel, h with
  | 0, h => simp [DataW.trod] at h
  | n1 + 1, h =>
    simp only [DataW.trod, hu1, c1] at h
    match l, h with
    | [], h => simp at h
    | _ :: _ :: _, h => simp at h
    | [v], h =>
      simp only [List.length_singleton, if_true, List.mapM_cons, List.mapM_nil, h0, o0, c2, List.drop_zero, List.take_succ_cons, List.take_zero] at h
      match n1, h with
      | 0, h => simp [DataW.trod] at h
      | n2 + 1, h =>
        obtain ⟨ov, rfl⟩ : ∃ ov, v = .pointer ov := by
          cases v <;> first | exact ⟨_, rfl⟩ | (exfalso; simp [DataW.trod, hu2] at h)
        match ov, h with
        | some a, h =>
          simp only [DataW.trod, hu2, c3] at h
          cases hcs : W.cells? 0 a 2 with
          | none => simp [hcs] at h
          | some cs =>
            rw [hcs] at h
            simp only [Option.bind_some] at h
            match n2, h with
            | 0, h => simp [DataW.trod] at h
            | n3 + 1, h =>
              simp only [DataW.trod, hu3, c3] at h
              match cs, hcs, h with
              | [], _, h => simp at h
              | [_], _, h => simp at h
              | _ :: _ :: _ :: _, _, h => simp at h
              | [x, y], hcs, h =>
                simp only [List.length_cons, List.length_nil, if_true, List.mapM_cons, List.mapM_nil, h1, o1, h2, o2, cb, cs', List.drop_zero, List.take_succ_cons, List.take_zero, List.drop_succ_cons] at h
                cases hA : DataW.trod (fun _ => ()) P W 0 (fun _ => true) false n3 tb [x] with
                | none => simp [hA] at h
                | some rA =>
                  cases hB : DataW.trod (fun _ => ()) P W 0 (fun _ => true) false n3 ts [y] with
                  | none => simp [hA, hB] at h
                  | some rB =>
                    obtain ⟨dA, pA⟩ := rA
                    obtain ⟨dB, pB⟩ := rB
                    simp [hA, hB] at h
                    obtain ⟨⟨rfl, rfl⟩, hp⟩ := h
                    obtain ⟨rfl, rfl⟩ := bool_of_trod hub hA
                    obtain ⟨rfl, rfl⟩ := empty_of_trod hus hB
                    simp [World.cells?, List.range_succ, List.mapM_cons] at hcs
                    have ha0 : a.add 0 = a := by cases a; simp [Addr.add]
                    rw [ha0] at hcs
                    cases hc0 : W.cell? a with
                    | none => simp [hc0] at hcs
                    | some v0 =>
                      cases hc1 : W.cell? (a.add 1) with
                      | none => simp [hc0, hc1] at hcs
                      | some v1 =>
                        simp [hc0, hc1] at hcs
                        exact ⟨a, rfl, by rw [hc0, hcs.1], by rw [hc1, hcs.2], by rw [← hp]; simp⟩
        | none, h => simp [DataW.trod, hu2] at h

theorem nil_any {P : Program} {W : World} {t1 t2 t3 : TypeId} {F0 : Field} {l : List Value} {p : List MemPlace}
    (hu1 : P.underlying t1 = some (.struct #[F0])) (h0 : F0.type = t2) (o0 : F0.offset = 0) (c1 : P.cellsOf t1 = 1)
    (hu2 : P.underlying t2 = some (.pointer t3)) (c2 : P.cellsOf t2 = 1) {fuel : Nat}
    (h : DataW.trod (fun _ => ()) P W 0 (fun _ => true) false fuel t1 l = some (.agg [.nil], p)) : l = [.pointer none] ∧ p = [] := by
  match fuel, h with
  | 0, h => simp [DataW.trod] at h
  | n1 + 1, h =>
    simp only [DataW.trod, hu1, c1] at h
    match l, h with
    | [], h => simp at h
    | _ :: _ :: _, h => simp at h
    | [v], h =>
      simp only [List.length_singleton, if_true, List.mapM_cons, List.mapM_nil, h0, o0, c2, List.drop_zero, List.take_succ_cons, List.take_zero] at h
      match n1, h with
      | 0, h => simp [DataW.trod] at h
      | n2 + 1, h =>
        obtain ⟨ov, rfl⟩ : ∃ ov, v = .pointer ov := by
          cases v <;> first | exact ⟨_, rfl⟩ | (exfalso; simp [DataW.trod, hu2] at h)
        match ov, h with
        | none, h =>
          simp [DataW.trod, hu2] at h
          exact ⟨rfl, h⟩
        | some a, h =>
          simp only [DataW.trod, hu2] at h
          cases hb : (W.cells? 0 a (P.cellsOf t3)).bind (DataW.trod (fun _ => ()) P W 0 (fun _ => true) false n2 t3) with
          | none => simp [hb] at h
          | some r => simp [hb] at h

theorem g_z4 : Tryd.prog.globalNamed "net/netip.z4" = some 1 := by kernel_rfl
theorem g_z6 : Tryd.prog.globalNamed "net/netip.z6noz" = some 2 := by kernel_rfl
theorem g_z0 : Tryd.prog.globalNamed "net/netip.z0" = some 0 := by kernel_rfl
theorem t_z4 : (Tryd.prog.globals[1]?).map (·.type) = some 117 := by kernel_rfl
theorem t_z6 : (Tryd.prog.globals[2]?).map (·.type) = some 117 := by kernel_rfl
theorem t_z0 : (Tryd.prog.globals[0]?).map (·.type) = some 117 := by kernel_rfl

theorem ip_of_laid {W : World} (h : laidMet Tryd.prog [("net/netip.z4", Rows.laid_net_netip_z4), ("net/netip.z6noz", Rows.laid_net_netip_z6noz), ("net/netip.z0", Rows.laid_net_netip_z0)] W) : ∃ g4 o4 g6 o6, IpVars W g4 o4 g6 o6 := by
  obtain ⟨ps, ⟨g0, t0, cs0, f0, p0, q0, hg0, ht0, hv0, hd0, ⟨g1, t1, cs1, f1, p1, q1, hg1, ht1, hv1, hd1, ⟨g2, t2, cs2, f2, p2, q2, hg2, ht2, hv2, hd2, hq2, e2⟩, e1⟩, e0⟩, hnd, hrows⟩ := h
  obtain rfl := Option.some.inj (g_z4.symm.trans hg0)
  obtain rfl := Option.some.inj (g_z6.symm.trans hg1)
  obtain rfl := Option.some.inj (g_z0.symm.trans hg2)
  obtain rfl := Option.some.inj (t_z4.symm.trans ht0)
  obtain rfl := Option.some.inj (t_z6.symm.trans ht1)
  obtain rfl := Option.some.inj (t_z0.symm.trans ht2)
  have hq2' : q2 = [] := hq2
  subst hq2'
  subst e2
  subst e1
  subst e0
  obtain ⟨l0⟩ := cs0
  obtain ⟨l1⟩ := cs1
  obtain ⟨l2⟩ := cs2
  obtain ⟨a, rfl, ha0, ha1, rfl⟩ := handle_any Tryd.underlying117 rfl rfl cells_h Tryd.underlying115 cells_p Tryd.underlying146 rfl rfl rfl rfl cells_d Tryd.underlying4 cells_b Tryd.underlying9 cells_s hd0
  obtain ⟨b, rfl, hb0, hb1, rfl⟩ := handle_any Tryd.underlying117 rfl rfl cells_h Tryd.underlying115 cells_p Tryd.underlying146 rfl rfl rfl rfl cells_d Tryd.underlying4 cells_b Tryd.underlying9 cells_s hd1
  obtain ⟨rfl, rfl⟩ := nil_any Tryd.underlying117 rfl rfl cells_h Tryd.underlying115 cells_p hd2
  obtain ⟨ca, ta, hba⟩ := (hrows a.block a.off (by simp [MemPlace.row, List.range_succ])).1
  obtain ⟨cb, tb, hbb⟩ := (hrows b.block b.off (by simp [MemPlace.row, List.range_succ])).1
  obtain ⟨ga, oa, sa⟩ := a
  obtain ⟨gb, ob, sb⟩ := b
  have hsa : sa = none := World.cell?_spot ha0
  have hsb : sb = none := World.cell?_spot hb0
  subst hsa
  subst hsb
  have k4 := World.var?_cell g_z4 hv0 0
  have k6 := World.var?_cell g_z6 hv1 0
  have k0 := World.var?_cell g_z0 hv2 0
  refine ⟨ga, oa, gb, ob, ?_⟩
  refine ⟨by simpa using k0, by simpa using k4, by simpa using k6, ?_, by simpa [Addr.add] using ha1, by simpa [Addr.add] using hb1, ha0, hb0, ⟨_, _, hba⟩, ⟨_, _, hbb⟩⟩
  rintro ⟨rfl, rfl⟩
  simp [MemPlace.row, List.range_succ] at hnd

end Go.Proofs.YtfkohahlpfejbaaDoor
