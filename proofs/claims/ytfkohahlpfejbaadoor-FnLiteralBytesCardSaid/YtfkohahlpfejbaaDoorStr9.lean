/-
  WALKS: net/netip: appendTo6.
-/
import Derived.Test.YtfkohahlpfejbaaDoorStr8
import Derived.Deep.CutBlock
import Derived.Deep.DeepCutAuto
import Derived.Deep.LoopGhost
namespace Go.Proofs.YtfkohahlpfejbaaDoor
open Go.RowKit

theorem pl.jn_len (g : List Nat) (hs : pl.small g) : (pl.jn g).length ≤ 5 * g.length := by
  induction g with
  | nil => simp [pl.jn]
  | cons a g ih =>
    have ha := (pl.okG_num a (hs a (by simp))).2.2
    cases g with
    | nil => show (pl.num 16 a).length ≤ _; simp; omega
    | cons b r =>
      have := ih (fun y hy => hs y (by simp at hy ⊢; exact .inr hy))
      rw [pl.jn, List.length_append]
      simp at this ⊢
      omega
theorem pl.tx_len (g : List Nat) (hs : pl.small g) (h8 : g.length = 8) (a l i : Nat) : (pl.tx g a l i).length ≤ 100 := by
  unfold pl.tx
  split
  · have := pl.jn_len (g.take i) (fun x hx => hs x (List.mem_of_mem_take hx))
    rw [List.length_take] at this
    omega
  · have h1 := pl.jn_len (g.take a) (fun x hx => hs x (List.mem_of_mem_take hx))
    have h2 := pl.jn_len ((g.take i).drop (a + l)) (pl.take_small g hs _ _)
    rw [List.length_take] at h1
    rw [List.length_drop, List.length_take] at h2
    simp only [List.length_append, List.length_cons, List.length_nil]
    omega

/-- the run that is known when k groups have been tried -/
def BestV (G : List Nat) (k : Nat) (zs ze : Value) : Prop :=
  (zs = .int .u8 255 ∧ ze = .int .u8 255 ∧ Hid (pl.best G k = (8, 1))) ∨
  (∃ a l : Nat, zs = .int .u8 (a : Int) ∧ ze = .int .u8 ((a : Int) + (l : Int)) ∧ a + l ≤ 8 ∧ 2 ≤ l ∧ Hid (pl.best G k = (a, l)))

set_option maxRecDepth 100000 in
set_option maxHeartbeats 40000000 in
theorem ap6_sp (g4 o4 g6 o6 : Nat) (b : List UInt8) (hb16 : b.length = 16) (v : Value) (w : World) (B : Nat) (hI : IpVars w g4 o4 g6 o6) (hIB : IpB B g4 g6) (hv : Byts w B v []) (hB : B ≤ w.heap.size) :
    Calls Tryd.prog 104 #[.agg #[.int .u64 (pl.be (b.take 8) : Nat), .int .u64 (pl.be (b.drop 8) : Nat), .pointer (some ⟨g6, o6, none⟩)], v] w fun e w' => ∃ v', e = .returned v' ∧ Byts w' B v' (pl.text6 b) ∧ Fr B w w' := by
  have h6 := fun j x hx W => v6u_any b hb16 g6 o6 j x hx W
  have hG8 := pl.gs_len 8 b hb16
  have hsm : pl.small (pl.gs b) := pl.gs_lt 16 b (by omega)
  unfold pl.text6
  obtain ⟨hi, hhi⟩ : ∃ hi, pl.be (b.take 8) = hi := ⟨_, rfl⟩
  obtain ⟨lo, hlo⟩ : ∃ lo, pl.be (b.drop 8) = lo := ⟨_, rfl⟩
  obtain ⟨G, hG⟩ : ∃ G, pl.gs b = G := ⟨_, rfl⟩
  rw [hhi, hlo] at h6 ⊢
  rw [hG] at h6 hG8 hsm ⊢
  obtain ⟨R, hR⟩ : ∃ R, pl.tx G (pl.best G 8).1 (pl.best G 8).2 8 = R := ⟨_, rfl⟩
  rw [hR]
  obtain ⟨gb, hgb⟩ : ∃ gb, w.heap.size = gb := ⟨_, rfl⟩
  obtain ⟨W1, hW1⟩ : ∃ W1, w.alloc (Obj.cells #[Value.int IntKind.u64 (hi : Int), Value.int IntKind.u64 (lo : Int), Value.pointer (some ⟨g6, o6, none⟩)] 119) = W1 := ⟨_, rfl⟩
  have hA : Blk W1 gb #[Value.int IntKind.u64 (hi : Int), Value.int IntKind.u64 (lo : Int), Value.pointer (some ⟨g6, o6, none⟩)] 119 := by
    rw [← hW1, ← hgb]; exact Blk.new w _ _
  have f0 : Fr B w W1 := by rw [← hW1]; exact Fr.alloc0 _ hB
  have v0 : Byts W1 B v [] := by rw [← hW1]; exact World.ownsRow.alloc hv _
  have hB1 : B ≤ W1.heap.size := Nat.le_trans hB f0.bel.size
  have hI1 := hI.fr f0.bel hIB
  have H6 := Lib.hid h6
  have HA := Lib.hid hA
  have HI1 := Lib.hid hI1
  have HSM := Lib.hid hsm
  have HR := Lib.hid hR
  have HG8 := Lib.hid hG8
  have V0 := Lib.hid v0
  have F0 := Lib.hid f0
  have hsame := fun W => ptr_same W ⟨g6, o6, none⟩
  clear h6 hA hI1 hI hsm hR hG8 v0 f0 hG hhi hlo hb16 hv
  go_enter Tryd.func104, Tryd.ntmps104
  go_upto_block 0 with fail
  go_cut [5, 6, 7, 8, 9] (fun zs ze z7 z8 z9 wc => BestV G 8 zs ze ∧ Hid (Byts wc B v []) ∧ Hid (Fr B W1 wc))
  case first =>
    as_aux_lemma =>
      go_wp2_with fail
      go_loopw [5, 6, 7] (fun zs ze iv wr => ∃ k : Nat, iv = .int .u8 (k : Int) ∧ k ≤ 8 ∧ BestV G k zs ze ∧ Hid (Byts wr B v []) ∧ Hid (Fr B W1 wr)) (fun _ _ iv _ => 8 - (intOf iv).toNat)
      case atStart => exact ⟨0, rfl, by omega, .inl ⟨rfl, rfl, Lib.hid rfl⟩, V0, Lib.hid (Fr.refl _ _)⟩
      case round =>
        obtain ⟨k, rfl, hk, HBV, HBY, HFR⟩ := hrel
        by_cases hk8 : k < 8
        · have hd8 : decide ((k : Int) < 8) = true := decide_eq_true (by omega)
          go_wp2_with fail
          clear hd8
          go_loopg [8] (8 - k) (fun n jv wi => ∃ m : Nat, jv = .int .u8 ((k : Int) + (m : Int)) ∧ k + m ≤ 8 ∧ Hid (n + (k + m) = 8) ∧ Hid (pl.run0 G k = m + pl.run0 G (k + m)) ∧ Hid (Byts wi B v []) ∧ Hid (Fr B W1 wi))
          case atStart => exact ⟨0, by go_num, by omega, Lib.hid (by omega), Lib.hid (by simp), HBY, HFR⟩
          case round =>
            clear HBY HFR
            obtain ⟨m, rfl, hkm, HN, HR0, HBY, HFR⟩ := hrel
            by_cases hlt : k + m < 8
            · obtain ⟨x, hx⟩ : ∃ x, G[k + m]? = some x := ⟨_, List.getElem?_eq_getElem (by rw [HG8.out]; exact hlt)⟩
              have hxe : ∀ h : k + m < G.length, G[k + m] = x := fun h => (List.getElem?_eq_some_iff.1 hx).2
              have hc : ∀ W, Calls Tryd.prog 116 #[.agg #[.int .u64 (hi : Int), .int .u64 (lo : Int), .pointer (some ⟨g6, o6, none⟩)], .int .u8 ((k : Int) + (m : Int))] W fun e w' => e = .returned (.int .u16 (x : Int)) ∧ Below W.heap.size W w' := fun W => by
                have h := H6.out (k + m) x hx W
                rwa [Int.natCast_add] at h
              have HC := Lib.hid hc
              have HXE := Lib.hid hxe
              have HX := Lib.hid hx
              obtain ⟨c0, c1, c2, _⟩ := blk3 (HFR.out.oth _ _ _ (by decide) HA.out)
              have hsz := HFR.out.bel.size
              have hltI : (k : Int) + (m : Int) < 8 := by omega
              clear hc hxe hx
              by_cases hx0 : x = 0
              · subst hx0
                have HR2 : Hid (pl.run0 G k = m + 1 + pl.run0 G (k + (m + 1))) := Lib.hid (pl.run0_go G k m (by rw [HG8.out]; exact hlt) (HXE.out _) HR0.out)
                go_wp2_with (go_at_call 116; refine (HC.out _).mono ?_; rintro e w2 ⟨rfl, hb2⟩; have HF2 := Lib.hid (HFR.out.trans (Fr.of hb2 (Nat.le_trans hB1 hsz))); have HB2 := Lib.hid (HBY.out.below hb2); clear hb2)
                go_roundg (gk - 1)
                case rel => exact ⟨m + 1, by go_num, by omega, Lib.hid (by have := HN.out; omega), HR2, HB2, HF2⟩
                case measure => have := HN.out; omega
              · have HRUN : Hid (pl.run0 G k = m) := Lib.hid (by
                  rw [HR0.out, pl.run0_stop G (k + m) (by rw [HG8.out]; exact hlt) (by rw [HXE.out _]; exact hx0)]; rfl)
                have hxb : ((x : Int) == 0) = false := beqN x 0 hx0
                have hB1s := Nat.le_trans hB1 hsz
                clear HR0
                rcases HBV with ⟨rfl, rfl, HB0⟩ | ⟨a, l, rfl, rfl, hal, hl2, HB0⟩
                · by_cases h2 : 2 ≤ m
                  · have HB2 : Hid (pl.best G (k + 1) = (k, m)) := Lib.hid (by rw [pl.best_take G k (by rw [HB0.out, HRUN.out]; exact h2), HRUN.out])
                    go_wp2_with (go_at_call 116; refine (HC.out _).mono ?_; rintro e w2 ⟨rfl, hb2⟩; have HF2 := Lib.hid (HFR.out.trans (Fr.of hb2 hB1s)); have HB3 := Lib.hid (HBY.out.below hb2); clear hb2)
                    go_roundw
                    case rel => exact ⟨k + 1, by go_num, by omega, .inr ⟨k, m, by first | rfl | go_num, by first | rfl | go_num, hkm, h2, HB2⟩, HB3, HF2⟩
                    case measure => simp [intOf]; omega
                  · have HB2 : Hid (pl.best G (k + 1) = (8, 1)) := Lib.hid (by rw [pl.best_leave G k (by rw [HB0.out, HRUN.out]; exact fun h => h2 h), HB0.out])
                    go_wp2_with (go_at_call 116; refine (HC.out _).mono ?_; rintro e w2 ⟨rfl, hb2⟩; have HF2 := Lib.hid (HFR.out.trans (Fr.of hb2 hB1s)); have HB3 := Lib.hid (HBY.out.below hb2); clear hb2)
                    go_roundw
                    case rel => exact ⟨k + 1, by go_num, by omega, .inl ⟨rfl, rfl, HB2⟩, HB3, HF2⟩
                    case measure => simp [intOf]; omega
                · by_cases h2 : l < m
                  · have h22 : 2 ≤ m := by omega
                    have HB2 : Hid (pl.best G (k + 1) = (k, m)) := Lib.hid (by rw [pl.best_take G k (by rw [HB0.out, HRUN.out]; exact h2), HRUN.out])
                    go_wp2_with (go_at_call 116; refine (HC.out _).mono ?_; rintro e w2 ⟨rfl, hb2⟩; have HF2 := Lib.hid (HFR.out.trans (Fr.of hb2 hB1s)); have HB3 := Lib.hid (HBY.out.below hb2); clear hb2)
                    go_roundw
                    case rel => exact ⟨k + 1, by go_num, by omega, .inr ⟨k, m, by first | rfl | go_num, by first | rfl | go_num, hkm, h22, HB2⟩, HB3, HF2⟩
                    case measure => simp [intOf]; omega
                  · have HB2 : Hid (pl.best G (k + 1) = (a, l)) := Lib.hid (by rw [pl.best_leave G k (by rw [HB0.out, HRUN.out]; exact h2), HB0.out])
                    by_cases h22 : 2 ≤ m
                    · skip
                      go_wp2_with (go_at_call 116; refine (HC.out _).mono ?_; rintro e w2 ⟨rfl, hb2⟩; have HF2 := Lib.hid (HFR.out.trans (Fr.of hb2 hB1s)); have HB3 := Lib.hid (HBY.out.below hb2); clear hb2)
                      go_roundw
                      case rel => exact ⟨k + 1, by go_num, by omega, .inr ⟨a, l, rfl, rfl, hal, hl2, HB2⟩, HB3, HF2⟩
                      case measure => simp [intOf]; omega
                    · skip
                      go_wp2_with (go_at_call 116; refine (HC.out _).mono ?_; rintro e w2 ⟨rfl, hb2⟩; have HF2 := Lib.hid (HFR.out.trans (Fr.of hb2 hB1s)); have HB3 := Lib.hid (HBY.out.below hb2); clear hb2)
                      go_roundw
                      case rel => exact ⟨k + 1, by go_num, by omega, .inr ⟨a, l, rfl, rfl, hal, hl2, HB2⟩, HB3, HF2⟩
                      case measure => simp [intOf]; omega
            · have HRUN : Hid (pl.run0 G k = m) := Lib.hid (by
                rw [HR0.out, pl.run0_end G (k + m) (by rw [HG8.out]; omega)]; rfl)
              have hltI : ¬ (k : Int) + (m : Int) < 8 := by omega
              clear HR0
              rcases HBV with ⟨rfl, rfl, HB0⟩ | ⟨a, l, rfl, rfl, hal, hl2, HB0⟩
              · by_cases h2 : 2 ≤ m
                · have HB2 : Hid (pl.best G (k + 1) = (k, m)) := Lib.hid (by rw [pl.best_take G k (by rw [HB0.out, HRUN.out]; exact h2), HRUN.out])
                  go_wp2_with fail
                  go_roundw
                  case rel => exact ⟨k + 1, by go_num, by omega, .inr ⟨k, m, by first | rfl | go_num, by first | rfl | go_num, hkm, h2, HB2⟩, HBY, HFR⟩
                  case measure => simp [intOf]; omega
                · have HB2 : Hid (pl.best G (k + 1) = (8, 1)) := Lib.hid (by rw [pl.best_leave G k (by rw [HB0.out, HRUN.out]; exact fun h => h2 h), HB0.out])
                  go_wp2_with fail
                  go_roundw
                  case rel => exact ⟨k + 1, by go_num, by omega, .inl ⟨rfl, rfl, HB2⟩, HBY, HFR⟩
                  case measure => simp [intOf]; omega
              · by_cases h2 : l < m
                · have h22 : 2 ≤ m := by omega
                  have HB2 : Hid (pl.best G (k + 1) = (k, m)) := Lib.hid (by rw [pl.best_take G k (by rw [HB0.out, HRUN.out]; exact h2), HRUN.out])
                  go_wp2_with fail
                  go_roundw
                  case rel => exact ⟨k + 1, by go_num, by omega, .inr ⟨k, m, by first | rfl | go_num, by first | rfl | go_num, hkm, h22, HB2⟩, HBY, HFR⟩
                  case measure => simp [intOf]; omega
                · have HB2 : Hid (pl.best G (k + 1) = (a, l)) := Lib.hid (by rw [pl.best_leave G k (by rw [HB0.out, HRUN.out]; exact h2), HB0.out])
                  by_cases h22 : 2 ≤ m
                  · skip
                    go_wp2_with fail
                    go_roundw
                    case rel => exact ⟨k + 1, by go_num, by omega, .inr ⟨a, l, rfl, rfl, hal, hl2, HB2⟩, HBY, HFR⟩
                    case measure => simp [intOf]; omega
                  · skip
                    go_wp2_with fail
                    go_roundw
                    case rel => exact ⟨k + 1, by go_num, by omega, .inr ⟨a, l, rfl, rfl, hal, hl2, HB2⟩, HBY, HFR⟩
                    case measure => simp [intOf]; omega
        · have hk8' : k = 8 := by omega
          subst hk8'
          go_wp2_with fail
          go_meet
          case rel => exact ⟨HBV, HBY, HFR⟩
  case rest =>
    obtain ⟨HBV, HBY, HFR⟩ := hcut
    obtain ⟨A, L, Z, E, rfl, rfl, HB0, hL1, hcase⟩ : ∃ A L Z E : Nat, u5 = .int .u8 (Z : Int) ∧ u6 = .int .u8 (E : Int) ∧ Hid (pl.best G 8 = (A, L)) ∧ 1 ≤ L ∧ ((A = 8 ∧ Z = 255) ∨ (A = Z ∧ Z + L = E ∧ E ≤ 8 ∧ Z < 8)) := by
      rcases HBV with ⟨rfl, rfl, HB0⟩ | ⟨a, l, rfl, rfl, hal, hl2, HB0⟩
      · exact ⟨8, 1, 255, 255, rfl, rfl, HB0, by omega, .inl ⟨rfl, rfl⟩⟩
      · exact ⟨a, l, a, a + l, rfl, by rw [Int.natCast_add], HB0, by omega, .inr ⟨rfl, rfl, hal, by omega⟩⟩
    have HT : Hid (pl.tx G A L 8 = R) := Lib.hid (by rw [← HR.out, HB0.out])
    have HCASE := Lib.hid hcase
    have HL1 := Lib.hid hL1
    clear hcase hL1
    go_wp2_with fail
    go_loopw [1, 10] (fun rv iv wr => ∃ k : Nat, iv = .int .u8 (k : Int) ∧ k ≤ 8 ∧ Hid (k ≤ A ∨ A + L < k) ∧ Hid (Byts wr B rv (pl.tx G A L k)) ∧ Hid (Fr B W1 wr)) (fun _ iv _ => 8 - (intOf iv).toNat)
    case atStart => exact ⟨0, rfl, by omega, Lib.hid (by omega), Lib.hid (by rw [pl.tx_zero]; exact HBY.out), HFR⟩
    case round =>
      clear HBY HFR
      obtain ⟨k, rfl, hk, HK, HBY, HFR⟩ := hrel
      have HLEN : Hid ((pl.tx G A L k).length ≤ 100) := Lib.hid (pl.tx_len G HSM.out HG8.out A L k)
      have sa := Nat.le_trans hB1 HFR.out.bel.size
      obtain ⟨c0, c1, c2, _⟩ := blk3 (HFR.out.oth _ _ _ (by decide) HA.out)
      have hz6 := (HI1.out.fr HFR.out.bel hIB).z6
      by_cases hk8 : k < 8
      · by_cases hkZ : k = Z
        · have hcs : A = Z ∧ Z + L = E ∧ E ≤ 8 := by
            rcases HCASE.out with ⟨_, h⟩ | ⟨h1, h2, h3, _⟩
            · omega
            · exact ⟨h1, h2, h3⟩
          obtain ⟨h1, h2, hE8⟩ := hcs
          have hrun := pl.tx_run G A L HL1.out (by rw [HG8.out]; omega)
          have hAk : A = k := by omega
          rw [hAk, show k + L = E by omega] at hrun
          have HTXA : Hid (pl.tx G A L k ++ [58, 58] = pl.tx G A L E) := Lib.hid (by rw [hAk]; exact hrun)
          have HAE : Hid (A + L = E) := Lib.hid (by omega)
          clear h1 h2 hrun hAk
          subst hkZ
          by_cases hEe : E = 8
          · subst hEe
            go_wp2_with (at_builtin; refine app_two_fr (w := W1) 58 58 26 Tryd.underlying26 rfl _ _ rfl rfl B HBY.out rfl rfl rfl (by have := HLEN.out; omega) HFR.out hB1 ?_; intro va1 wa va0 fa0; have va := Lib.hid va0; have fa := Lib.hid fa0; clear va0 fa0; have sa := Nat.le_trans hB1 fa.out.bel.size; obtain ⟨c0, c1, c2, _⟩ := blk3 (fa.out.oth _ _ _ (by decide) HA.out); have hz6 := (HI1.out.fr fa.out.bel hIB).z6)
            have HV8 : Hid (Byts wa B va1 R) := Lib.hid (by rw [← HT.out, ← HTXA.out]; exact va.out)
            go_ret
            exact ⟨_, rfl, HV8.out, F0.out.trans fa.out⟩
          · have hE9 : E < 8 := by omega
            obtain ⟨x, hx⟩ : ∃ x, G[E]? = some x := ⟨_, List.getElem?_eq_getElem (by rw [HG8.out]; omega)⟩
            have hxe : ∀ h : E < G.length, G[E] = x := fun h => (List.getElem?_eq_some_iff.1 hx).2
            have hx16 : x < 65536 := HSM.out x (List.mem_of_getElem? hx)
            have HC := Lib.hid (H6.out E x hx)
            have HXE := Lib.hid hxe
            clear hx hxe
            go_wp2_with (first
              | (go_at_call 117; refine (aph_sp _ _ x hx16 _ B vb.out sb (by have := HLEN.out; simp; omega)).mono ?_; rintro e wc ⟨vc, rfl, hvc, hfc⟩; have HVC := Lib.hid hvc; have fc := Lib.hid (fb.out.trans hfc); clear hvc hfc)
              | (go_at_call 116; have hx0 := fa; refine (HC.out _).mono ?_; rintro e wb ⟨rfl, hbb⟩; have fb := Lib.hid (fa.out.trans (Fr.of hbb sa)); have vb := Lib.hid (va.out.below hbb); have sb := Nat.le_trans hB1 fb.out.bel.size; clear hbb)
              | (at_builtin; refine app_two_fr (w := W1) 58 58 26 Tryd.underlying26 rfl _ _ rfl rfl B HBY.out rfl rfl rfl (by have := HLEN.out; omega) HFR.out hB1 ?_; intro va1 wa va0 fa0; have va := Lib.hid va0; have fa := Lib.hid fa0; clear va0 fa0; have sa := Nat.le_trans hB1 fa.out.bel.size; obtain ⟨c0, c1, c2, _⟩ := blk3 (fa.out.oth _ _ _ (by decide) HA.out); have hz6 := (HI1.out.fr fa.out.bel hIB).z6))
            have HV9 : Hid (Byts wc B vc (pl.tx G A L (E + 1))) := Lib.hid (by
              rw [pl.tx_bare G A L E (by rw [HG8.out]; omega) HL1.out (.inr (by have := HAE.out; omega)) (.inr HAE.out.symm), ← HTXA.out, HXE.out _]
              exact HVC.out)
            have hkE : k < E + 1 := by have := HAE.out; have := HCASE.out; have := HL1.out; omega
            go_roundw
            case rel => exact ⟨E + 1, by go_num, by omega, Lib.hid (.inr (by have := HAE.out; omega)), HV9, fc⟩
            case measure => simp [intOf]; omega
        · have hkA : k < A ∨ A + L ≤ k := by
            rcases HCASE.out with ⟨h, _⟩ | ⟨h1, h2, h3, h4⟩
            · left; omega
            · have := HK.out; omega
          have HKA := Lib.hid hkA
          have hZb : ((k : Int) == (Z : Int)) = false := beqN k Z hkZ
          have hK := HK.out
          clear hkA hkZ
          obtain ⟨x, hx⟩ : ∃ x, G[k]? = some x := ⟨_, List.getElem?_eq_getElem (by rw [HG8.out]; omega)⟩
          have hxe : ∀ h : k < G.length, G[k] = x := fun h => (List.getElem?_eq_some_iff.1 hx).2
          have hx16 : x < 65536 := HSM.out x (List.mem_of_getElem? hx)
          have HC := Lib.hid (H6.out k x hx)
          have HXE := Lib.hid hxe
          clear hx hxe
          by_cases hk0 : k = 0
          · have hk0' : ¬ (0 : Int) < (k : Int) := by omega
            have HK0 := Lib.hid hk0
            have va := HBY
            have fa := HFR
            clear hk0 hK
            go_wp2_with (first
              | (go_at_call 117; refine (aph_sp _ _ x hx16 _ B vb.out sb (by have := HLEN.out; simp; omega)).mono ?_; rintro e wc ⟨vc, rfl, hvc, hfc⟩; have HVC := Lib.hid hvc; have fc := Lib.hid (fb.out.trans hfc); clear hvc hfc)
              | (go_at_call 116; have hx0 := fa; refine (HC.out _).mono ?_; rintro e wb ⟨rfl, hbb⟩; have fb := Lib.hid (fa.out.trans (Fr.of hbb sa)); have vb := Lib.hid (va.out.below hbb); have sb := Nat.le_trans hB1 fb.out.bel.size; clear hbb))
            have HV9 : Hid (Byts wc B vc (pl.tx G A L (k + 1))) := Lib.hid (by
              rw [pl.tx_bare G A L k (by rw [HG8.out]; omega) HL1.out HKA.out (.inl HK0.out), HXE.out _]
              exact HVC.out)
            go_roundw
            case rel => exact ⟨k + 1, by go_num, by omega, Lib.hid (by have := HKA.out; have := HL1.out; omega), HV9, fc⟩
            case measure => simp [intOf]; omega
          · have hk0' : (0 : Int) < (k : Int) := by omega
            have HNB : Hid (¬ pl.bare A L k) := Lib.hid (by
              rintro (h | h)
              · exact hk0 h
              · have := HL1.out; omega)
            clear hk0 hK
            go_wp2_with (first
              | (go_at_call 117; refine (aph_sp _ _ x hx16 _ B vb.out sb (by have := HLEN.out; simp; omega)).mono ?_; rintro e wc ⟨vc, rfl, hvc, hfc⟩; have HVC := Lib.hid hvc; have fc := Lib.hid (fb.out.trans hfc); clear hvc hfc)
              | (go_at_call 116; have hx0 := fa; refine (HC.out _).mono ?_; rintro e wb ⟨rfl, hbb⟩; have fb := Lib.hid (fa.out.trans (Fr.of hbb sa)); have vb := Lib.hid (va.out.below hbb); have sb := Nat.le_trans hB1 fb.out.bel.size; clear hbb)
              | (at_builtin; refine app_byte_fr (w := W1) 58 26 Tryd.underlying26 rfl _ _ rfl rfl B HBY.out rfl rfl (by have := HLEN.out; omega) HFR.out hB1 ?_; intro va1 wa va0 fa0; have va := Lib.hid va0; have fa := Lib.hid fa0; clear va0 fa0; have sa := Nat.le_trans hB1 fa.out.bel.size; obtain ⟨c0, c1, c2, _⟩ := blk3 (fa.out.oth _ _ _ (by decide) HA.out); have hz6 := (HI1.out.fr fa.out.bel hIB).z6))
            have HV9 : Hid (Byts wc B vc (pl.tx G A L (k + 1))) := Lib.hid (by
              rw [pl.tx_colon G A L k (by rw [HG8.out]; omega) HL1.out HKA.out HNB.out, HXE.out _]
              have := HVC.out
              rw [List.append_assoc] at this
              exact this)
            go_roundw
            case rel => exact ⟨k + 1, by go_num, by omega, Lib.hid (by have := HKA.out; have := HL1.out; omega), HV9, fc⟩
            case measure => simp [intOf]; omega
      · have hk8' : k = 8 := by omega
        subst hk8'
        have HV8 : Hid (Byts wr B _ R) := Lib.hid (by rw [← HT.out]; exact HBY.out)
        go_wp2_with fail
        go_ret
        exact ⟨_, rfl, HV8.out, F0.out.trans HFR.out⟩

end Go.Proofs.YtfkohahlpfejbaaDoor
