/-
  WALK: Hardware of the reference.
-/
import Derived.Test.YtabeklpllphiaaaHexes
import Derived.Test.YtabeklpllphiaaaBytApp
import Derived.Test.YtabeklpllphiaaaSplit
import Derived.Test.YtabeklpllphiaaaWords
import Derived.Test.YtabeklpllphiaaaPlHwLen
import Derived.Deep.DeepCutAuto
namespace Go.Proofs.Ytabeklpllphiaaa
open Go.RowKit

theorem alloc_size (w : World) (o : Obj) : (w.alloc o).heap.size = w.heap.size + 1 := Array.size_push _

theorem alloc_old (w : World) (o : Obj) (g off : Nat) (h : g < w.heap.size) : (w.alloc o).cell? ⟨g, off, none⟩ = w.cell? ⟨g, off, none⟩ :=
  below_cell ((Below.refl _ _).alloc (Nat.le_refl _) _) g off h

theorem alloc_two (w : World) (a b : Value) (e : TypeId) : (w.alloc (Obj.cells #[a, b] e)).cell? ⟨w.heap.size, 1, none⟩ = some b := by
  simp only [World.cell?, heap_alloc_new]
  rfl

theorem conv_one {P : Program} (wr : World) (o1 : Obj) (c : UInt8) (src dst e : TypeId) (hs : P.underlying src = some (.slice e)) (he : P.underlying e = some (.int .u8)) (hd : P.underlying dst = some .string) :
    (convert src dst (.slice (some ⟨wr.heap.size + 1, 0, none⟩) 1 1)).run P ((wr.alloc o1).alloc (Obj.cells #[Value.int IntKind.u8 (c.toNat : Int)] e)) = .ok (.string { data := #[c] }) ((wr.alloc o1).alloc (Obj.cells #[Value.int IntKind.u8 (c.toNat : Int)] e)) := by
  have e0 : (wr.alloc o1).heap.size = wr.heap.size + 1 := Array.size_push _
  rw [← e0]
  refine run_convert_bytes_back (P := P) _ src dst e ⟨(wr.alloc o1).heap.size, 0, none⟩ 1 [c] hs he hd (fun j hj => ?_)
  obtain rfl : j = 0 := by simp at hj; omega
  exact cell_one_new _ _ _ 0 _ rfl

set_option maxRecDepth 100000 in
set_option maxHeartbeats 4000000 in
theorem hw_sp (s : ByteArray) (w : World) (hs : s.size ≤ 2147483647) :
    Calls Try.prog 15 #[.string s] w fun e w' => ∃ v, e = .returned (.tuple #[v, .bool (pl.hw s.data.toList).2.1, .bool (pl.hw s.data.toList).2.2]) ∧ Byts w' w.heap.size v (pl.hw s.data.toList).1 ∧ Below w.heap.size w w' := by
  go_enter Try.func15, Try.ntmps15
  go_wp2_with fail
  go_loopw [20] (fun i wr => ∃ k : Nat, k ≤ 3 ∧ i = .int .i64 k ∧ (∀ j, j < 3 → wr.cell? ⟨w.heap.size, j * 2, none⟩ = some (.int .u8 ((pl.cF j).toNat : Int)) ∧ wr.cell? ⟨w.heap.size, j * 2 + 1, none⟩ = some (.int .i64 (pl.lF j : Int))) ∧
      w.heap.size < wr.heap.size ∧ Below w.heap.size w wr ∧ Hid (∀ j, j < k → pl.formB (pl.cF j) (pl.lF j) s.data.toList = false)) (fun i _ => 3 - (intOf i).toNat)
  case atStart =>
    refine ⟨0, by omega, rfl, ?_, ?_, ?_, Lib.hid (fun j hj => by omega)⟩
    · intro j hj
      simp only [World.cell?, heap_alloc_new]
      match j, hj with
      | 0, _ => exact ⟨rfl, rfl⟩
      | 1, _ => exact ⟨rfl, rfl⟩
      | 2, _ => exact ⟨rfl, rfl⟩
    · rw [alloc_size]; omega
    · exact (Below.refl _ _).alloc (Nat.le_refl _) _
  case round =>
    obtain ⟨k, hk, rfl, hF, hB, hbel, HN⟩ := hrel
    by_cases hlt : k < 3
    · obtain ⟨hc1, hc2⟩ := hF k hlt
      obtain ⟨c, hc⟩ : ∃ c, pl.cF k = c := ⟨_, rfl⟩
      obtain ⟨L, hL⟩ : ∃ L, pl.lF k = L := ⟨_, rfl⟩
      have hL4 : L ≤ 4 := by rw [← hL]; unfold pl.lF; split <;> omega
      rw [hc] at hc1
      rw [hL] at hc2
      have hcb := UInt8.toNat_lt c
      have HF := Lib.hid hF
      have HC := Lib.hid hc
      have HL := Lib.hid hL
      clear hF hc hL
      have hconv := conv_one (P := Try.prog) wr (Obj.cells #[Value.int IntKind.u8 ↑c.toNat, Value.int IntKind.i64 ↑L] 67) c 33 9 5 Try.underlying33 Try.underlying5 Try.underlying9
      have hE : ({ data := #[c] } : ByteArray).size ≤ 17592186044416 := by simp [ByteArray.size]
      obtain ⟨hz, hhz⟩ : ∃ hz, pl.has s.data.toList [c] = hz := ⟨_, rfl⟩
      have HH := Lib.hid hhz
      clear hhz
      go_wp2_with (first | (go_at_call 28; ((refine (has_val' s { data := #[c] } hz _ (by omega) hE HH.out).mono ?_); rintro e w' ⟨rfl, n, rfl⟩)))
      have hbA : Below w.heap.size w ((wr.alloc (Obj.cells #[Value.int IntKind.u8 ↑c.toNat, Value.int IntKind.i64 ↑L] 67)).alloc (Obj.cells #[Value.int IntKind.u8 ↑c.toNat] 5)) := (hbel.alloc (by omega) _).alloc (by rw [alloc_size]; omega) _
      refine (split_sp s (c.toNat : Int) _ (by omega)).mono ?_
      rintro e w3 ⟨v3, rfl, hS, hb3⟩
      obtain ⟨WA, hWA⟩ : ∃ WA, ((wr.alloc (Obj.cells #[Value.int IntKind.u8 ↑c.toNat, Value.int IntKind.i64 ↑L] 67)).alloc (Obj.cells #[Value.int IntKind.u8 ↑c.toNat] 5)) = WA := ⟨_, rfl⟩
      have hA0 : WA.heap.size = wr.heap.size + 2 := by rw [← hWA, alloc_size, alloc_size]
      have hA1 : WA.cell? ⟨wr.heap.size, 1, none⟩ = some (.int .i64 (L : Int)) := by rw [← hWA, alloc_old _ _ _ _ (by rw [alloc_size]; omega)]; exact alloc_two _ _ _ _
      have hA2 : ∀ g o, g < wr.heap.size → WA.cell? ⟨g, o, none⟩ = wr.cell? ⟨g, o, none⟩ := by
        intro g o hg
        rw [← hWA, alloc_old _ _ _ _ (by rw [alloc_size]; omega), alloc_old _ _ _ _ hg]
      rw [hWA] at hb3 hbA
      have hb3' : Below WA.heap.size WA w3 := bel_d hb3
      have hbw : Below w.heap.size w w3 := hbA.trans (hb3'.mono hbA.size)
      have hs3 := hb3'.size
      have hl1 : w3.cell? ⟨wr.heap.size, 1, none⟩ = some (.int .i64 (L : Int)) := by rw [below_cell hb3' _ _ (by omega)]; exact hA1
      have hF3 : ∀ j, j < 3 → w3.cell? ⟨w.heap.size, j * 2, none⟩ = some (.int .u8 ((pl.cF j).toNat : Int)) ∧ w3.cell? ⟨w.heap.size, j * 2 + 1, none⟩ = some (.int .i64 (pl.lF j : Int)) := by
        intro j hj
        rw [below_cell hb3' _ _ (by omega), below_cell hb3' _ _ (by omega), hA2 _ _ hB, hA2 _ _ hB]
        exact HF.out j hj
      have hB' : w.heap.size < w3.heap.size := by omega
      have hH0 : wr.heap.size < w3.heap.size := by omega
      obtain ⟨P, hP⟩ : ∃ P, pl.split (c.toNat : Int) s.data.toList = P := ⟨_, rfl⟩
      rw [hP] at hS
      have htot : ∀ j, (pl.cat (P.take j)).length ≤ s.size := by
        intro j
        have := pl.split_total c s.data.toList j
        rw [hP] at this
        simpa using this
      have hplen : P.length ≤ s.size + 1 := by rw [← hP]; exact pl.split_len _ s
      have hpsz : ∀ (j : Nat) (M : ByteArray), P[j]? = some M.data.toList → M.size ≤ s.size := by
        intro j M h
        rw [← hP] at h
        exact pl.split_size _ s j M h
      obtain ⟨a3, cap3, rfl, hcells⟩ := hS.form
      have HP := Lib.hid hP
      have HT := Lib.hid htot
      have HZ := Lib.hid hpsz
      have HF3 := Lib.hid hF3
      have HCe := Lib.hid hcells
      clear hP htot hpsz hF3 hcells hS hA1 hA2 hA0 hWA hb3 hb3' hbA hconv hc1 hc2 hbel
      obtain ⟨H, hH⟩ : ∃ H, wr.heap.size = H := ⟨_, rfl⟩
      rw [hH] at hl1
      have hH' : H < w3.heap.size := by rw [← hH]; exact hH0
      clear hH0
      go_wp2_with fail
      go_loopw [7, 8, 35] (fun v f i wq => ∃ (j : Nat) (fb : Bool), j ≤ P.length ∧ i = .int .i64 j ∧ f = .bool fb ∧ Hid (fb = (hz && (P.take j).all (pl.fine L))) ∧ Byts wq w3.heap.size v (pl.cat (P.take j)) ∧ Below w3.heap.size w3 wq) (fun _ _ i _ => P.length - (intOf i).toNat)
      case atStart => exact ⟨0, hz, Nat.zero_le _, rfl, rfl, Lib.hid (by simp), Byts.nil _ _, Below.refl _ _⟩
      case round =>
        obtain ⟨j, fb, hj, rfl, rfl, HB, hown, hbq⟩ := hrel
        by_cases hjl : j < P.length
        · obtain ⟨M, hM⟩ : ∃ M : ByteArray, M.data.toList = P[j] := ⟨⟨P[j].toArray⟩, rfl⟩
          have hMk : P[j]? = some M.data.toList := by rw [hM]; exact List.getElem?_eq_getElem hjl
          obtain ⟨g, rfl, hg, _, hcM⟩ := HCe.out j _ hMk
          rw [pl.strV_of] at hcM
          have hcM' : wr.cell? ⟨g, j, none⟩ = some (.string M) := by rw [below_cell hbq _ _ hg]; exact hcM
          have hMs := HZ.out j M hMk
          have HMk := Lib.hid hMk
          clear hM hMk hcM
          have hhx : ∀ W, Calls Try.prog 30 #[.string M] W fun e w' => ∃ v, e = .returned (.tuple #[v, .bool (pl.hexes M.data.toList).2]) ∧ Byts w' W.heap.size v (pl.hexes M.data.toList).1 ∧ Below W.heap.size W w' := fun W => hexes_any M W (by omega)
          have hTj := HT.out j
          have hTk := HT.out (j + 1)
          rw [pl.cat_succ P j _ HMk.out, List.length_append] at hTk
          obtain ⟨is, his⟩ : ∃ is, (pl.hexes M.data.toList).2 = is := ⟨_, rfl⟩
          rw [his] at hhx
          have HI := Lib.hid his
          have HHX := Lib.hid hhx
          have HTk := Lib.hid hTk
          have hsq := hbq.size
          clear his hhx hTk hTj
          rcases hdl : ((M.size : Int) == (L : Int)) with _ | _
          all_goals
            have HD := Lib.hid hdl
            have hfin : pl.fine L M.data.toList = (is && ((M.size : Int) == (L : Int))) := by
              unfold pl.fine
              rw [HI.out]
              congr 1
              rw [Bool.eq_iff_iff, beq_iff_eq, beq_iff_eq]
              simp
              omega
            rw [hdl] at hfin
            have HFI := Lib.hid hfin
            clear hfin
            rcases fb with _ | _ <;> rcases is with _ | _
            all_goals
              go_wp2_with fail
              refine (HHX.out _).mono ?_
              rintro e w5 ⟨v5, rfl, hY, hb5⟩
              have hl5 : w5.cell? ⟨H, 1, none⟩ = some (.int .i64 (L : Int)) := by rw [below_cell hb5 _ _ (by omega), below_cell hbq _ _ hH']; exact hl1
              have hown5 := hown.below hb5
              have hb5' := hbq.trans (hb5.mono hsq)
              have hTk := HTk.out
              go_wp2_with (at_builtin; refine app_bytes (w := w3) 33 Try.underlying33 rfl _ _ rfl rfl w3.heap.size hown5 rfl hY.reads (by omega) hb5' (Nat.le_refl _) ?_)
              intro v6 w6 hown6 hb6
              clear hown5 hb5' hTk hl5
              go_wp2_with fail
              go_roundw
              case rel => exact ⟨j + 1, _, by omega, by go_num, rfl, Lib.hid (by rw [pl.allF_succ _ P j _ HMk.out, HFI.out, ← Bool.and_assoc, ← HB.out]; rfl), by rw [pl.cat_succ P j _ HMk.out]; exact hown6, hb6⟩
              case measure => simp [intOf]; omega
        · have hje : j = P.length := by omega
          rw [hje, List.take_length] at HB hown
          have hn := HT.out P.length
          rw [List.take_length] at hn
          obtain ⟨av, cv, rfl, _⟩ := hown.reads
          have hform : pl.formB (pl.cF k) (pl.lF k) s.data.toList = (fb && pl.ok (pl.cat P).length) := by
            unfold pl.formB pl.allB pl.outB
            rw [HC.out, HL.out, HP.out, HH.out, HB.out]
            rfl
          have hout : pl.outB (pl.cF k) s.data.toList = pl.cat P := by
            unfold pl.outB
            rw [HC.out, HP.out]
            rfl
          have HFo := Lib.hid hform
          have HO := Lib.hid hout
          have hbfin := hbw.trans (hbq.mono hbw.size)
          have hsz5 := hbq.size
          have hFq : ∀ j, j < 3 → wr.cell? ⟨w.heap.size, j * 2, none⟩ = some (.int .u8 ((pl.cF j).toNat : Int)) ∧ wr.cell? ⟨w.heap.size, j * 2 + 1, none⟩ = some (.int .i64 (pl.lF j : Int)) := by
            intro j hj
            rw [below_cell hbq _ _ hB', below_cell hbq _ _ hB']
            exact HF3.out j hj
          have HFq := Lib.hid hFq
          have hBq : w.heap.size < wr.heap.size := by omega
          clear hform hout hFq hje
          rcases pl.ok_cases (pl.cat P).length with ⟨hk1, h6⟩ | ⟨hk1, n6, n8, n20⟩
          · have HK1 := Lib.hid hk1
            clear hk1
            rcases fb with _ | _
            · go_wp2_with fail
              go_roundw
              case rel => exact ⟨k + 1, by omega, by go_num, HFq.out, hBq, hbfin, Lib.hid (fun j hj => by
                rcases Nat.lt_or_ge j k with h | h
                · exact HN.out j h
                · rw [show j = k by omega, HFo.out]; rfl)⟩
              case measure => simp [intOf]; omega
            · rcases h6 with h6 | h6 | h6
              all_goals
                go_wp2_with fail
                go_ret3
                have hhit := pl.hw_hit s.data.toList k hlt HN.out (by rw [HFo.out, HK1.out]; rfl)
                rw [hhit, HO.out]
                exact ⟨_, by rw [h6]; rfl, hown.mono (by omega), hbfin⟩
          · have HK1 := Lib.hid hk1
            clear hk1
            have m6 : (((pl.cat P).length : Int) == 6) = false := by rw [beq_eq_false_iff_ne]; omega
            have m8 : (((pl.cat P).length : Int) == 8) = false := by rw [beq_eq_false_iff_ne]; omega
            have m20 : (((pl.cat P).length : Int) == 20) = false := by rw [beq_eq_false_iff_ne]; omega
            rcases fb with _ | _
            all_goals
              go_wp2_with fail
              go_roundw
              case rel => exact ⟨k + 1, by omega, by go_num, HFq.out, hBq, hbfin, Lib.hid (fun j hj => by
                rcases Nat.lt_or_ge j k with h | h
                · exact HN.out j h
                · rw [show j = k by omega, HFo.out, HK1.out]; rfl)⟩
              case measure => simp [intOf]; omega
    · have hmiss := pl.hw_miss s.data.toList (fun j hj => HN.out j (by omega))
      have HM := Lib.hid hmiss
      have hlen := pl.hexes_len s.data.toList
      have hl0 : s.data.toList.length = s.size := by simp
      obtain ⟨O, hO⟩ : ∃ O, (pl.hexes s.data.toList).1 = O := ⟨_, rfl⟩
      obtain ⟨is, his⟩ : ∃ is, (pl.hexes s.data.toList).2 = is := ⟨_, rfl⟩
      have hhx : ∀ W, Calls Try.prog 30 #[.string s] W fun e w' => ∃ v, e = .returned (.tuple #[v, .bool is]) ∧ Byts w' W.heap.size v O ∧ Below W.heap.size W w' := fun W => by
        rw [← hO, ← his]; exact hexes_any s W (by omega)
      rw [hO, hl0] at hlen
      rw [hO, his] at HM
      have HHX := Lib.hid hhx
      clear hmiss hF hO his hl0 hhx
      go_wp2_with fail
      refine (HHX.out _).mono ?_
      rintro e w5 ⟨v5, rfl, hY, hb5⟩
      have hbf := hbel.trans (hb5.mono hbel.size)
      have hYm := hY.mono hbel.size
      obtain ⟨av, cv, rfl, _⟩ := hY.reads
      have hno : ∀ P, Byts P w.heap.size (.slice none 0 0) [] := fun P => Byts.nil _ _
      rcases is with _ | _
      · go_wp2_with fail
        go_ret3
        rw [HM.out]
        exact ⟨_, rfl, hno _, hbf⟩
      · by_cases h6 : O.length = 6
        · have q6 : (if (true && O.length == 6) = true then (O, true, true) else (([] : List UInt8), false, !true || (O.length != 8 && O.length != 20))) = (O, true, true) := by
            simp [h6]
          have HQ := Lib.hid q6
          clear q6
          go_wp2_with fail
          go_ret3
          rw [HM.out, HQ.out]
          exact ⟨_, rfl, by have hY6 := hYm; rw [h6] at hY6; exact hY6, hbf⟩
        · by_cases h8 : O.length = 8
          · go_wp2_with fail
            go_ret3
            rw [HM.out]
            rw [h8]
            exact ⟨_, rfl, hno _, hbf⟩
          · by_cases h20 : O.length = 20
            · go_wp2_with fail
              go_ret3
              rw [HM.out]
              rw [h20]
              exact ⟨_, rfl, hno _, hbf⟩
            · have m6 : ((O.length : Int) == 6) = false := by rw [beq_eq_false_iff_ne]; omega
              have m8 : ((O.length : Int) != 8) = true := by rw [bne_iff_ne]; omega
              have m20 : ((O.length : Int) != 20) = true := by rw [bne_iff_ne]; omega
              have q : (if (true && O.length == 6) = true then (O, true, true) else (([] : List UInt8), false, !true || (O.length != 8 && O.length != 20))) = ([], false, true) := by
                simp [h6, h8, h20]
              have HQ := Lib.hid q
              clear q h6 h8 h20
              go_wp2_with fail
              go_ret3
              rw [HM.out, HQ.out]
              exact ⟨_, rfl, hno _, hbf⟩

end Go.Proofs.Ytabeklpllphiaaa
