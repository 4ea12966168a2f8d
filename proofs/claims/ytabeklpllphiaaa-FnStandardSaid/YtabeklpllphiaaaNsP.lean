/-
  WALK: parseNSSConf.
-/
import Derived.Test.YtabeklpllphiaaaNsR
import Derived.Deep.RegionHeld3
import Derived.Deep.DrawnRows
import Derived.Deep.CutRange
namespace Go.Proofs.Ytabeklpllphiaaa
open Go.RowKit
attribute [local go_sem ↓] Go.wp_at_zero Go.wp_at_succ

def NcRes (db : List UInt8) (l : List Src) (w0 : World) (e : Ending) (w' : World) : Prop :=
  ∃ gc gm n f, e = .returned (.pointer (some ⟨gc, 0, none⟩)) ∧ Hid (Blk w' gc #[.nilIface, .map (some gm)] 105) ∧ Hid (MapF Try.prog 9 w' gm n f) ∧ Hid (NsR w' w0.heap.size ((f db).getD (.slice none 0 0)) (l.map pl.lowS)) ∧ Hid (Below w0.heap.size w0 w')
/-- the state ahead of a line -/
def NsAt (db : List UInt8) (l : List Src) (j : Nat) (w : World) (gc : Nat) : Prop :=
  ∃ mo f, MSt w (gc + 1) (30 * j) mo f ∧ Blk w gc #[.nilIface, .map mo] 105 ∧ (j ≤ 1 → ∀ x, f x = none) ∧ (j = 2 → ∀ x, x ≠ pl.nsOther → f x = none) ∧ (2 ≤ j → mo ≠ none) ∧ (j = 3 → NsR w (gc + 1) ((f db).getD (.slice none 0 0)) (l.map pl.lowS))
theorem NsAt.only {db : List UInt8} {l : List Src} {j gf gc : Nat} {w w' : World} {arr : Array Value} {ty : TypeId} (h : NsAt db l j w gc) (hf : Blk w gf arr ty) (hk : KeepG gf w w') (hne : gf < gc) : NsAt db l j w' gc := by
  obtain ⟨mo, f, h1, h2, h3, h4, h5, h6⟩ := h
  exact ⟨mo, f, h1.only hf hk, h2.keep (hk gc (by omega)), h3, h4, h5, fun e => (h6 e).only hk (by omega)⟩

theorem pl.sp_cases (L : List Src) (k : Nat) (nm : List UInt8) (cs : List Crit) (r : List Src) (_ : L.drop k = (nm, cs) :: r) : (cs = [] ∧ r = []) ∨ (cs = [] ∧ ∃ t q, r = t :: q) ∨ cs ≠ [] := by
  by_cases h : cs = []
  · match r with
    | [] => exact .inl ⟨h, rfl⟩
    | t :: q => exact .inr (.inl ⟨h, t, q, rfl⟩)
  · exact .inr (.inr h)

theorem trim_to (s : ByteArray) (T : List UInt8) (h : pl.trimS s.data.toList = T) (hs : s.size ≤ 17592186044416) (w : World) :
    Calls Try.prog 51 #[.string s] w fun e w' => e = .returned (.string ⟨T.toArray⟩) ∧ w = w' := by
  rw [← h]; exact trim_any s w hs
theorem ba_len (s : ByteArray) : s.data.toList.length = s.size := by simp

theorem MapF.apart {w w' : World} {gm n B s k : Nat} {e : TypeId} {v : Value} {xs : List Value} {f : List UInt8 → Option Value} (h : MapF Try.prog 9 w gm n f) (hr : w.ownsRow B e s v k xs) (hg : w.grownBy w' v.ownBlock) : MapF Try.prog 9 w' gm n f := by
  refine h.grown hg ?_
  rcases row_type hr with e | ⟨g, cur, e, _, hh⟩
  · rw [e]; simp
  · rw [e]
    intro e2
    injection e2 with e2
    exact h.ne_row hh e2.symm
theorem ns_step {w0 U UA w9 w10 : World} {gf gc gm nn N : Nat} {f : List UInt8 → Option Value} {K : List UInt8} {KB : ByteArray} {l : List Src} {vs : List Value} {v v9 x : Value} {fa : Array Value} {s : Src} {cs : List Value}
    (hKU : Blk U gf fa 95) (hCU : Blk U gc #[.nilIface, .map (some gm)] 105) (hMU : MapF Try.prog 9 U gm nn f) (hB : Below gf w0 U) (hgl : gf < gc) (hgm : gc + 1 ≤ gm)
    (hvs : vs.length = l.length) (hown : U.ownsRow (gc + 1) 108 2 v l.length (srcRow l vs)) (hcrs : ∀ (k : Nat) s x, l[k]? = some s → vs[k]? = some x → Crs U (gc + 1) 110 x s.2) (hx : Crs U (gc + 1) 110 x s.2) (hcs : cs = [pl.strV s.1, x])
    (hal : Below U.heap.size U UA) (hg9 : UA.grownBy w9 v.ownBlock) (hv9 : w9.ownsRow (gc + 1) 108 2 v9 (l.length + 1) (srcRow l vs ++ cs)) (hKd : KB.data.toList = K)
    (hM10 : MapF Try.prog 9 w10 gm (nn + 1) (fun y => if y = KB.data.toList then some v9 else f y)) (hg10 : w9.grownBy w10 (some gm)) (hn : nn ≤ N) :
    Blk w10 gf fa 95 ∧ Blk w10 gc #[.nilIface, .map (some gm)] 105 ∧ MSt w10 (gc + 1) (N + 1) (some gm) (fun y => if y = KB.data.toList then some v9 else f y) ∧
    NsR w10 (gc + 1) (((fun y => if y = KB.data.toList then some v9 else f y) K).getD (.slice none 0 0)) (l ++ [s]) ∧ (∀ y, y ≠ K → (fun y => if y = KB.data.toList then some v9 else f y) y = f y) ∧ Below gf w0 w10 := by
  have hownA := Row.below hown hal
  have hM9 := (hMU.below hal hMU.lt).apart hownA hg9
  have k1 : KeepT 108 U w9 := (KeepT.of hal).trans (KeepT.grown hownA hg9)
  have k2 : ∀ T, KeepT T w9 w10 := fun T => KeepT.map hM9 hg10
  have hn1 := NsR.push hvs hcrs k1 s x hx cs hcs hv9
  refine ⟨(hKU.keepT k1 (by decide)).keepT (k2 108) (by decide), (hCU.keepT k1 (by decide)).keepT (k2 108) (by decide), .inr ⟨gm, nn + 1, rfl, hgm, by omega, hM10⟩, ?_, fun y hy => ?_, ?_⟩
  · have e : (((fun y => if y = KB.data.toList then some v9 else f y) K).getD (.slice none 0 0) : Value) = v9 := by
      show (if K = KB.data.toList then some v9 else f K).getD _ = v9
      rw [if_pos hKd.symm]; rfl
    rw [e]
    exact hn1.keepT (k2 9) (by decide) (by decide)
  · show (if y = KB.data.toList then some v9 else f y) = f y
    rw [hKd, if_neg hy]
  · have hs := hKU.lt
    refine Below.grown (Below.grown (hB.trans (hal.mono (Nat.le_of_lt hs))) hg9 ?_ ?_) hg10 ?_ ?_
    · have := hal.size; omega
    · exact fun q hq => by have := (World.ownsRow.lt hown q hq).1; omega
    · have := hal.size; have := hg9.size; omega
    · exact fun q hq => by injection hq with hq; omega

set_option maxRecDepth 100000 in
set_option maxHeartbeats 16000000 in
theorem nc_sp (db : List UInt8) (l : List Src) (w0 w : World) (hok : pl.swOk db l = true) (hd : db.length ≤ 2147483647) (hf : ∀ s ∈ l, FitN s) (hw : Below w0.heap.size w0 w)
    (hfile : Blk w w0.heap.size #[.string ⟨(pl.ltext (pl.nsLs db l)).toArray⟩] 95) :
    Calls Try.prog 41 #[.pointer (some ⟨w0.heap.size, 0, none⟩)] w (NcRes db l w0) := by
  have hmm := @run_makeMap Try.prog
  obtain ⟨gf, hgf⟩ : ∃ gf, w0.heap.size = gf := ⟨_, rfl⟩
  obtain ⟨gc, hgc⟩ : ∃ gc, w.heap.size = gc := ⟨_, rfl⟩
  obtain ⟨W1, hW1⟩ : ∃ W1, w.alloc (.cells #[.nilIface, .map none] 105) = W1 := ⟨_, rfl⟩
  have hgl : gf < gc := by rw [← hgf, ← hgc]; exact hfile.lt
  have hc1 : NsAt db l 0 W1 gc := by
    rw [← hW1, ← hgc]
    exact ⟨none, fun _ => none, .inl ⟨rfl, fun _ => rfl⟩, Blk.new w _ _, fun _ _ => rfl, fun h => (by cases h), fun h => (by omega), fun h => (by cases h)⟩
  have hfl1 : Blk W1 gf #[.string ⟨(pl.ltext (pl.nsLs db l)).toArray⟩] 95 := by rw [← hW1, ← hgf]; exact hfile.alloc _
  have hb1 : Below gf w0 W1 := by rw [← hW1, ← hgf]; exact hw.alloc hw.size _
  rw [hgf] at hw ⊢
  obtain ⟨hp1, hp2, hp3, hp4⟩ := pl.swOk_parts db l hok
  have hl1 := pl.line_one
  have hl2 := pl.line_two db l hok hd hf
  have hnl := pl.ns_nl db l hok
  have htl : (pl.ltext (pl.nsLs db l)).length ≤ 800000000100 := by
    have h := hl2.len
    have e : pl.ltext (pl.nsLs db l) = pl.nsL0 ++ 10 :: (pl.nsL1 ++ 10 :: (pl.nsL2 db l ++ 10 :: [])) := by simp [pl.nsLs, pl.ltext]
    have h0 : pl.nsL0.length = 10 := rfl
    have h1 : pl.nsL1.length = 12 := rfl
    rw [e]
    simp only [List.length_append, List.length_cons, List.length_nil]
    omega
  have hrl : ∀ (j : Nat) W, Blk W gf #[.string ⟨(pl.ltext ((pl.nsLs db l).drop j)).toArray⟩] 95 → Calls Try.prog 47 #[.pointer (some ⟨gf, 0, none⟩)] W fun e w' =>
      e = .returned (.tuple #[.string ⟨(pl.lnx ((pl.nsLs db l).drop j)).1.toArray⟩, .bool (pl.lnx ((pl.nsLs db l).drop j)).2.1]) ∧ Hid (Blk w' gf #[.string ⟨(pl.ltext (pl.lnx ((pl.nsLs db l).drop j)).2.2).toArray⟩] 95) ∧
      Hid (KeepG gf W w') ∧ Hid (∀ B w1, Below B w1 W → B ≤ gf → Below B w1 w') := fun j W h =>
    ln_next gf ((pl.nsLs db l).drop j) 95 W h (fun x hx => hnl x (List.mem_of_mem_drop hx)) (by
      have := pl.ltext_drop (pl.nsLs db l) j
      omega)
  have hrl0 := hrl 0 W1 hfl1
  have HRL := Lib.hid hrl
  have HRL0 := Lib.hid hrl0
  have HL1 := Lib.hid hl1
  have HL2 := Lib.hid hl2
  have HDB := Lib.hid hp2
  have HC1 := Lib.hid hc1
  have HB1 := Lib.hid hb1
  have HF1 := Lib.hid hfl1
  have HGF := Lib.hid hgf
  have HGL := Lib.hid hgl
  have HGC := Lib.hid hgc
  clear hrl hrl0 hl1 hl2 hp1 hp2 hp3 hp4 hc1 hb1 hfl1 hnl hfile hw hgf hgl htl hok hd hf
  go_enter Try.func41, Try.ntmps41
  go_wp2_with (go_at_call 47; refine HRL0.out.mono ?_; rintro e w2 ⟨rfl, HK2, HKG2, HBL2⟩)
  go_loopg [4, 5] 3 (fun g lv okv wr => ∃ j : Nat, j ≤ 3 ∧ g = 3 - j ∧ lv = .string ⟨(pl.lnx ((pl.nsLs db l).drop j)).1.toArray⟩ ∧ okv = .bool (pl.lnx ((pl.nsLs db l).drop j)).2.1 ∧ Hid (Blk wr gf #[.string ⟨(pl.ltext (pl.lnx ((pl.nsLs db l).drop j)).2.2).toArray⟩] 95) ∧
    Hid (NsAt db l j wr gc) ∧ Hid (Below gf w0 wr))
  case atStart => exact ⟨0, Nat.zero_le _, rfl, rfl, rfl, HK2, Lib.hid (HC1.out.only HF1.out HKG2.out HGL.out), Lib.hid (HBL2.out _ _ HB1.out (Nat.le_refl _))⟩
  case round =>
    obtain ⟨j, hj, hgk, rfl, rfl, HK, HT, HB⟩ := hrel
    by_cases hlt : j < 3
    · obtain ⟨ln, hit⟩ : ∃ ln, (pl.nsLs db l)[j]? = some ln := ⟨_, List.getElem?_eq_getElem (by show j < 3; exact hlt)⟩
      have hnx := pl.lnx_drop (pl.nsLs db l) j ln hit
      rw [hnx] at HK ⊢
      have hrl1 := HRL.out (j + 1)
      have HRL1 := Lib.hid hrl1
      clear hnx hrl1
      by_cases hj0 : j = 0
      · subst hj0
        have hln : ln = pl.nsL0 := by unfold pl.nsLs at hit; simp at hit; exact hit.symm
        obtain ⟨LB, hLB⟩ : ∃ LB : ByteArray, (⟨ln.toArray⟩ : ByteArray) = LB := ⟨_, rfl⟩
        have hLs : LB.size ≤ 17592186044416 := by rw [← hLB, hln]; decide
        have hrm : ∀ W, Calls Try.prog 52 #[.string LB] W fun e w' => e = .returned (.string ⟨#[]⟩) ∧ W = w' := fun W => by
          have h := rmc_any LB W hLs
          rw [show pl.strip LB.data.toList = [] by rw [← hLB, hln]; decide] at h
          exact h
        have htr : ∀ W, Calls Try.prog 51 #[.string ⟨#[]⟩] W fun e w' => e = .returned (.string ⟨#[]⟩) ∧ W = w' := fun W => trim_to ⟨#[]⟩ [] rfl (by decide) W
        dsimp only
        rw [hLB]
        have HRM := Lib.hid hrm
        have HTR := Lib.hid htr
        clear hrm htr hln hLB hLs hit
        go_wp2_with (first
          | (go_at_call 52; refine (HRM.out _).mono ?_; rintro e w3 ⟨rfl, rfl⟩)
          | (go_at_call 51; refine (HTR.out _).mono ?_; rintro e w3 ⟨rfl, rfl⟩)
          | (go_at_call 47; refine (HRL1.out _ HK.out).mono ?_; rintro e w4 ⟨rfl, HK4, HKG4, HBL4⟩))
        go_roundg (3 - (0 + 1))
        case measure => omega
        case rel =>
          refine ⟨0 + 1, by omega, rfl, rfl, rfl, HK4, Lib.hid ?_, Lib.hid (HBL4.out _ _ HB.out (Nat.le_refl _))⟩
          obtain ⟨mo, f, h1, h2, h3, h4, h5, h6⟩ := HT.out.only HK.out HKG4.out HGL.out
          exact ⟨mo, f, h1.mono (by omega), h2, fun _ => h3 (by omega), fun e => by omega, fun e => by omega, fun e => by omega⟩
      · obtain ⟨mo0, f0, hm0, hcf0, hq1, hq2, hq3, _⟩ := HT.out
        obtain ⟨K, L, hNL, hfK, hK1, hK2⟩ : ∃ K L, NLine ln K L ∧ f0 K = none ∧ (j = 1 → K = pl.nsOther ∧ L ≠ []) ∧ (j = 2 → K = db ∧ L = l) := by
          have hj12 : j = 1 ∨ j = 2 := by omega
          rcases hj12 with rfl | rfl
          · have hln : ln = pl.nsL1 := by unfold pl.nsLs at hit; simp at hit; exact hit.symm
            exact ⟨pl.nsOther, pl.filesS, by rw [hln]; exact HL1.out, hq1 (by omega) _, fun _ => ⟨rfl, by decide⟩, fun e => by omega⟩
          · have hln : ln = pl.nsL2 db l := by unfold pl.nsLs at hit; simp at hit; exact hit.symm
            exact ⟨db, l, by rw [hln]; exact HL2.out, hq2 rfl _ HDB.out, fun e => by omega, fun _ => ⟨rfl, rfl⟩⟩
        have hmone : 2 ≤ j → mo0 ≠ none := hq3
        obtain ⟨LB, hLB⟩ : ∃ LB : ByteArray, (⟨ln.toArray⟩ : ByteArray) = LB := ⟨_, rfl⟩
        have hLs : LB.size ≤ 800000000000 := by rw [← hLB]; exact hNL.len
        obtain ⟨SB, hSB⟩ : ∃ SB : ByteArray, (⟨(pl.strip LB.data.toList).toArray⟩ : ByteArray) = SB := ⟨_, rfl⟩
        have hSs : SB.size ≤ 800000000000 := by
          rw [← hSB]
          show (pl.strip LB.data.toList).length ≤ _
          have h : (pl.strip LB.data.toList).length ≤ LB.data.toList.length := by
            unfold pl.strip
            split
            · exact Nat.le_refl _
            · exact List.length_take_le' _ _
          rw [ba_len] at h
          omega
        obtain ⟨TB, hTB⟩ : ∃ TB : ByteArray, (⟨(K ++ 58 :: pl.srcsTx L).toArray⟩ : ByteArray) = TB := ⟨_, rfl⟩
        have hTd : TB.data.toList = K ++ 58 :: pl.srcsTx L := by rw [← hTB]
        have hsl := pl.srcsTx_len L (fun s hs => ⟨hNL.src s hs, hNL.fit s hs⟩)
        have hL20 := hNL.n
        have hsl2 : (pl.srcsTx L).length ≤ 20 * 36507222100 := Nat.le_trans hsl (Nat.mul_le_mul_right _ hL20)
        obtain ⟨m, hm⟩ : ∃ m : Nat, K.length = m := ⟨_, rfl⟩
        have hTs : TB.size = m + 1 + (pl.srcsTx L).length := by
          have h := ba_len TB
          rw [hTd, List.length_append, List.length_cons, hm] at h
          omega
        have hKl := hNL.kl
        have hrm : ∀ W, Calls Try.prog 52 #[.string LB] W fun e w' => e = .returned (.string SB) ∧ W = w' := fun W => by
          have h := rmc_any LB W (by omega)
          rw [hSB] at h
          exact h
        have htr : ∀ W, Calls Try.prog 51 #[.string SB] W fun e w' => e = .returned (.string TB) ∧ W = w' := fun W => by
          have h := trim_to SB (K ++ 58 :: pl.srcsTx L) (by rw [← hSB, ← hLB]; exact hNL.tx) (by omega) W
          rw [hTB] at h
          exact h
        have hKso := pl.solid_plain K hNL.k
        have hKok := pl.plain_ok K hNL.k
        have hix := fun W => idx_val' TB 58 m W (by rw [hTd, ← hm]; exact pl.idx_byte 58 K _ (fun h => (pl.ok_ne 58 (hKok.2 58 h)).2.2.2.1 rfl)) (by omega)
        obtain ⟨KB, hKB⟩ : ∃ KB : ByteArray, (⟨K.toArray⟩ : ByteArray) = KB := ⟨_, rfl⟩
        have hKd : KB.data.toList = K := by rw [← hKB]
        have hKs : KB.size = m := by rw [← hKB]; exact hm
        have hTt : TB.extract 0 m = KB := by rw [pl.ext_take, hTd, ← hm, List.take_left, hKB]
        obtain ⟨S0, hS0⟩ : ∃ S0 : ByteArray, (⟨(pl.srcsTx L).toArray⟩ : ByteArray) = S0 := ⟨_, rfl⟩
        have hTr : TB.extract (m + 1) TB.size = S0 := by
          rw [pl.ext_drop, hTd, ← hm, ← List.drop_drop, List.drop_left, ← hS0]; rfl
        have hS0d : S0.data.toList = pl.srcsTx L := by rw [← hS0]
        have hS0s : S0.size ≤ 800000000000 := by rw [← hS0]; show (pl.srcsTx L).length ≤ _; omega
        have htk : ∀ W, Calls Try.prog 51 #[.string KB] W fun e w' => e = .returned (.string KB) ∧ W = w' := fun W => by
          have h := trim_to KB K (by rw [hKd]; exact pl.trim_solid K hKso) (by omega) W
          rw [hKB] at h
          exact h
        have hm0i : (0 : Int) ≤ (m : Int) := by omega
        have hmT : (m : Int) ≤ (TB.size : Int) := by omega
        have hmT1 : (m : Int) + 1 ≤ (TB.size : Int) := by omega
        have hT0 : ((TB.size : Int) == 0) = false := by rw [beq_eq_false_iff_ne]; omega
        have hmn1 : ((m : Int) == -1) = false := by rw [beq_eq_false_iff_ne]; omega
        have hTb : TB.size ≤ 900000000000 := by omega
        have hmax : KB.size ≤ maxLen := by unfold maxLen; omega
        dsimp only
        rw [hLB]
        have HRM := Lib.hid hrm
        have HTR := Lib.hid htr
        have HIX := Lib.hid hix
        have HTK := Lib.hid htk
        have HM0 := Lib.hid hm0
        have HCF0 := Lib.hid hcf0
        have HFK := Lib.hid hfK
        have HK1 := Lib.hid hK1
        have HKK2 := Lib.hid hK2
        have HMO := Lib.hid hmone
        have HSRC := Lib.hid hNL.src
        have HFIT := Lib.hid hNL.fit
        have HKD := Lib.hid hKd
        have HMAX := Lib.hid hmax
        have HS0 := Lib.hid hS0d
        have HJ := Lib.hid hq1
        have HJ2 := Lib.hid hq2
        clear hq1 hq2 hq3 hNL hfK hK1 hK2 hmone hLB hLs hSB hSs hTB hTd hsl hsl2 hm hTs hKl hrm htr hKso hKok hix hKB hKd hS0 hS0d htk hm0 hcf0 hit hmax
        go_wp2_with (first
          | (go_at_call 52; refine (HRM.out _).mono ?_; rintro e w3 ⟨rfl, rfl⟩)
          | (go_at_call 46; refine (HIX.out _).mono ?_; rintro e w3 ⟨rfl, rfl⟩)
          | (go_at_call 51; with_reducible refine (HTR.out _).mono ?_; rintro e w3 ⟨rfl, rfl⟩)
          | (go_at_call 51; with_reducible refine (HTK.out _).mono ?_; rintro e w3 ⟨rfl, rfl⟩))
        obtain ⟨wo, rfl⟩ : ∃ wo : World, wo = wr := ⟨_, rfl⟩
        go_loopg [8] L.length (fun g sv wq => ∃ (k : Nat) (S : ByteArray) (mo : Option Nat) (f : List UInt8 → Option Value), k ≤ L.length ∧ g = L.length - k ∧ sv = .string S ∧ S.size ≤ 800000000000 ∧ Hid (pl.trimS S.data.toList = pl.rem (L.drop k)) ∧ Hid (Blk wq gf #[.string ⟨(pl.ltext ((pl.nsLs db l).drop (j + 1))).toArray⟩] 95) ∧ Hid (Blk wq gc #[.nilIface, .map mo] 105) ∧ Hid (MSt wq (gc + 1) (30 * j + k) mo f) ∧ Hid (NsR wq (gc + 1) ((f K).getD (.slice none 0 0)) ((L.take k).map pl.lowS)) ∧ Hid (∀ x, x ≠ K → f x = f0 x) ∧ Hid (0 < k ∨ mo0 ≠ none → mo ≠ none) ∧ Hid (Below gf w0 wq))
        case atStart => exact ⟨0, S0, mo0, f0, Nat.zero_le _, rfl, rfl, hS0s, Lib.hid (by rw [HS0.out]; exact pl.trim_srcs L HSRC.out), HK, HCF0, HM0, Lib.hid (by rw [HFK.out]; exact NsR.nil _ _), Lib.hid (fun _ _ => rfl), Lib.hid (fun h => h.elim (fun h => absurd h (Nat.lt_irrefl 0)) id), HB⟩
        case round =>
          obtain ⟨k, S, mo, f, hk, hgi, rfl, hSs, HTS, HKq, HCq, HMq, HNq, HFq, HOq, HBq⟩ := hrel
          by_cases hlk : k < L.length
          · obtain ⟨s, hs⟩ : ∃ s, L[k]? = some s := ⟨_, List.getElem?_eq_getElem hlk⟩
            obtain ⟨nm, cs⟩ := s
            obtain ⟨r, hr⟩ : ∃ r, L.drop (k + 1) = r := ⟨_, rfl⟩
            have hdr : L.drop k = (nm, cs) :: r := by
              obtain ⟨h1, h2⟩ := List.getElem?_eq_some_iff.1 hs
              rw [List.drop_eq_getElem_cons h1, h2, hr]
            have hmem := List.mem_of_getElem? hs
            have hsok := HSRC.out _ hmem
            have hsfit := HFIT.out _ hmem
            obtain ⟨hpn, h8, hcok⟩ := pl.srcOk_parts _ hsok
            have hpn' : pl.plain nm = true := hpn
            have h8' : cs.length ≤ 8 := h8
            have hcok' : ∀ c ∈ cs, pl.critOk c = true := hcok
            have hcfit : ∀ c ∈ cs, FitC c := hsfit.2.2
            have hnl : nm.length ≤ 2147483647 := hsfit.1
            have hrok : ∀ s ∈ r, pl.srcOk s = true := fun s hs => HSRC.out s (List.mem_of_mem_drop (by rw [hr]; exact hs))
            have hrfit : ∀ s ∈ r, FitN s := fun s hs => HFIT.out s (List.mem_of_mem_drop (by rw [hr]; exact hs))
            have hrn : r.length ≤ 20 := by rw [← hr, List.length_drop]; omega
            have hrl := pl.srcsTx_len r (fun s hs => ⟨hrok s hs, hrfit s hs⟩)
            have hrl2 : (pl.srcsTx r).length ≤ 20 * 36507222100 := Nat.le_trans hrl (Nat.mul_le_mul_right _ hrn)
            have hbl := pl.bodyS_len (nm, cs) hsok hsfit
            obtain ⟨hnn, hnok⟩ := pl.plain_ok nm hpn'
            have hn32 : (32 : UInt8) ∉ nm := fun h => (pl.ok_ne 32 (hnok 32 h)).1 rfl
            obtain ⟨X, hX⟩ : ∃ X : ByteArray, (⟨(pl.rem ((nm, cs) :: r)).toArray⟩ : ByteArray) = X := ⟨_, rfl⟩
            have hXd : X.data.toList = pl.rem ((nm, cs) :: r) := by rw [← hX]
            have hXs : X.size ≤ 800000000000 := by
              rw [← hX]
              show (pl.bodyS (nm, cs) ++ pl.srcsTx r).length ≤ _
              rw [List.length_append]
              omega
            have htx : ∀ W, Calls Try.prog 51 #[.string S] W fun e w' => e = .returned (.string X) ∧ W = w' := fun W => by
              have h := trim_to S _ HTS.out (by omega) W
              rw [hdr, hX] at h
              exact h
            obtain ⟨n, hn⟩ : ∃ n : Nat, nm.length = n := ⟨_, rfl⟩
            have hn0 : 0 < n := by rw [← hn]; exact List.length_pos_iff.2 hnn
            obtain ⟨NB, hNB⟩ : ∃ NB : ByteArray, (⟨nm.toArray⟩ : ByteArray) = NB := ⟨_, rfl⟩
            have hNV : (.string NB : Value) = pl.strV nm := by rw [← hNB]; rfl
            have hgB : gc + 1 ≤ wr.heap.size := HCq.out.lt
            have htake : (L.take (k + 1)).map pl.lowS = (L.take k).map pl.lowS ++ [(nm, cs.map pl.lowC)] := by rw [pl.take_at L k _ hs, List.map_append]; rfl
            have hkl : ((L.take k).map pl.lowS).length ≤ 20 := by rw [List.length_map]; have := List.length_take_le' k L; omega
            have HTX := Lib.hid htx
            have HNV := Lib.hid hNV
            have HGB := Lib.hid hgB
            have HTAKE := Lib.hid htake
            have HKL := Lib.hid hkl
            have HGI := Lib.hid hgi
            have HR := Lib.hid hr
            have hcase := pl.sp_cases L k nm cs r hdr
            clear htx hNV htake hkl hgi hr hdr hmem hsok hsfit hpn h8 hcok hrl hbl hs hgB
            have hX0 : ((X.size : Int) == 0) = false := by
              rw [beq_eq_false_iff_ne]
              have h1 := ba_len X
              have h2 : 0 < (pl.rem ((nm, cs) :: r)).length := by
                show 0 < (nm ++ pl.critsTx cs ++ pl.srcsTx r).length
                rw [List.length_append, List.length_append]; omega
              rw [hXd] at h1
              omega
            obtain ⟨sp, hsp, hspc⟩ : ∃ sp : Int, pl.idx X.data.toList 32 = sp ∧ ((sp = -1 ∧ X = NB ∧ cs = [] ∧ r = []) ∨ (sp = n ∧ ((cs = [] ∧ ∃ t q, r = t :: q) ∨ cs ≠ []))) := by
              rcases hcase with ⟨e1, e2⟩ | ⟨e1, t, q, e2⟩ | e1
              · refine ⟨-1, ?_, .inl ⟨rfl, pl.ba_ext (by rw [hXd, ← hNB, e1, e2]; exact pl.rem_last nm), e1, e2⟩⟩
                rw [hXd, e1, e2, pl.rem_last]
                exact pl.idx_none nm 32 hn32
              · refine ⟨n, ?_, .inr ⟨rfl, .inl ⟨e1, t, q, e2⟩⟩⟩
                rw [hXd, e1, e2, pl.rem_plain, ← hn]
                exact pl.idx_byte 32 nm _ hn32
              · refine ⟨n, ?_, .inr ⟨rfl, .inr e1⟩⟩
                rw [hXd, pl.rem_crit nm cs e1 r, ← hn]
                exact pl.idx_byte 32 nm _ hn32
            have hix := fun W => idx_val' X 32 sp W hsp (by omega)
            have HIX := Lib.hid hix
            have HSPC := Lib.hid hspc
            have HXD := Lib.hid hXd
            have HNB := Lib.hid hNB
            have HN := Lib.hid hn
            have HPC := Lib.hid (⟨hcok', hcfit, h8'⟩ : (∀ c ∈ cs, pl.critOk c = true) ∧ (∀ c ∈ cs, FitC c) ∧ cs.length ≤ 8)
            have HROK := Lib.hid hrok
            have HRL2 := Lib.hid hrl2
            clear hix hspc hcase hX hXd hNB hn hcok' hcfit h8' hrok hrl2 hsp hpn' hrfit hrn hnn hnok hn32
            go_upto_if 57 with (first
              | (go_at_call 51; with_reducible refine (HTX.out _).mono ?_; rintro e w5 ⟨rfl, rfl⟩)
              | (go_at_call 46; refine (HIX.out _).mono ?_; rintro e w5 ⟨rfl, rfl⟩))
            go_cut [8, 10] from 49 to 130 (fun c8 c10 wx => ∃ R1 : ByteArray, c8 = .string R1 ∧ c10 = .string NB ∧ R1.size ≤ 800000000000 ∧ Hid ((cs = [] ∧ R1.data.toList = pl.rem r) ∨ (cs ≠ [] ∧ R1.data.toList = pl.brack cs r)) ∧ wr = wx)
            case first =>
              rcases HSPC.out with ⟨rfl, hXN, hc0, hr0⟩ | ⟨rfl, hc⟩
              · subst hXN
                have HH : Hid ((cs = [] ∧ (⟨#[]⟩ : ByteArray).data.toList = pl.rem r) ∨ (cs ≠ [] ∧ (⟨#[]⟩ : ByteArray).data.toList = pl.brack cs r)) := Lib.hid (.inl ⟨hc0, by rw [hr0]; rfl⟩)
                clear hc0 hr0
                go_wp2_with fail
                go_meet
                exact ⟨_, rfl, rfl, by decide, HH, rfl⟩
              · obtain ⟨RB, hRd, hXd2⟩ : ∃ RB : ByteArray, ((cs = [] ∧ r ≠ [] ∧ RB.data.toList = pl.rem r) ∨ (cs ≠ [] ∧ RB.data.toList = pl.brack cs r)) ∧ X.data.toList = nm ++ 32 :: RB.data.toList := by
                  rcases hc with ⟨e1, t, q, e2⟩ | e1
                  · exact ⟨⟨(pl.rem r).toArray⟩, .inl ⟨e1, by rw [e2]; simp, rfl⟩, by rw [HXD.out, e1, e2]; exact pl.rem_plain nm t q⟩
                  · exact ⟨⟨(pl.brack cs r).toArray⟩, .inr ⟨e1, rfl⟩, by rw [HXD.out]; exact pl.rem_crit nm cs e1 r⟩
                have hnn := HN.out
                have hXs2 : X.size = n + 1 + RB.size := by
                  have h := ba_len X
                  have h2 := ba_len RB
                  rw [hXd2, List.length_append, List.length_cons, hnn] at h
                  omega
                have hXt : X.extract 0 n = NB := by rw [pl.ext_take, hXd2, ← hnn, List.take_left, HNB.out]
                have hXr : X.extract (n + 1) X.size = RB := by
                  rw [pl.ext_drop, hXd2, ← hnn, ← List.drop_drop, List.drop_left]; rfl
                have hRso : pl.solid RB.data.toList := by
                  rcases hRd with ⟨_, h1, h2⟩ | ⟨_, h2⟩
                  · rw [h2]; exact pl.rem_solid r h1 HROK.out
                  · rw [h2]; exact pl.brack_solid cs r HROK.out
                have htr : ∀ W, Calls Try.prog 51 #[.string RB] W fun e w' => e = .returned (.string RB) ∧ W = w' := fun W => by
                  have h := trim_to RB RB.data.toList (pl.trim_solid _ hRso) (by omega) W
                  exact h
                have hn0i : (0 : Int) ≤ (n : Int) := by omega
                have hnX : (n : Int) ≤ (X.size : Int) := by omega
                have hnX1 : (n : Int) + 1 ≤ (X.size : Int) := by omega
                have hnn1 : ((n : Int) == -1) = false := by rw [beq_eq_false_iff_ne]; omega
                have hRs : RB.size ≤ 800000000000 := by omega
                have HTRR := Lib.hid htr
                have HH : Hid ((cs = [] ∧ RB.data.toList = pl.rem r) ∨ (cs ≠ [] ∧ RB.data.toList = pl.brack cs r)) := Lib.hid (hRd.imp (fun h => ⟨h.1, h.2.2⟩) id)
                clear htr hRso hRd hXd2 hXs2 hnn hc
                go_wp2_with (go_at_call 51; with_reducible refine (HTRR.out _).mono ?_; rintro e w5 ⟨rfl, rfl⟩)
                go_meet
                exact ⟨RB, rfl, rfl, hRs, HH, rfl⟩
            case rest =>
            obtain ⟨R1, rfl, rfl, hR1s, HR1, rfl⟩ := hcut
            clear HTX HIX HSPC hX0
            go_upto_region 23 with fail
            go_cut [74] from 49 to 130 (fun c74 wx => ∃ q : Bool, c74 = .bool q ∧ Hid ((q = false ∧ cs = [] ∧ R1.data.toList = pl.rem r) ∨ (q = true ∧ cs ≠ [] ∧ R1.data.toList = pl.brack cs r)) ∧ wr = wx)
            case first =>
              have hl := ba_len R1
              rcases HR1.out with ⟨e1, e2⟩ | ⟨e1, e2⟩
              · have E1 := Lib.hid e1
                have E2 := Lib.hid e2
                by_cases h0 : 0 < R1.size
                · have h91 : ((R1[0].toNat : Int) == 91) = false := by
                    have h1 := pl.getElem_data R1 0 h0
                    rw [e2] at h1
                    match r, HROK.out, h1 with
                    | (tn, tc) :: q, hro, h1 =>
                      have h2 := (pl.srcOk_parts (tn, tc) (hro _ (by simp))).1
                      obtain ⟨h3, h4⟩ := pl.plain_ok tn h2
                      match tn, h3, h4, h1 with
                      | y :: yr, _, h4, h1 =>
                        injection h1 with h1
                        rw [← h1, beq_eq_false_iff_ne]
                        intro e
                        exact (pl.ok_ne y (h4 y (by simp))).2.2.2.2.2.1 (UInt8.toNat_inj.1 (by have : (91 : UInt8).toNat = 91 := rfl; omega))
                  have h0i : (0 : Int) < (R1.size : Int) := by omega
                  clear e1 e2 hl
                  go_wp2_with fail
                  go_meet
                  exact ⟨false, rfl, Lib.hid (.inl ⟨rfl, E1.out, E2.out⟩), rfl⟩
                · have h0i : ¬ (0 : Int) < (R1.size : Int) := by omega
                  clear e1 e2 hl
                  go_wp2_with fail
                  go_meet
                  exact ⟨false, rfl, Lib.hid (.inl ⟨rfl, E1.out, E2.out⟩), rfl⟩
              · have E1 := Lib.hid e1
                have E2 := Lib.hid e2
                have h0 : 0 < R1.size := by
                  rw [e2] at hl
                  unfold pl.brack at hl
                  rw [List.length_cons] at hl
                  omega
                have hY91 : R1[0] = 91 := by
                  have h1 := pl.getElem_data R1 0 h0
                  rw [e2] at h1
                  injection h1 with h1
                  exact h1.symm
                have h0i : (0 : Int) < (R1.size : Int) := by omega
                clear e1 e2 hl
                go_wp2_with fail
                go_meet
                exact ⟨true, rfl, Lib.hid (.inr ⟨rfl, E1.out, E2.out⟩), rfl⟩
            case rest =>
            obtain ⟨q, rfl, HQ, rfl⟩ := hcut
            clear HR1
            go_upto_if 74 with fail
            go_cut [8, 11, 12, 13] from 49 to 130 (fun c8 c11 c12 c13 wx => ∃ (R2 : ByteArray), c8 = .string R2 ∧ R2.size ≤ 800000000000 ∧ Hid (pl.trimS R2.data.toList = pl.rem r) ∧ Hid (Crs wx (gc + 1) 110 c11 (cs.map pl.lowC)) ∧ Hid (Below wr.heap.size wr wx))
            case first =>
              have hl := ba_len R1
              rcases HQ.out with ⟨rfl, e1, e2⟩ | ⟨rfl, e1, e2⟩
              · have hRV : pl.trimS R1.data.toList = pl.rem r := by rw [e2]; exact pl.trim_rem r HROK.out
                have hxx : Crs wr (gc + 1) 110 (.slice none 0 0) (cs.map pl.lowC) := by rw [e1]; exact Crs.nil _ _ _
                have HRV := Lib.hid hRV
                have HX := Lib.hid hxx
                clear hRV hxx e1 e2 hl
                go_wp2_with fail
                go_meet
                exact ⟨R1, rfl, hR1s, HRV, HX, Lib.hid (Below.refl _ _)⟩
              · obtain ⟨hcok', hcfit, h8'⟩ := HPC.out
                obtain ⟨b, hb⟩ : ∃ b : Nat, (pl.critsIn cs).length + 1 = b := ⟨_, rfl⟩
                have hYs : R1.size = b + 1 + (pl.srcsTx r).length := by
                  rw [e2] at hl
                  unfold pl.brack at hl
                  rw [List.length_cons, List.length_append, List.length_cons] at hl
                  omega
                have hiy := fun W => idx_val' R1 93 b W (by rw [e2, ← hb]; exact pl.brack_idx cs r hcok') (by omega)
                obtain ⟨CB, hCB⟩ : ∃ CB : ByteArray, (⟨(pl.critsIn cs).toArray⟩ : ByteArray) = CB := ⟨_, rfl⟩
                obtain ⟨ZB, hZB⟩ : ∃ ZB : ByteArray, (⟨(pl.srcsTx r).toArray⟩ : ByteArray) = ZB := ⟨_, rfl⟩
                have hYc : R1.extract 1 b = CB := pl.ba_ext (by
                  rw [Lib.extract_data, e2, ← hCB, ← hb]
                  show ((pl.critsIn cs ++ 93 :: pl.srcsTx r).take ((pl.critsIn cs).length + 1 - 1)) = _
                  rw [Nat.add_sub_cancel, List.take_left])
                have hYz : R1.extract (b + 1) R1.size = ZB := by
                  rw [pl.ext_drop, e2, ← hb, ← hZB]
                  have : (pl.brack cs r).drop ((pl.critsIn cs).length + 1 + 1) = pl.srcsTx r := by
                    show (pl.critsIn cs ++ 93 :: pl.srcsTx r).drop ((pl.critsIn cs).length + 1) = _
                    rw [← List.drop_drop, List.drop_left]; rfl
                  rw [this]
                have hrl2 := HRL2.out
                have hZs : ZB.size ≤ 800000000000 := by rw [← hZB]; show (pl.srcsTx r).length ≤ _; omega
                have hpc := fun W => pc_sp cs W e1 h8' hcok' hcfit
                rw [hCB] at hpc
                have hb1 : (1 : Int) ≤ (b : Int) := by omega
                have hbY : (b : Int) ≤ (R1.size : Int) := by omega
                have hbY1 : (b : Int) + 1 ≤ (R1.size : Int) := by omega
                have hbn1 : ((b : Int) == -1) = false := by rw [beq_eq_false_iff_ne]; omega
                have hb2 : b ≤ 800000000000 := by omega
                have hRV : pl.trimS ZB.data.toList = pl.rem r := by rw [← hZB]; exact pl.trim_srcs r HROK.out
                have HIY := Lib.hid hiy
                have HPCC := Lib.hid hpc
                have HRV := Lib.hid hRV
                clear hiy hpc hRV hYs hb hCB hZB e1 e2 hl hcok' hcfit h8' hrl2
                go_wp2_with (first
                  | (go_at_call 46; with_reducible refine (HIY.out _).mono ?_; rintro e w5 ⟨rfl, rfl⟩)
                  | (go_at_call 53; refine (HPCC.out _).mono ?_; rintro e w5 ⟨x5, rfl, hx5, hb5⟩; have hx6 := hx5.mono HGB.out; obtain ⟨a5, c5, rfl⟩ := Row.shape hx5; obtain ⟨n5, hn5⟩ : ∃ n5, (cs.map pl.lowC).length = n5 := ⟨_, rfl⟩; rw [hn5] at hx6 ⊢; have HX := Lib.hid hx6; clear hn5 hx6; have HB5 := Lib.hid hb5; clear hx5 hb5))
                go_meet
                exact ⟨ZB, rfl, hZs, HRV, HX, HB5⟩
            case rest =>
            obtain ⟨R2, rfl, hR2s, HR2, HX2, HB2⟩ := hcut
            clear HQ
            have hKV := HKq.out.below HB2.out HKq.out.lt
            have hCV := HCq.out.below HB2.out HCq.out.lt
            have hMV := HMq.out.below HB2.out
            have hNV2 := HNq.out.below HB2.out
            have hBV := HBq.out.trans (HB2.out.mono (Nat.le_of_lt HKq.out.lt))
            have HKV := Lib.hid hKV
            have HCV := Lib.hid hCV
            have HMV := Lib.hid hMV
            have HNSV := Lib.hid hNV2
            have HBV := Lib.hid hBV
            have y1 : wc.cell? ⟨gc, 1, none⟩ = some (.map mo) := hCV.cell 1
            have f1 := hCV.frozen 1
            obtain ⟨V, rfl⟩ : ∃ V : World, V = wc := ⟨_, rfl⟩
            clear hKV hCV hMV hNV2 hBV
            obtain ⟨qn, hqn⟩ : ∃ qn, mo.isNone = qn := ⟨_, rfl⟩
            have qM : ∀ (w : World), (binOp .eql 103 (.map mo) (.map none)).run Try.prog w = .ok (.bool qn) w := fun w => by rw [← hqn]; exact run_eql_map_nil w _ _ _ mo Try.underlying103
            have HQN := Lib.hid hqn
            clear hqn
            go_upto_if 110 with fail
            clear qM
            go_cut [8] from 49 to 130 (fun c8 wx => ∃ gm nn, c8 = .string R2 ∧ gc + 1 ≤ gm ∧ nn ≤ 30 * j + k ∧ Hid (MapF Try.prog 9 wx gm nn f) ∧ Hid (Blk wx gc #[.nilIface, .map (some gm)] 105) ∧ Hid (KeepT 105 V wx) ∧ Hid (Below gf w0 wx))
            case first =>
              rcases mo with _ | gm
              · have hq : true = qn := HQN.out
                subst hq
                have hal := (Below.refl V.heap.size V).alloc (Nat.le_refl _) (Obj.map #[] 0)
                have hC2 := HCV.out.below hal HCV.out.lt
                have y2 : (V.alloc (Obj.map #[] 0)).cell? ⟨gc, 1, none⟩ = some (.map none) := hC2.cell 1
                have f2 := hC2.frozen 1
                have hMm : MapF Try.prog 9 (V.alloc (Obj.map #[] 0)) V.heap.size 0 (fun _ => none) := MapF.made _ _ V
                have HAL := Lib.hid hal
                have HC2 := Lib.hid hC2
                have HMm := Lib.hid hMm
                clear hal hC2 hMm
                go_wp2_with fail
                go_meet
                refine ⟨V.heap.size, 0, rfl, HCV.out.lt, Nat.zero_le _, Lib.hid ?_, Lib.hid (HC2.out.set 1 _), Lib.hid ((KeepT.of HAL.out).trans (KeepT.set HC2.out 1 _)), Lib.hid ((HBV.out.trans (HAL.out.mono (Nat.le_of_lt HKV.out.lt))).setCell (p := ⟨gc, 1, none⟩) (by show gf ≤ gc; have := HGL.out; omega) _)⟩
                have hfn : f = fun _ => none := by
                  rcases HMV.out with ⟨_, h⟩ | ⟨gm, n, h, _⟩
                  · exact funext h
                  · cases h
                rw [hfn]
                exact HMm.out.keep (setCell_far _ gc 1 _ _ (by have := HCV.out.lt; omega))
              · have hq : false = qn := HQN.out
                subst hq
                go_wp2_with fail
                go_meet
                rcases HMV.out with ⟨h, _⟩ | ⟨gm', n', h, h1, h2, h3⟩
                · cases h
                · injection h with h
                  subst h
                  exact ⟨gm, n', rfl, h1, h2, Lib.hid h3, HCV, Lib.hid (KeepT.refl _ _), HBV⟩
            case rest =>
            obtain ⟨gm, nn, rfl, hgmB, hnn, HMx, HCx, HKx, HBx⟩ := hcut
            obtain ⟨U, rfl⟩ : ∃ U : World, U = wc := ⟨_, rfl⟩
            go_upto_region 36 with fail
            obtain ⟨xa, xc, hxa⟩ := Row.shape HX2.out
            obtain ⟨nx, hnx⟩ : ∃ nx, (cs.map pl.lowC).length = nx := ⟨_, rfl⟩
            rw [hnx] at hxa
            clear hnx
            subst hxa
            have hMU := HMx.out
            have hCU := HCx.out
            have hkU := HKx.out
            have hBU := HBx.out
            have HXV := HX2
            clear y1 f1 HMx HCx HKx HBx HX2 HQN
            have hnm : nn < maxLen := by unfold maxLen; omega
            obtain ⟨v, hv⟩ : ∃ v, (f K).getD (.slice none 0 0) = v := ⟨_, rfl⟩
            have hNU := HNSV.out.keepT hkU (by decide) (by decide)
            rw [hv] at hNU
            obtain ⟨vs, hvs, hown, hcrs⟩ := hNU
            obtain ⟨n0, hn0⟩ : ∃ n0, ((L.take k).map pl.lowS).length = n0 := ⟨_, rfl⟩
            rw [hn0] at hown
            have hkl := HKL.out
            rw [hn0] at hkl
            have HN0 := Lib.hid hn0
            clear hn0
            obtain ⟨av, cv, hav⟩ := Row.shape hown
            subst hav
            have hxU := HXV.out.keepT hkU (by decide)
            have hKU := HKV.out.keepT hkU (by decide)
            have hbeg : ∀ x, Below U.heap.size U (U.alloc (Obj.cells #[.string NB, x] 108)).drew := fun x => ((Below.refl U.heap.size U).alloc (Nat.le_refl _) _).drew
            have lk0 := look_v (w := U.drew) (hMU.keep rfl) K KB HKD.out HMAX.out hv
            have lkA := fun x => look_v (w := (U.alloc (Obj.cells #[.string NB, x] 108)).drew) (hMU.below (hbeg x) hMU.lt) K KB HKD.out HMAX.out hv
            have u1 : U.cell? ⟨gc, 1, none⟩ = some (.map (some gm)) := hCU.cell 1
            have u1d : U.drew.cell? ⟨gc, 1, none⟩ = some (.map (some gm)) := u1
            have uA : ∀ x, (U.alloc (Obj.cells #[.string NB, x] 108)).cell? ⟨gc, 1, none⟩ = some (.map (some gm)) := fun x => (hCU.below (hbeg x) hCU.lt).cell 1
            have uAd : ∀ x, (U.alloc (Obj.cells #[.string NB, x] 108)).drew.cell? ⟨gc, 1, none⟩ = some (.map (some gm)) := uA
            have hrow : ∀ x, Blk (U.alloc (Obj.cells #[.string NB, x] 108)).drew U.heap.size #[.string NB, x] 108 := fun x => Blk.new U _ _
            have hownA := fun x => Row.below hown (hbeg x)
            have hzU : ∀ x, gc + 1 ≤ (U.alloc (Obj.cells #[.string NB, x] 108)).drew.heap.size := fun x => (hCU.below (hbeg x) hCU.lt).lt
            have HKU := Lib.hid hKU
            have HCU := Lib.hid hCU
            have HMU := Lib.hid hMU
            have HBU := Lib.hid hBU
            have HVS := Lib.hid hvs
            have HOWN := Lib.hid hown
            have HCRS := Lib.hid hcrs
            have HXU := Lib.hid hxU
            have HBEG := Lib.hid hbeg
            have HROW := Lib.hid hrow
            have HOWNA := Lib.hid hownA
            have HZU := Lib.hid hzU
            have HGMB := Lib.hid hgmB
            have HNN := Lib.hid hnn
            clear hKU hCU hMU hBU hvs hown hcrs hxU hbeg hrow hownA hzU hgmB hnn hv hkU
            clear hmm hTr hTt hmT hmT1 hT0 hmn1 hTb hm0i hS0s
            go_region_held3 (fun w' => w'.cell? ⟨gc, 1, none⟩ = some (.map (some gm))) (first | exact u1d | exact uAd _ | exact u9 | exact u10 | exact u1 | exact uA _)
              ((refine step_row 102 108 (.agg #[.string ⟨#[]⟩, .slice none 0 0]) 2 40 Try.underlying102 infoNS rfl (by decide) (by decide) #[.string NB, _] rfl (by simp [Value.oneCell']) rfl _ _ rfl rfl (gc + 1) (HOWNA.out _) U.heap.size rfl (HROW.out _) (by omega) (HZU.out _) ?_; intro v9 w9 hv9 hg9 hp9; have hC9 := (HCU.out.below (HBEG.out _) HCU.out.lt).keepT (KeepT.grown (HOWNA.out _) hg9) (by decide); have u9 : w9.cell? ⟨gc, 1, none⟩ = some (.map (some gm)) := hC9.cell 1; have hM9 := (HMU.out.below (HBEG.out _) HMU.out.lt).apart (HOWNA.out _) hg9; obtain ⟨a9, c9, hav9⟩ := Row.shape hv9; obtain ⟨n9, hn9⟩ : ∃ n9, n0 + 1 = n9 := ⟨_, rfl⟩; rw [hn9] at hav9 hv9; have HN9 := Lib.hid hn9; clear hn9; subst hav9; obtain ⟨w10, hrun10, hM10, hg10⟩ := hM9.put (t := 103) (e := 102) Try.underlying9 Try.underlying103 hnm KB HMAX.out (.slice a9 n9 c9); have hC10 := hC9.keepT (KeepT.map (T := 9) hM9 hg10) (by decide); have u10 : w10.cell? ⟨gc, 1, none⟩ = some (.map (some gm)) := hC10.cell 1; have HV9 := Lib.hid hv9; have HG9 := Lib.hid hg9; have HM10 := Lib.hid hM10; have HG10 := Lib.hid hg10; clear hv9 hg9 hp9 hC9 hM9 hM10 hg10 hC10))
            all_goals
              go_wp2_with fail
              go_roundg (L.length - (k + 1))
              case measure => have := HGI.out; omega
              case rel =>
                have hst := ns_step (w0 := w0) (s := (nm, cs.map pl.lowC)) HKU.out HCU.out HMU.out HBU.out HGL.out HGMB.out HVS.out (by rw [HN0.out]; exact HOWN.out) HCRS.out HXU.out (by rw [← HNV.out]) (HBEG.out _) HG9.out (by rw [HN0.out, HN9.out]; exact HV9.out) HKD.out HM10.out HG10.out HNN.out
                obtain ⟨h1, h2, h3, h4, h5, h6⟩ := hst
                exact ⟨k + 1, R2, some gm, _, by omega, rfl, rfl, hR2s, Lib.hid (by rw [HR.out]; exact HR2.out), Lib.hid h1, Lib.hid h2, Lib.hid (h3.mono (by omega)), Lib.hid (by rw [HTAKE.out]; exact h4), Lib.hid (fun x hx => (h5 x hx).trans (HFq.out x hx)), Lib.hid (fun _ => by simp), Lib.hid h6⟩
          · have hke : k = L.length := by omega
            subst hke
            have hdn : L.drop L.length = [] := List.drop_length
            have htx : ∀ W, Calls Try.prog 51 #[.string S] W fun e w' => e = .returned (.string ⟨#[]⟩) ∧ W = w' := fun W => by
              have h := trim_to S _ HTS.out (by omega) W
              rw [hdn] at h
              exact h
            have HTX := Lib.hid htx
            clear htx hdn
            go_wp2_with (first
              | (go_at_call 51; refine (HTX.out _).mono ?_; rintro e w5 ⟨rfl, rfl⟩)
              | (go_at_call 47; refine (HRL1.out _ HKq.out).mono ?_; rintro e w4 ⟨rfl, HK4, HKG4, HBL4⟩))
            go_roundg (3 - (j + 1))
            case measure => omega
            case rel =>
              refine ⟨j + 1, by omega, rfl, rfl, rfl, HK4, Lib.hid ?_, Lib.hid (HBL4.out _ _ HBq.out (Nat.le_refl _))⟩
              have hmon : mo ≠ none := HOq.out (by
                have hj12 : j = 1 ∨ j = 2 := by omega
                rcases hj12 with e | e
                · exact .inl (List.length_pos_iff.2 (HK1.out e).2)
                · exact .inr (HMO.out (by omega)))
              refine ⟨mo, f, (HMq.out.only HKq.out HKG4.out).mono (by have := hj; omega), HCq.out.keep (HKG4.out gc (by have := HGL.out; omega)), fun h => by omega, fun h => ?_, fun _ => hmon, fun h => ?_⟩
              · intro x hx
                have e1 : j = 1 := by omega
                have eK := (HK1.out e1).1
                rw [HFq.out x (by rw [eK]; exact hx)]
                exact HJ.out (by omega) x
              · have e2 : j = 2 := by omega
                obtain ⟨eK, eL⟩ := HKK2.out e2
                have h6 := HNq.out.only HKG4.out (by have := HGL.out; omega)
                rw [List.take_length, eK, eL] at h6
                exact h6
    · have hje : j = 3 := by omega
      subst hje
      have hnx := pl.lnx_end (pl.nsLs db l) 3 (by show 3 ≤ 3; omega)
      rw [hnx] at HK ⊢
      obtain ⟨mo, f, h1, h2, _, _, h5, h6⟩ := HT.out
      have hmo := h5 (by omega)
      rcases h1 with ⟨e1, _⟩ | ⟨gm, n, rfl, _, _, hM⟩
      · exact absurd e1 hmo
      have HM := Lib.hid hM
      have HCF := Lib.hid h2
      have HN := Lib.hid (h6 rfl)
      clear hnx hmo hM h2 h5 h6
      go_wp2_with fail
      go_ret
      exact ⟨gc, gm, n, f, rfl, HCF, HM, Lib.hid (by rw [HGF.out]; exact HN.out.mono (by have := HGL.out; omega)), by rw [HGF.out]; exact HB⟩

end Go.Proofs.Ytabeklpllphiaaa
