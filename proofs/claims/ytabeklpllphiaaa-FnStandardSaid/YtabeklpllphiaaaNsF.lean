/-
  WALKS: foreachField over criteria, parseCriteria.
-/
import Derived.Test.YtabeklpllphiaaaNsC
namespace Go.Proofs.Ytabeklpllphiaaa
open Go.RowKit

def pl.solid (l : List UInt8) : Prop := l ≠ [] ∧ (∀ b, l.head? = some b → pl.ws b = false) ∧ (∀ b, l.getLast? = some b → pl.ws b = false)
theorem pl.solid_all (l : List UInt8) (h : l ≠ []) (h2 : ∀ b ∈ l, pl.ws b = false) : pl.solid l :=
  ⟨h, fun b hb => h2 b (List.mem_of_head? hb), fun b hb => h2 b (List.mem_of_getLast? hb)⟩
theorem pl.solid_app (a x b : List UInt8) (ha : pl.solid a) (hb : pl.solid b) : pl.solid (a ++ (x ++ b)) := by
  obtain ⟨h1, h2, _⟩ := ha
  obtain ⟨k1, _, k3⟩ := hb
  refine ⟨by simp [h1], fun c hc => ?_, fun c hc => ?_⟩
  · match a, h1 with
    | y :: a, _ => exact h2 c (by simpa using hc)
  · rw [List.getLast?_append, List.getLast?_append] at hc
    match hl : b.getLast? with
    | some z => rw [hl] at hc; simp at hc; subst hc; exact k3 _ hl
    | none => exact absurd (List.getLast?_eq_none_iff.1 hl) k1
theorem pl.trim_solid (l : List UInt8) (h : pl.solid l) : pl.trimS l = l := by
  obtain ⟨h1, h2, h3⟩ := h
  have e1 : pl.trimL l = l := by
    unfold pl.trimL
    match l, h1 with
    | x :: r, _ => rw [List.dropWhile_cons_of_neg (by rw [h2 x rfl]; simp)]
  unfold pl.trimS
  rw [e1]
  unfold pl.trimR
  match hr : l.reverse with
  | [] => exact absurd (List.reverse_eq_nil_iff.1 hr) h1
  | x :: r =>
    have hx : l.getLast? = some x := by rw [← List.head?_reverse, hr]; rfl
    rw [List.dropWhile_cons_of_neg (by rw [h3 x hx]; simp), ← hr, List.reverse_reverse]
theorem pl.crit_bytes (c : Crit) (h : pl.critOk c = true) : ∀ b ∈ pl.critTx c, pl.okB b ∨ b = 33 ∨ b = 61 := by
  obtain ⟨h1, h2⟩ := pl.critOk_parts c h
  intro b hb
  unfold pl.critTx at hb
  rcases List.mem_append.1 hb with hb | hb
  · split at hb
    · exact .inr (.inl (by simpa using hb))
    · simp at hb
  · rcases List.mem_append.1 hb with hb | hb
    · exact .inl ((pl.plain_ok _ h1).2 b hb)
    · rcases List.mem_cons.1 hb with hb | hb
      · exact .inr (.inr hb)
      · exact .inl ((pl.plain_ok _ h2).2 b hb)
theorem pl.crit_ne (c : Crit) : pl.critTx c ≠ [] := by unfold pl.critTx; simp
theorem pl.crit_ws (c : Crit) (h : pl.critOk c = true) : ∀ b ∈ pl.critTx c, pl.ws b = false := fun b hb => by
  rcases pl.crit_bytes c h b hb with h | h | h
  · exact pl.ok_ws b h
  · subst h; decide
  · subst h; decide
theorem pl.crit_solid (c : Crit) (h : pl.critOk c = true) : pl.solid (pl.critTx c) := pl.solid_all _ (pl.crit_ne c) (pl.crit_ws c h)
theorem pl.crit_32 (c : Crit) (h : pl.critOk c = true) : (32 : UInt8) ∉ pl.critTx c := fun hm => by
  have := pl.crit_ws c h 32 hm
  revert this
  decide
theorem pl.critsIn_two (c d : Crit) (r : List Crit) : pl.critsIn (c :: d :: r) = pl.critTx c ++ 32 :: pl.critsIn (d :: r) := by simp [pl.critsIn]
theorem pl.critsIn_solid : ∀ (cs : List Crit), cs ≠ [] → (∀ c ∈ cs, pl.critOk c = true) → pl.solid (pl.critsIn cs)
  | [], h, _ => absurd rfl h
  | [c], _, h => by
    have e : pl.critsIn [c] = pl.critTx c := by simp [pl.critsIn]
    rw [e]
    exact pl.crit_solid c (h c (by simp))
  | c :: d :: r, _, h => by
    rw [pl.critsIn_two]
    exact pl.solid_app (pl.critTx c) [32] _ (pl.crit_solid c (h c (by simp))) (pl.critsIn_solid (d :: r) (by simp) (fun x hx => h x (by simp [hx])))
theorem pl.crit_len (c : Crit) (h : FitC c) : (pl.critTx c).length ≤ 4294967300 := by
  obtain ⟨h1, h2⟩ := h
  unfold pl.critTx
  rw [List.length_append, List.length_append, List.length_cons]
  split <;> simp <;> omega
theorem pl.critsIn_len : ∀ (cs : List Crit), (∀ c ∈ cs, FitC c) → (pl.critsIn cs).length ≤ cs.length * 4294967301
  | [], _ => by simp [pl.critsIn]
  | [c], h => by
    have e : pl.critsIn [c] = pl.critTx c := by simp [pl.critsIn]
    rw [e]
    have := pl.crit_len c (h c (by simp))
    simp; omega
  | c :: d :: r, h => by
    rw [pl.critsIn_two, List.length_append, List.length_cons]
    have h1 := pl.crit_len c (h c (by simp))
    have h2 := pl.critsIn_len (d :: r) (fun x hx => h x (by simp [hx]))
    simp only [List.length_cons] at h2 ⊢
    omega
theorem pl.idx_none (l : List UInt8) (c : UInt8) (h : c ∉ l) : pl.idx l c.toNat = -1 := pl.idx_miss l c.toNat (fun x hx => by
  unfold pl.isB
  rw [beq_eq_false_iff_ne]
  intro e
  have h2 : x = c := UInt8.toNat_inj.1 (by omega)
  exact h (h2 ▸ hx))

def clV (gc : Nat) : Value := .func (.func 58) #[] #[.pointer (some ⟨gc, 0, none⟩)]

set_option maxHeartbeats 4000000 in
theorem ff_sp (gc : Nat) (cs : List Crit) (v : Value) (w : World) (hne : cs ≠ []) (h8 : cs.length ≤ 8) (hok : ∀ c ∈ cs, pl.critOk c = true) (hfit : ∀ c ∈ cs, FitC c) (hB : Blk w gc #[v] 106) (hC : Crs w (gc + 1) 110 v []) :
    Calls Try.prog 57 #[.string ⟨(pl.critsIn cs).toArray⟩, clV gc] w (ClRes gc (cs.map pl.lowC) w) := by
  have hl0 := pl.critsIn_len cs hfit
  have htr0 := fun W => trim_any ⟨(pl.critsIn cs).toArray⟩ W (by show (pl.critsIn cs).length ≤ _; omega)
  have hso0 := pl.trim_solid _ (pl.critsIn_solid cs hne hok)
  have htr1 : ∀ W, Calls Try.prog 51 #[.string ⟨(pl.critsIn cs).toArray⟩] W fun e w' => e = .returned (.string ⟨(pl.critsIn cs).toArray⟩) ∧ W = w' := fun W => by
    have := htr0 W
    rw [show pl.trimS (⟨(pl.critsIn cs).toArray⟩ : ByteArray).data.toList = pl.critsIn cs from hso0] at this
    exact this
  have hpos := List.length_pos_iff.2 hne
  have HTR := Lib.hid htr1
  have HOK := Lib.hid hok
  have HFIT := Lib.hid hfit
  have HB := Lib.hid hB
  have HC := Lib.hid hC
  clear htr0 htr1 hso0 hok hfit hB hC hne hl0
  unfold clV
  go_enter Try.func57, Try.ntmps57
  go_wp2_with (go_at_call 51; refine (HTR.out _).mono ?_; rintro e w1 ⟨rfl, rfl⟩)
  go_loopg [0] cs.length (fun g s wr => ∃ (k : Nat) (vk : Value), k < cs.length ∧ g = cs.length - k ∧ s = .string ⟨(pl.critsIn (cs.drop k)).toArray⟩ ∧ Hid (Blk wr gc #[vk] 106) ∧ Hid (Crs wr (gc + 1) 110 vk ((cs.take k).map pl.lowC)) ∧ Hid (Below gc w wr))
  case atStart => exact ⟨0, v, hpos, rfl, rfl, HB, HC, Lib.hid (Below.refl _ _)⟩
  case round =>
    obtain ⟨k, vk, hk, hg, rfl, HBk, HCk, HLk⟩ := hrel
    obtain ⟨c, hc⟩ : ∃ c, cs[k]? = some c := ⟨_, List.getElem?_eq_getElem hk⟩
    have hdr : cs.drop k = c :: cs.drop (k + 1) := by
      obtain ⟨h1, h2⟩ := List.getElem?_eq_some_iff.1 hc
      rw [List.drop_eq_getElem_cons h1, h2]
    have hcm := List.mem_of_getElem? hc
    have hcok := HOK.out c hcm
    have hcf := HFIT.out c hcm
    have hcl := cl_sp gc c ((cs.take k).map pl.lowC) vk wr hcok hcf HBk.out HCk.out (by rw [List.length_map]; have := List.length_take_le' k cs; omega)
    have hmap : (cs.take (k + 1)).map pl.lowC = (cs.take k).map pl.lowC ++ [pl.lowC c] := by rw [pl.take_at cs k c hc, List.map_append]; rfl
    have hcl32 := pl.crit_32 c hcok
    have hcso := pl.crit_solid c hcok
    have hcln := pl.crit_len c hcf
    rw [hdr]
    match hr : cs.drop (k + 1) with
    | [] =>
      have hke : k + 1 = cs.length := by
        have := congrArg List.length hr
        rw [List.length_drop] at this
        simp at this
        omega
      have hmap2 : cs.map pl.lowC = (cs.take k).map pl.lowC ++ [pl.lowC c] := by rw [← hmap, hke, List.take_length]
      obtain ⟨X, hX⟩ : ∃ X : ByteArray, (⟨(pl.critsIn [c]).toArray⟩ : ByteArray) = X := ⟨_, rfl⟩
      have hXc : (⟨(pl.critTx c).toArray⟩ : ByteArray) = X := by rw [← hX]; simp [pl.critsIn]
      have hXd : X.data.toList = pl.critTx c := by rw [← hXc]
      have hXs : X.size = (pl.critTx c).length := by rw [← hXc]; rfl
      have hX0 : 0 < X.size := by rw [hXs]; exact List.length_pos_iff.2 (pl.crit_ne c)
      have hX0i : (0 : Int) < (X.size : Int) := by omega
      have hix := fun W => idx_val' X 32 (-1) W (by rw [hXd]; exact pl.idx_none _ 32 hcl32) (by omega)
      rw [hX]
      rw [hXc, ← hmap2] at hcl
      have HIX := Lib.hid hix
      have HCL := Lib.hid hcl
      clear hr hdr hc hcm hcok hcf hmap hmap2 hcl32 hcso hcln hke hX hXc hXd hXs hix hcl hg
      go_wp2_with (first
        | (go_at_call 46; refine (HIX.out _).mono ?_; rintro e w2 ⟨rfl, rfl⟩)
        | (go_at_call 58; refine HCL.out.mono ?_; rintro e w3 ⟨rfl, v3, hb3, hc3, hl3⟩; have HB3 := Lib.hid hb3; have HC3 := Lib.hid hc3; have HL3 := Lib.hid (HLk.out.trans hl3); clear hb3 hc3 hl3))
      go_ret
      exact ⟨rfl, v3, HB3.out, HC3.out, HL3.out⟩
    | d :: r =>
      have hkl : k + 1 < cs.length := by
        have := congrArg List.length hr
        rw [List.length_drop] at this
        simp at this
        omega
      have hrok : ∀ x ∈ d :: r, pl.critOk x = true := fun x hx => HOK.out x (List.mem_of_mem_drop (by rw [hr]; exact hx))
      have hrfit : ∀ x ∈ d :: r, FitC x := fun x hx => HFIT.out x (List.mem_of_mem_drop (by rw [hr]; exact hx))
      have hrs := pl.critsIn_solid (d :: r) (by simp) hrok
      have hrl := pl.critsIn_len (d :: r) hrfit
      have hrn : (d :: r).length ≤ 8 := by rw [← hr, List.length_drop]; omega
      obtain ⟨X, hX⟩ : ∃ X : ByteArray, (⟨(pl.critsIn (c :: d :: r)).toArray⟩ : ByteArray) = X := ⟨_, rfl⟩
      have hXd : X.data.toList = pl.critTx c ++ 32 :: pl.critsIn (d :: r) := by rw [← hX, ← pl.critsIn_two]
      obtain ⟨m, hm⟩ : ∃ m : Nat, (pl.critTx c).length = m := ⟨_, rfl⟩
      have hXs : X.size = m + 1 + (pl.critsIn (d :: r)).length := by
        have h : X.data.toList.length = X.size := by simp
        rw [hXd, List.length_append, List.length_cons, hm] at h
        omega
      have hm0 : 0 < m := by rw [← hm]; exact List.length_pos_iff.2 (pl.crit_ne c)
      have hix := fun W => idx_val' X 32 m W (by rw [hXd, ← hm]; exact pl.idx_byte 32 _ _ hcl32) (by omega)
      have hXt : X.extract 0 m = ⟨(pl.critTx c).toArray⟩ := by rw [pl.ext_take, hXd, ← hm, List.take_left]
      have hXr : X.extract (m + 1) X.size = ⟨(pl.critsIn (d :: r)).toArray⟩ := by
        rw [pl.ext_drop, hXd, ← hm, ← List.drop_drop, List.drop_left]; rfl
      obtain ⟨CB, hCB⟩ : ∃ CB : ByteArray, (⟨(pl.critTx c).toArray⟩ : ByteArray) = CB := ⟨_, rfl⟩
      obtain ⟨RB, hRB⟩ : ∃ RB : ByteArray, (⟨(pl.critsIn (d :: r)).toArray⟩ : ByteArray) = RB := ⟨_, rfl⟩
      have hCBs : CB.size = m := by rw [← hCB]; exact hm
      have htc : ∀ W, Calls Try.prog 51 #[.string CB] W fun e w' => e = .returned (.string CB) ∧ W = w' := fun W => by
        have h := trim_any CB W (by omega)
        rw [show pl.trimS CB.data.toList = pl.critTx c by rw [← hCB]; exact pl.trim_solid _ hcso, hCB] at h
        exact h
      have htr : ∀ W, Calls Try.prog 51 #[.string RB] W fun e w' => e = .returned (.string RB) ∧ W = w' := fun W => by
        have h := trim_any RB W (by rw [← hRB]; show (pl.critsIn (d :: r)).length ≤ _; omega)
        rw [show pl.trimS RB.data.toList = pl.critsIn (d :: r) by rw [← hRB]; exact pl.trim_solid _ hrs, hRB] at h
        exact h
      rw [hX]
      rw [hCB] at hcl hXt
      rw [hRB] at hXr
      have hX0i : (0 : Int) < (X.size : Int) := by omega
      have hm0i : (0 : Int) ≤ (m : Int) := by omega
      have hmX : (m : Int) ≤ (X.size : Int) := by omega
      have hmX1 : (m : Int) + 1 ≤ (X.size : Int) := by omega
      have hne1 : ((m : Int) == -1) = false := by rw [beq_eq_false_iff_ne]; omega
      have hCB0 : (0 : Int) < (CB.size : Int) := by omega
      have hXb : X.size ≤ 40000000000 := by simp only [List.length_cons] at hrl hrn; omega
      have hrw : (⟨(pl.critsIn (cs.drop (k + 1))).toArray⟩ : ByteArray) = RB := by rw [hr]; exact hRB
      have HIX := Lib.hid hix
      have HCL := Lib.hid hcl
      have HTC := Lib.hid htc
      have HTRR := Lib.hid htr
      have HRW := Lib.hid hrw
      have HMAP := Lib.hid hmap
      have HG := Lib.hid hg
      clear hr hdr hc hcm hcok hcf hmap hcl32 hcso hcln hX hXd hXs hix hcl hm hrok hrfit hrs hrl hrn hCB hRB hCBs htc htr hrw hg
      go_wp2_with (first
        | (go_at_call 46; refine (HIX.out _).mono ?_; rintro e w2 ⟨rfl, rfl⟩)
        | (go_at_call 58; refine HCL.out.mono ?_; rintro e w3 ⟨rfl, v3, hb3, hc3, hl3⟩; have HB3 := Lib.hid hb3; rw [← HMAP.out] at hc3; have HC3 := Lib.hid hc3; have HL3 := Lib.hid (HLk.out.trans hl3); clear hb3 hc3 hl3)
        | (go_at_call 51; with_reducible refine (HTC.out _).mono ?_; rintro e w4 ⟨rfl, rfl⟩)
        | (go_at_call 51; with_reducible refine (HTRR.out _).mono ?_; rintro e w4 ⟨rfl, rfl⟩))
      go_roundg (cs.length - (k + 1))
      case measure => have := HG.out; omega
      case rel => exact ⟨k + 1, v3, by omega, rfl, by rw [HRW.out], HB3, HC3, HL3⟩

def PcRes (l : List Crit) (w : World) (e : Ending) (w' : World) : Prop :=
  ∃ v', e = .returned (.tuple #[v', .nilIface]) ∧ Crs w' w.heap.size 110 v' l ∧ Below w.heap.size w w'

set_option maxHeartbeats 1000000 in
theorem pc_sp (cs : List Crit) (w : World) (hne : cs ≠ []) (h8 : cs.length ≤ 8) (hok : ∀ c ∈ cs, pl.critOk c = true) (hfit : ∀ c ∈ cs, FitC c) :
    Calls Try.prog 53 #[.string ⟨(pl.critsIn cs).toArray⟩] w (PcRes (cs.map pl.lowC) w) := by
  obtain ⟨W1, hW1⟩ : ∃ W1, w.alloc (.cells #[.slice none 0 0] 106) = W1 := ⟨_, rfl⟩
  have hB : Blk W1 w.heap.size #[.slice none 0 0] 106 := by rw [← hW1]; exact Blk.new w _ _
  have hb : Below w.heap.size w W1 := by rw [← hW1]; exact (Below.refl _ _).alloc (Nat.le_refl _) _
  have hff := ff_sp w.heap.size cs (.slice none 0 0) W1 hne h8 hok hfit hB (Crs.nil _ _ _)
  unfold clV at hff
  have HFF := Lib.hid hff
  have HBL := Lib.hid hb
  have HB := Lib.hid hB
  clear hB hb hff hok hfit hne
  go_enter Try.func53, Try.ntmps53
  go_wp2_with (go_at_call 57; (try rw [hW1]); refine HFF.out.mono ?_; rintro e w3 ⟨rfl, v3, hb3, hc3, hl3⟩; have c3 : w3.cell? ⟨w.heap.size, 0, none⟩ = some v3 := hb3.cell 0; have HC3 := Lib.hid hc3; have HL3 := Lib.hid (HBL.out.trans hl3); clear hb3 hl3; obtain ⟨a3, k3, rfl⟩ := Row.shape hc3; clear hc3)
  refine bodyPost_ret (v := .tuple #[.slice a3 (cs.map pl.lowC).length k3, .nilIface]) (by simp [results, Try.results53, go_sem, c3]) rfl ?_
  exact ⟨_, rfl, HC3.out.mono (Nat.le_succ _), HL3.out⟩

end Go.Proofs.Ytabeklpllphiaaa
