/-
  PLAIN AND WALK: a file as a list of lines; the next line; the words of a line.
-/
import Derived.Test.YtfkohahlpfejbaaDoorNH1
namespace Go.Proofs.YtfkohahlpfejbaaDoor
open Go.RowKit

def pl.strip (l : List UInt8) : List UInt8 := if pl.idx l 35 < 0 then l else l.take (pl.idx l 35).toNat
def pl.ltext (ls : List (List UInt8)) : List UInt8 := ls.flatMap (fun l => l ++ [10])
/-- what the next line is: its bytes, whether there is one, the lines behind it -/
def pl.lnx : List (List UInt8) → List UInt8 × Bool × List (List UInt8)
  | [] => ([], false, [])
  | l :: r => (l, true, r)
theorem pl.ltext_cons (l : List UInt8) (r : List (List UInt8)) : pl.ltext (l :: r) = l ++ 10 :: pl.ltext r := by simp [pl.ltext]
theorem pl.ltext_drop (ls : List (List UInt8)) (j : Nat) : (pl.ltext (ls.drop j)).length ≤ (pl.ltext ls).length := by
  have e : (pl.ltext ls).length = (pl.ltext (ls.take j)).length + (pl.ltext (ls.drop j)).length := by
    conv => lhs; rw [← List.take_append_drop j ls]
    unfold pl.ltext
    rw [List.flatMap_append, List.length_append]
  omega
theorem pl.lnx_drop (ls : List (List UInt8)) (j : Nat) (l : List UInt8) (h : ls[j]? = some l) : pl.lnx (ls.drop j) = (l, true, ls.drop (j + 1)) := by
  obtain ⟨h1, h2⟩ := List.getElem?_eq_some_iff.1 h
  rw [List.drop_eq_getElem_cons h1, h2]
  rfl
theorem pl.lnx_end (ls : List (List UInt8)) (j : Nat) (h : ls.length ≤ j) : pl.lnx (ls.drop j) = ([], false, []) := by
  rw [List.drop_eq_nil_of_le h]
  rfl

theorem pl.idx_byte (c : UInt8) (a b : List UInt8) (h : c ∉ a) : pl.idx (a ++ c :: b) c.toNat = (a.length : Int) := by
  have hx : ∀ x ∈ a, pl.isB c.toNat x = false := fun x hx => by
    unfold pl.isB
    have hne : x ≠ c := fun e => h (e ▸ hx)
    have hn : x.toNat ≠ c.toNat := fun e => hne (UInt8.toNat_inj.1 e)
    simpa using (by omega : ¬ ((x.toNat : Int) = (c.toNat : Int)))
  have hf : (a ++ c :: b).findIdx? (pl.isB c.toNat) = some a.length := by
    rw [List.findIdx?_eq_some_iff_getElem]
    refine ⟨by simp, ?_, fun j hj => ?_⟩
    · rw [List.getElem_append_right (Nat.le_refl _)]
      simp [pl.isB]
    · rw [List.getElem_append_left hj, hx _ (List.getElem_mem hj)]
      simp
  unfold pl.idx
  rw [hf]
theorem pl.line_split (a b : List UInt8) (h : (10 : UInt8) ∉ a) : (a ++ 10 :: b).take (pl.lineK (a ++ 10 :: b)) = a ∧ (a ++ 10 :: b).drop (pl.lineK (a ++ 10 :: b) + 1) = b := by
  have hk : pl.lineK (a ++ 10 :: b) = a.length := by
    unfold pl.lineK
    rw [show pl.idx (a ++ 10 :: b) 10 = (a.length : Int) from pl.idx_byte 10 a b h, if_neg (by omega)]
    simp
  rw [hk]
  refine ⟨List.take_left, ?_⟩
  rw [← List.drop_drop, List.drop_left]; rfl

/-- nothing but block g has changed -/
def KeepG (g : Nat) (w w' : World) : Prop := ∀ b, b ≠ g → w'.heap[b]? = w.heap[b]?

theorem ln_next (g : Nat) (ls : List (List UInt8)) (ty : TypeId) (w : World) (hf : Blk w g #[.string ⟨(pl.ltext ls).toArray⟩] ty) (hnl : ∀ l ∈ ls, (10 : UInt8) ∉ l) (hs : (pl.ltext ls).length ≤ 17592186044416) :
    Calls Tryd.prog 83 #[.pointer (some ⟨g, 0, none⟩)] w fun e w' =>
      e = .returned (.tuple #[.string ⟨(pl.lnx ls).1.toArray⟩, .bool (pl.lnx ls).2.1]) ∧ Hid (Blk w' g #[.string ⟨(pl.ltext (pl.lnx ls).2.2).toArray⟩] ty) ∧
      Hid (KeepG g w w') ∧ Hid (∀ B w1, Below B w1 w → B ≤ g → Below B w1 w') := by
  have hc : w.cell? ⟨g, 0, none⟩ = some (.string ⟨(pl.ltext ls).toArray⟩) := hf.cell 0
  match ls, hf, hnl, hs, hc with
  | [], hf, _, _, hc =>
    refine (rl_empty g ⟨(pl.ltext []).toArray⟩ w rfl hc).mono ?_
    rintro e w' ⟨rfl, rfl⟩
    exact ⟨rfl, Lib.hid hf, Lib.hid fun _ _ => rfl, Lib.hid fun _ _ h _ => h⟩
  | l :: r, hf, hnl, hs, hc =>
    have hpos : 0 < (⟨(pl.ltext (l :: r)).toArray⟩ : ByteArray).size := by
      show 0 < (pl.ltext (l :: r)).length
      rw [pl.ltext_cons]; simp; omega
    obtain ⟨h1, h2⟩ := pl.line_split l (pl.ltext r) (hnl l (by simp))
    rw [← pl.ltext_cons] at h1 h2
    refine (rl_any g ⟨(pl.ltext (l :: r)).toArray⟩ w hpos hs hc (hf.frozen 0)).mono ?_
    rintro e w' ⟨rfl, n, rfl⟩
    refine ⟨?_, Lib.hid ?_, Lib.hid fun b hb => ?_, Lib.hid fun B w1 h hB => ?_⟩
    · show Ending.returned (.tuple #[.string ⟨((pl.ltext (l :: r)).take (pl.lineK (pl.ltext (l :: r)))).toArray⟩, .bool true]) = _
      rw [h1]; rfl
    · have h3 := (hf.set 0 (.string ⟨((pl.ltext (l :: r)).drop (pl.lineK (pl.ltext (l :: r)) + 1)).toArray⟩)).drewN n
      rw [h2] at h3
      show Blk ((w.setCell ⟨g, 0, none⟩ (.string ⟨((pl.ltext (l :: r)).drop (pl.lineK (pl.ltext (l :: r)) + 1)).toArray⟩)).drewN n) _ _ _
      rw [h2]
      exact h3
    · exact setCell_far w g 0 b _ (fun e => hb e.symm)
    · exact below_drewN (h.setCell hB _) n

theorem KeepG.strs {w w' : World} {g B : Nat} {v : Value} {l : List (List UInt8)} (h : KeepG g w w') (hs : Strs w B v l) (hB : g < B) : Strs w' B v l :=
  ⟨hs.1, hs.2.imp id (fun ⟨g', cap, cur, h1, h2, h3, h4⟩ => ⟨g', cap, cur, h1, h2, (h g' (by omega)).trans h3, h4⟩)⟩

/-! ### words -/
def pl.foldW (st : List (List UInt8) × List UInt8) (l : List UInt8) : List (List UInt8) × List UInt8 := l.foldl (pl.stepW pl.ws) st
theorem pl.foldW_app (st : List (List UInt8) × List UInt8) (a b : List UInt8) : pl.foldW st (a ++ b) = pl.foldW (pl.foldW st a) b := by simp [pl.foldW]
theorem pl.foldW_tok (t : List UInt8) : ∀ (W : List (List UInt8)) (c : List UInt8), (∀ b ∈ t, pl.ws b = false) → pl.foldW (W, c) t = (W, c ++ t) := by
  induction t with
  | nil => intro W c _; simp [pl.foldW]
  | cons b t ih =>
    intro W c h
    have h1 : pl.stepW pl.ws (W, c) b = (W, c ++ [b]) := by unfold pl.stepW; rw [if_neg (by rw [h b (by simp)]; simp)]
    show pl.foldW (pl.stepW pl.ws (W, c) b) t = _
    rw [h1, ih W (c ++ [b]) (fun x hx => h x (by simp [hx]))]
    simp
theorem pl.foldW_sep (s : List UInt8) : ∀ (W : List (List UInt8)), (∀ b ∈ s, pl.ws b = true) → pl.foldW (W, []) s = (W, []) := by
  induction s with
  | nil => intro W _; rfl
  | cons b s ih =>
    intro W h
    have h1 : pl.stepW pl.ws (W, []) b = (W, []) := by unfold pl.stepW; rw [if_pos (h b (by simp)), if_pos rfl]
    show pl.foldW (pl.stepW pl.ws (W, []) b) s = _
    rw [h1]; exact ih W (fun x hx => h x (by simp [hx]))
theorem pl.foldW_gap (b : UInt8) (s : List UInt8) (W : List (List UInt8)) (c : List UInt8) (hc : c ≠ []) (h : ∀ x ∈ b :: s, pl.ws x = true) : pl.foldW (W, c) (b :: s) = (W ++ [c], []) := by
  have h1 : pl.stepW pl.ws (W, c) b = (W ++ [c], []) := by unfold pl.stepW; rw [if_pos (h b (by simp)), if_neg hc]
  show pl.foldW (pl.stepW pl.ws (W, c) b) s = _
  rw [h1]; exact pl.foldW_sep s _ (fun x hx => h x (by simp [hx]))
/-- words, each ahead of a blank -/
theorem pl.foldW_words (z : UInt8) (hz : pl.ws z = true) : ∀ (ns : List (List UInt8)) (W : List (List UInt8)) (c : List UInt8), c ≠ [] → (∀ n ∈ ns, n ≠ [] ∧ ∀ b ∈ n, pl.ws b = false) → pl.foldW (W, c) (ns.flatMap (fun n => [32] ++ n) ++ [z]) = (W ++ c :: ns, [])
  | [], W, c, hc, _ => by
    show pl.foldW (W, c) [z] = _
    rw [pl.foldW_gap z [] W c hc (by intro x hx; simp at hx; rw [hx]; exact hz)]
  | n :: ns, W, c, hc, h => by
    have he : (n :: ns).flatMap (fun n => [32] ++ n) ++ [z] = [32] ++ (n ++ (ns.flatMap (fun n => [32] ++ n) ++ [z])) := by simp
    rw [he, pl.foldW_app, pl.foldW_gap 32 [] W c hc (by decide), pl.foldW_app, pl.foldW_tok n _ _ (h n (by simp)).2, List.nil_append, pl.foldW_words z hz ns _ n (h n (by simp)).1 (fun x hx => h x (by simp [hx]))]
    simp

/-- a byte of a plain name -/
def pl.okB (b : UInt8) : Prop := (48 ≤ b.toNat ∧ b.toNat ≤ 57) ∨ (65 ≤ b.toNat ∧ b.toNat ≤ 90) ∨ (97 ≤ b.toNat ∧ b.toNat ≤ 122) ∨ b.toNat = 45 ∨ b.toNat = 46
theorem pl.lowB_id (b : UInt8) (h : ¬ (65 ≤ b.toNat ∧ b.toNat ≤ 90)) : pl.lowB b = b := by unfold pl.lowB; rw [if_neg h]
theorem pl.plB_ok (n k : Nat) (b : UInt8) (h : pl.plB n k (pl.lowB b) = true) : pl.okB b := by
  unfold pl.okB
  by_cases hu : 65 ≤ b.toNat ∧ b.toNat ≤ 90
  · exact .inr (.inl hu)
  · rw [pl.lowB_id b hu] at h
    unfold pl.plB pl.alnB at h
    simp only [Bool.or_eq_true, Bool.and_eq_true, decide_eq_true_eq] at h
    omega
theorem pl.plain_ok (l : List UInt8) (h : pl.plain l = true) : l ≠ [] ∧ ∀ b ∈ l, pl.okB b := by
  unfold pl.plain at h
  rw [Bool.and_eq_true, decide_eq_true_eq, List.all_eq_true] at h
  refine ⟨h.1, fun b hb => ?_⟩
  obtain ⟨k, hk, rfl⟩ := List.mem_iff_getElem.1 hb
  have := h.2 k (List.mem_range.2 hk)
  rw [List.getD_eq_getElem?_getD, List.getElem?_eq_getElem hk] at this
  exact pl.plB_ok _ _ _ this
theorem pl.ok_ws (b : UInt8) (h : pl.okB b) : pl.ws b = false := by
  unfold pl.okB at h
  unfold pl.ws
  have h1 : b ≠ 32 := fun e => by subst e; revert h; decide
  have h2 : b ≠ 13 := fun e => by subst e; revert h; decide
  have h3 : b ≠ 9 := fun e => by subst e; revert h; decide
  have h4 : b ≠ 10 := fun e => by subst e; revert h; decide
  simp [h1, h2, h3, h4]
theorem pl.ok_not (b : UInt8) (h : pl.okB b) : b ≠ 10 ∧ b ≠ 35 ∧ b ≠ 47 := by
  unfold pl.okB at h
  exact ⟨fun e => by subst e; revert h; decide, fun e => by subst e; revert h; decide, fun e => by subst e; revert h; decide⟩

end Go.Proofs.YtfkohahlpfejbaaDoor
