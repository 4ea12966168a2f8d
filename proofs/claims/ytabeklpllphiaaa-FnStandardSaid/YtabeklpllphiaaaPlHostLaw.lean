/-
  PLAIN: the laws of zones, hosts and ports.
-/
import Derived.Test.YtabeklpllphiaaaPlHost
namespace Go.Proofs.Ytabeklpllphiaaa.pl

theorem ne_empty (s : ByteArray) (h : s.size ≠ 0) : s.toList.isEmpty = false := by
  rw [Lib.toList_data]
  have hl : s.data.toList.length = s.size := by simp
  cases hc : s.data.toList with
  | nil => rw [hc] at hl; simp at hl; omega
  | cons a b => rfl
theorem data_ne (s : ByteArray) (h : s.size ≠ 0) : s.data.toList ≠ [] := by
  have hl : s.data.toList.length = s.size := by simp
  intro e
  rw [e] at hl
  simp at hl
  omega

theorem nil_of (s : ByteArray) (h : s.size = 0) : s.data.toList = [] := by
  have hl : s.data.toList.length = s.size := by simp
  exact List.eq_nil_of_length_eq_zero (by omega)
theorem emp_of (s : ByteArray) (h : s.size = 0) : s.toList.isEmpty = true := by
  rw [Lib.toList_data, nil_of s h]; rfl

theorem zone_law (a b : List UInt8) (ha : a ≠ []) (hb : (37 : UInt8) ∉ b) : splitHZ (a ++ [37] ++ b) = (a, b) := by
  have h : lidx (a ++ [37] ++ b) 37 = a.length := by
    rw [List.append_assoc]
    refine lidx_app a b 37 37 (by decide) ?_
    intro y hy
    unfold isB
    rw [beq_eq_false_iff_ne]
    intro e
    apply hb
    have : y = 37 := UInt8.toNat_inj.1 (by have : (37 : UInt8).toNat = 37 := rfl
                                           omega)
    rw [← this]; exact hy
  have hl := List.length_pos_iff.2 ha
  unfold splitHZ
  rw [h, if_pos (by omega)]
  have e1 : ((a.length : Int) + 1).toNat = (a ++ [37]).length := by simp
  rw [e1, List.drop_left]
  simp

/-- before and behind the first place of a byte -/
def cutS (l : List UInt8) (c : Int) : List UInt8 × List UInt8 × Bool := if idx l c < 0 then (l, [], false) else (l.take (idx l c).toNat, l.drop (idx l c + 1).toNat, true)

theorem cutS_hit (s : ByteArray) (c : Int) (k : Nat) (h : k < s.size) (hn : ∀ x ∈ s.data.toList.take k, isB c x = false) (hk : ((s[k].toNat : Int) == c) = true) :
    cutS s.data.toList c = (s.data.toList.take k, s.data.toList.drop (k + 1), true) := by
  rw [cutS, idx_hit s c k h hn hk, if_neg (by omega)]
  rfl
theorem cutS_miss (l : List UInt8) (c : Int) (hn : ∀ x ∈ l, isB c x = false) : cutS l c = (l, [], false) := by
  rw [cutS, idx_miss l c hn, if_pos (by omega)]

theorem cutS_size (l : List UInt8) (c : Int) : (cutS l c).1.length ≤ l.length ∧ (cutS l c).2.1.length ≤ l.length := by
  unfold cutS
  split
  · simp
  · simp; omega

theorem joined_len (h p : List UInt8) : (joined h p).length ≤ h.length + p.length + 3 := by
  unfold joined
  split <;> simp <;> omega

/-- the reference's host and port -/
def hostPort (l : List UInt8) : List UInt8 × List UInt8 × Bool :=
  if l.head? = some 91 then
    if (cutS (l.drop 1) 93).2.2 = false then ([], [], false)
    else if (cutS (l.drop 1) 93).2.1 = [] then ([], [], false)
    else if (cutS (l.drop 1) 93).2.1.head? ≠ some 58 then ([], [], false)
    else if has (cutS (l.drop 1) 93).1 [91] = true then ([], [], false)
    else if has ((cutS (l.drop 1) 93).2.1.drop 1) [58, 91, 93] = true then ([], [], false)
    else ((cutS (l.drop 1) 93).1, (cutS (l.drop 1) 93).2.1.drop 1, true)
  else ((cutS l 58).1, (cutS l 58).2.1, (cutS l 58).2.2 && !has (cutS l 58).1 [91, 93] && !has (cutS l 58).2.1 [58, 91, 93])

theorem cutS_no (l : List UInt8) (c : UInt8) (k : Int) (hk : (c.toNat : Int) = k) (h : c ∉ l) : cutS l k = (l, [], false) := by
  subst hk
  rw [cutS, if_pos ((idx_neg l c).2 h)]
theorem cutS_yes (a b : List UInt8) (c : UInt8) (k : Int) (hk : (c.toNat : Int) = k) (h : c ∉ a) : cutS (a ++ c :: b) k = (a, b, true) := by
  subst hk
  rw [cutS, idx_app a b c h, if_neg (by omega)]
  have e1 : ((a.length : Int) + 1).toNat = (a ++ [c]).length := by simp
  have e2 : a ++ c :: b = a ++ [c] ++ b := by simp
  rw [e1]
  conv => lhs; rw [e2]
  rw [List.drop_left, List.append_assoc]
  simp

theorem has2 (l : List UInt8) (a b : UInt8) : has l [a, b] = true ↔ a ∈ l ∨ b ∈ l := by
  rw [has, List.any_eq_true]
  constructor
  · rintro ⟨x, hx, h⟩
    simp at h
    rcases h with rfl | rfl
    · exact Or.inl hx
    · exact Or.inr hx
  · rintro (h | h)
    · exact ⟨_, h, by simp⟩
    · exact ⟨_, h, by simp⟩
theorem has3 (l : List UInt8) (a b c : UInt8) : has l [a, b, c] = true ↔ a ∈ l ∨ b ∈ l ∨ c ∈ l := by
  rw [has, List.any_eq_true]
  constructor
  · rintro ⟨x, hx, h⟩
    simp at h
    rcases h with rfl | rfl | rfl
    · exact Or.inl hx
    · exact Or.inr (Or.inl hx)
    · exact Or.inr (Or.inr hx)
  · rintro (h | h | h)
    · exact ⟨_, h, by simp⟩
    · exact ⟨_, h, by simp⟩
    · exact ⟨_, h, by simp⟩

theorem idxN (l : List UInt8) (c : UInt8) (k : Int) (hk : (c.toNat : Int) = k) : idx l k < 0 ↔ c ∉ l := by subst hk; exact idx_neg l c
theorem idxG (l : List UInt8) (c : UInt8) (k : Int) (hk : (c.toNat : Int) = k) : 0 ≤ idx l k ↔ c ∈ l := by subst hk; exact idx_ge l c
theorem lidxN (l : List UInt8) (c : UInt8) (k : Int) (hk : (c.toNat : Int) = k) : lidx l k < 0 ↔ c ∉ l := by subst hk; exact lidx_neg l c
theorem lidxG (l : List UInt8) (c : UInt8) (h : c ∈ l) : 0 ≤ lidx l c.toNat := by
  rcases Int.lt_or_le (lidx l c.toNat) 0 with h1 | h1
  · exact absurd h ((lidx_neg l c).1 h1)
  · exact h1
theorem lidxA (a b : List UInt8) (c : UInt8) (k : Int) (hk : (c.toNat : Int) = k) (h : c ∉ b) : lidx (a ++ c :: b) k = a.length := by
  subst hk
  refine lidx_app a b c _ (by simp [isB]) ?_
  intro y hy
  unfold isB
  rw [beq_eq_false_iff_ne]
  intro e
  apply h
  rw [← (UInt8.toNat_inj.1 (by omega) : y = c)]
  exact hy
theorem idxA (a b : List UInt8) (c : UInt8) (k : Int) (hk : (c.toNat : Int) = k) (h : c ∉ a) : idx (a ++ c :: b) k = a.length := by subst hk; exact idx_app a b c h

/-- a text without an opening bracket ahead -/
theorem plain_law (l : List UInt8) (h : l.head? ≠ some 91) : (splitHP l = none ∧ (hostPort l).2.2 = false) ∨ ∃ x, splitHP l = some x ∧ hostPort l = (x.1, x.2, true) := by
  by_cases h1 : (58 : UInt8) ∈ l
  · obtain ⟨a, b, rfl, ha, _⟩ := idx_parts l 58 ((idx_ge l 58).2 h1)
    have hc := cutS_yes a b 58 58 rfl ha
    have hl : ¬ lidx (a ++ 58 :: b) 58 < 0 := by rw [lidxN _ 58 58 rfl]; simp
    have hh : hostPort (a ++ 58 :: b) = (a, b, true && !has a [91, 93] && !has b [58, 91, 93]) := by
      unfold hostPort; rw [if_neg h, hc]
    by_cases h2 : (58 : UInt8) ∈ b
    · left
      refine ⟨?_, ?_⟩
      · unfold splitHP
        rw [if_neg hl, if_neg h, if_pos]
        rw [idxG _ 58 58 rfl]
        obtain ⟨c, d, rfl, hd, _⟩ := lidx_parts b 58 (lidxG b 58 h2)
        have e : a ++ 58 :: (c ++ 58 :: d) = (a ++ 58 :: c) ++ 58 :: d := by simp
        rw [e, lidxA _ d 58 58 rfl hd, Int.toNat_natCast, List.take_left]
        simp
      · rw [hh]
        have : has b [58, 91, 93] = true := (has3 b 58 91 93).2 (Or.inl h2)
        rw [this]; simp
    · have hli := lidxA a b 58 58 rfl h2
      by_cases h3 : (91 : UInt8) ∈ a ++ 58 :: b
      · left
        refine ⟨?_, ?_⟩
        · unfold splitHP
          rw [if_neg hl, if_neg h, hli, if_neg (by rw [idxG _ 58 58 rfl]; simpa using ha), if_pos ((idxG _ 91 91 rfl).2 h3)]
        · rw [hh]
          rcases List.mem_append.1 h3 with h3 | h3
          · rw [(has2 a 91 93).2 (Or.inl h3)]; simp
          · rw [(has3 b 58 91 93).2 (Or.inr (Or.inl (by simpa using h3)))]; simp
      by_cases h4 : (93 : UInt8) ∈ a ++ 58 :: b
      · left
        refine ⟨?_, ?_⟩
        · unfold splitHP
          rw [if_neg hl, if_neg h, hli, if_neg (by rw [idxG _ 58 58 rfl]; simpa using ha), if_neg (by rw [idxG _ 91 91 rfl]; exact h3), if_pos ((idxG _ 93 93 rfl).2 h4)]
        · rw [hh]
          rcases List.mem_append.1 h4 with h4 | h4
          · rw [(has2 a 91 93).2 (Or.inr h4)]; simp
          · rw [(has3 b 58 91 93).2 (Or.inr (Or.inr (by simpa using h4)))]; simp
      · right
        refine ⟨(a, b), ?_, ?_⟩
        · unfold splitHP
          rw [if_neg hl, if_neg h, hli, if_neg (by rw [idxG _ 58 58 rfl]; simpa using ha), if_neg (by rw [idxG _ 91 91 rfl]; exact h3), if_neg (by rw [idxG _ 93 93 rfl]; exact h4)]
          have e1 : ((a.length : Int) + 1).toNat = (a ++ [58]).length := by simp
          have e2 : a ++ (58 : UInt8) :: b = a ++ [58] ++ b := by simp
          rw [e1]
          conv => lhs; rw [e2]
          rw [List.drop_left, List.append_assoc]
          simp
        · rw [hh]
          have n1 : has a [91, 93] = false := by
            rw [Bool.eq_false_iff]; intro e
            rcases (has2 a 91 93).1 e with e | e
            · exact h3 (List.mem_append_left _ e)
            · exact h4 (List.mem_append_left _ e)
          have n2 : has b [58, 91, 93] = false := by
            rw [Bool.eq_false_iff]; intro e
            rcases (has3 b 58 91 93).1 e with e | e | e
            · exact h2 e
            · exact h3 (List.mem_append_right _ (List.mem_cons_of_mem _ e))
            · exact h4 (List.mem_append_right _ (List.mem_cons_of_mem _ e))
          rw [n1, n2]; rfl
  · left
    refine ⟨?_, ?_⟩
    · unfold splitHP
      rw [if_pos ((lidxN l 58 58 rfl).2 h1)]
    · unfold hostPort
      rw [if_neg h, cutS_no l 58 58 rfl h1]; rfl

/-- a text with an opening bracket ahead -/
theorem brack_law (m : List UInt8) : (splitHP (91 :: m) = none ∧ (hostPort (91 :: m)).2.2 = false) ∨ ∃ x, splitHP (91 :: m) = some x ∧ hostPort (91 :: m) = (x.1, x.2, true) := by
  have hh : (91 :: m).head? = some (91 : UInt8) := rfl
  have hdr : (91 :: m).drop 1 = m := rfl
  by_cases hl : lidx (91 :: m) 58 < 0
  · left
    refine ⟨by unfold splitHP; rw [if_pos hl], ?_⟩
    have hn := (lidxN _ 58 58 rfl).1 hl
    unfold hostPort
    rw [if_pos hh, hdr]
    by_cases h1 : (93 : UInt8) ∈ m
    · obtain ⟨a, b, rfl, ha, _⟩ := idx_parts m 93 ((idx_ge m 93).2 h1)
      rw [cutS_yes a b 93 93 rfl ha]
      have hb : b.head? ≠ some 58 := by
        intro e
        apply hn
        have := List.mem_of_head? e
        simp [this]
      by_cases hb0 : b = []
      · simp [hb0]
      · simp [hb0, hb]
    · rw [cutS_no m 93 93 rfl h1]; simp
  · by_cases h1 : (93 : UInt8) ∈ m
    · obtain ⟨a, b, rfl, ha, _⟩ := idx_parts m 93 ((idx_ge m 93).2 h1)
      have hq : idx (91 :: (a ++ 93 :: b)) 93 = (a.length : Int) + 1 := by
        have := idxA (91 :: a) b 93 93 rfl (by simp [ha])
        simpa using this
      have hc := cutS_yes a b 93 93 rfl ha
      have e1 : ((a.length : Int) + 1 + 1).toNat = (91 :: (a ++ [93])).length := by simp; omega
      have e2 : (91 : UInt8) :: (a ++ 93 :: b) = 91 :: (a ++ [93]) ++ b := by simp
      have hd : (91 :: (a ++ 93 :: b)).drop ((a.length : Int) + 1 + 1).toNat = b := by
        rw [e1]
        conv => lhs; rw [e2]
        rw [List.drop_left]
      rcases b with _ | ⟨r, b⟩
      · left
        refine ⟨?_, ?_⟩
        · unfold splitHP
          rw [if_neg hl, if_pos hh, hq, if_neg (by omega), if_pos (by simp)]
        · unfold hostPort
          rw [if_pos hh, hdr, hc]; simp
      · by_cases hr : r = 58
        · subst hr
          have hsp : splitHP (91 :: (a ++ 93 :: 58 :: b)) = if (a.length : Int) + 1 + 1 ≠ lidx (91 :: (a ++ 93 :: 58 :: b)) 58 then none else if 0 ≤ idx (a ++ 93 :: 58 :: b) 91 then none else if 0 ≤ idx (58 :: b) 93 then none else some (((91 :: (a ++ 93 :: 58 :: b)).take ((a.length : Int) + 1).toNat).drop 1, (91 :: (a ++ 93 :: 58 :: b)).drop (lidx (91 :: (a ++ 93 :: 58 :: b)) 58 + 1).toNat) := by
            unfold splitHP
            rw [if_neg hl, if_pos hh, hq, if_neg (by omega), if_neg (by simp; omega), hd]
            rfl
          have hho : hostPort (91 :: (a ++ 93 :: 58 :: b)) = if has a [91] = true then ([], [], false) else if has b [58, 91, 93] = true then ([], [], false) else (a, b, true) := by
            unfold hostPort
            rw [if_pos hh, hdr, hc]
            rfl
          have hin : (91 : UInt8) ∈ a ++ 93 :: 58 :: b ↔ 91 ∈ a ∨ 91 ∈ b := by simp
          by_cases g1 : (91 : UInt8) ∈ a
          · left
            refine ⟨?_, by rw [hho, if_pos ((has_one a 91).2 g1)]⟩
            rw [hsp]
            split
            · rfl
            · rw [if_pos ((idxG _ 91 91 rfl).2 (hin.2 (Or.inl g1)))]
          by_cases g2 : has b [58, 91, 93] = true
          · left
            refine ⟨?_, by rw [hho]; split <;> first | rfl | (rw [if_pos g2])⟩
            rw [hsp]
            split
            · rfl
            rename_i g3
            split
            · rfl
            rename_i g4
            rw [if_pos]
            rw [idxG _ 93 93 rfl]
            rcases (has3 b 58 91 93).1 g2 with g5 | g5 | g5
            · exfalso
              obtain ⟨c, d, rfl, hd2, _⟩ := lidx_parts b 58 (lidxG b 58 g5)
              have e : (91 : UInt8) :: (a ++ 93 :: 58 :: (c ++ 58 :: d)) = (91 :: (a ++ 93 :: 58 :: c)) ++ 58 :: d := by simp
              rw [e, lidxA _ d 58 58 rfl hd2] at g3
              simp at g3
              omega
            · exact absurd ((idxG _ 91 91 rfl).2 (hin.2 (Or.inr g5))) g4
            · exact List.mem_cons_of_mem _ g5
          · right
            have n58 : (58 : UInt8) ∉ b := fun e => g2 ((has3 b 58 91 93).2 (Or.inl e))
            have n91 : (91 : UInt8) ∉ b := fun e => g2 ((has3 b 58 91 93).2 (Or.inr (Or.inl e)))
            have n93 : (93 : UInt8) ∉ b := fun e => g2 ((has3 b 58 91 93).2 (Or.inr (Or.inr e)))
            have hli : lidx (91 :: (a ++ 93 :: 58 :: b)) 58 = (a.length : Int) + 1 + 1 := by
              have := lidxA (91 :: (a ++ [93])) b 58 58 rfl n58
              simpa using this
            refine ⟨(a, b), ?_, ?_⟩
            · rw [hsp, hli, if_neg (by simp), if_neg (by rw [idxG _ 91 91 rfl, hin]; rintro (e | e); exact g1 e; exact n91 e), if_neg (by rw [idxG _ 93 93 rfl]; simpa using n93)]
              have e3 : ((a.length : Int) + 1).toNat = a.length + 1 := by omega
              have e4 : ((a.length : Int) + 1 + 1 + 1).toNat = (91 :: (a ++ [93, 58])).length := by simp; omega
              have e5 : (91 : UInt8) :: (a ++ 93 :: 58 :: b) = 91 :: (a ++ [93, 58]) ++ b := by simp
              rw [e3, e4]
              congr 2
              · simp
              · conv => lhs; rw [e5]
                rw [List.drop_left]
            · rw [hho, if_neg (fun e => g1 ((has_one a 91).1 e)), if_neg g2]
        · left
          refine ⟨?_, ?_⟩
          · unfold splitHP
            rw [if_neg hl, if_pos hh, hq, if_neg (by omega), if_neg (by simp; omega), if_pos]
            intro e
            obtain ⟨c, d, hcd, _, hlc⟩ := lidx_parts (91 :: (a ++ 93 :: r :: b)) 58 (by have e : ((58 : UInt8).toNat : Int) = 58 := rfl; rw [e]; omega)
            have e6 : ((58 : UInt8).toNat : Int) = 58 := rfl
            rw [e6] at hlc
            have hlen : c.length = a.length + 2 := by omega
            have h3 : (91 :: (a ++ 93 :: r :: b))[a.length + 2]? = some r := by simp
            rw [hcd, ← hlen] at h3
            simp at h3
            exact hr h3.symm
          · unfold hostPort
            rw [if_pos hh, hdr, hc]
            simp [hr]
    · left
      refine ⟨?_, ?_⟩
      · unfold splitHP
        rw [if_neg hl, if_pos hh, if_pos ((idxN _ 93 93 rfl).2 (by simp [h1]))]
      · unfold hostPort
        rw [if_pos hh, hdr, cutS_no m 93 93 rfl h1]; rfl

theorem split_law (l : List UInt8) : (splitHP l = none ∧ (hostPort l).2.2 = false) ∨ ∃ x, splitHP l = some x ∧ hostPort l = (x.1, x.2, true) := by
  by_cases h : l.head? = some 91
  · cases l with
    | nil => simp at h
    | cons x m =>
      simp at h
      subst h
      exact brack_law m
  · exact plain_law l h

/-- a host and a port that are joined are split again -/
theorem join_law (h p : List UInt8) (hh : has h [91, 93] = false) (hp : has p [58, 91, 93] = false) : splitHP (joined h p) = some (h, p) := by
  have n91 : (91 : UInt8) ∉ h := fun e => by rw [(has2 h 91 93).2 (Or.inl e)] at hh; cases hh
  have n93 : (93 : UInt8) ∉ h := fun e => by rw [(has2 h 91 93).2 (Or.inr e)] at hh; cases hh
  cases hc : has h [58] with
  | true =>
    rw [joined_yes h p hc]
    have e : 91 :: h ++ [93, 58] ++ p = 91 :: (h ++ 93 :: 58 :: p) := by simp
    rw [e]
    have hho : hostPort (91 :: (h ++ 93 :: 58 :: p)) = (h, p, true) := by
      unfold hostPort
      have e2 : (91 :: (h ++ 93 :: 58 :: p)).drop 1 = h ++ 93 :: 58 :: p := rfl
      have e3 : (91 :: (h ++ 93 :: 58 :: p)).head? = some 91 := rfl
      rw [if_pos e3]
      rw [e2, cutS_yes h (58 :: p) 93 93 rfl n93]
      simp only [List.drop_succ_cons, List.drop_zero]
      rw [if_neg (by simp), if_neg (by simp), if_neg (by simp), if_neg (by rw [has_one]; exact n91), if_neg (by rw [hp]; simp)]
    rcases split_law (91 :: (h ++ 93 :: 58 :: p)) with ⟨_, h2⟩ | ⟨x, h1, h2⟩
    · rw [hho] at h2; cases h2
    · rw [hho] at h2
      rw [h1]
      injection h2 with a b
      injection b with b _
      rw [a, b]
  | false =>
    rw [joined_no h p hc]
    have n58 : (58 : UInt8) ∉ h := fun e => by rw [(has_one h 58).2 e] at hc; cases hc
    have e : h ++ [58] ++ p = h ++ 58 :: p := by simp
    rw [e]
    have hne : (h ++ 58 :: p).head? ≠ some 91 := by
      cases h with
      | nil => simp
      | cons x xs =>
        simp
        rintro rfl
        exact n91 (List.mem_cons_self ..)
    have hho : hostPort (h ++ 58 :: p) = (h, p, true) := by
      unfold hostPort
      rw [if_neg hne, cutS_yes h p 58 58 rfl n58, hh, hp]; rfl
    rcases split_law (h ++ 58 :: p) with ⟨_, h2⟩ | ⟨x, h1, h2⟩
    · rw [hho] at h2; cases h2
    · rw [hho] at h2
      rw [h1]
      injection h2 with a b
      injection b with b _
      rw [a, b]

end Go.Proofs.Ytabeklpllphiaaa.pl
