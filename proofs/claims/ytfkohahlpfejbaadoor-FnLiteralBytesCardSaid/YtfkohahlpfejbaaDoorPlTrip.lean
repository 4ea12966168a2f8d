/-
  PLAIN: the text of an address is read again.
-/
import Derived.Test.YtfkohahlpfejbaaDoorPlText
namespace Go.Proofs.YtfkohahlpfejbaaDoor.pl

def ung (g : List Nat) : List UInt8 := g.flatMap (fun x => [UInt8.ofNat (x / 256), UInt8.ofNat x])
theorem ung_gs : ∀ (n : Nat) (b : List UInt8), b.length = 2 * n → ung (gs b) = b
  | 0, b, h => by rw [List.eq_nil_of_length_eq_zero (by omega : b.length = 0)]; rfl
  | n + 1, [], h => by simp at h
  | n + 1, [_], h => by simp at h; omega
  | n + 1, x :: y :: r, h => by
    have h1 := UInt8.toNat_lt x
    have h2 := UInt8.toNat_lt y
    have e1 : UInt8.ofNat ((x.toNat * 256 + y.toNat) / 256) = x := by
      rw [show (x.toNat * 256 + y.toNat) / 256 = x.toNat by omega]; exact UInt8.ofNat_toNat
    have e2 : UInt8.ofNat (x.toNat * 256 + y.toNat) = y := by
      apply UInt8.toNat_inj.1
      rw [UInt8.toNat_ofNat']
      omega
    show UInt8.ofNat ((x.toNat * 256 + y.toNat) / 256) :: UInt8.ofNat (x.toNat * 256 + y.toNat) :: ung (gs r) = _
    rw [e1, e2, ung_gs n r (by simp at h; omega)]

theorem num_hex : ∀ (k : Nat) (n : Nat), n < 16 ^ (k + 1) → k < 4 → (num 16 n).all isHex = true ∧ 1 ≤ (num 16 n).length ∧ (num 16 n).length ≤ k + 1 ∧ hexV 0 (num 16 n) = n
  | 0, n, h, _ => by
    have h16 : n < 16 := by simpa using h
    rw [num_step 16 n (by decide) (by omega), if_pos (by omega)]
    have e : n % 16 = n := by omega
    rw [e]
    have := hx_not n h16
    refine ⟨by simp [this.2.2.1], by simp, by simp, ?_⟩
    show 0 * 16 + (hexv (hx n)).getD 0 = n
    rw [this.2.2.2]; simp
  | k + 1, n, h, hk => by
    have h63 : (16 : Nat) ^ (k + 1 + 1) ≤ 16 ^ 5 := Nat.pow_le_pow_right (by omega) (by omega)
    have h5 : (16 : Nat) ^ 5 = 1048576 := by decide
    have h16 := hx_not (n % 16) (by omega)
    rw [num_step 16 n (by decide) (by omega)]
    by_cases h0 : n / 16 = 0
    · rw [if_pos h0]
      refine ⟨by simp [h16.2.2.1], by simp, by simp, ?_⟩
      show 0 * 16 + (hexv (hx (n % 16))).getD 0 = n
      rw [h16.2.2.2]; simp; omega
    · rw [if_neg h0]
      obtain ⟨i1, i2, i3, i4⟩ := num_hex k (n / 16) (by rw [Nat.pow_succ] at h; omega) (by omega)
      refine ⟨by simp only [List.all_append, i1, List.all_cons, h16.2.2.1, List.all_nil]; rfl, by rw [List.length_append]; omega, by rw [List.length_append]; simp; omega, ?_⟩
      rw [hexV_snoc, i4, h16.2.2.2, Option.getD_some]; omega
theorem okG_num (n : Nat) (h : n < 65536) : okG (num 16 n) := by
  obtain ⟨h1, h2, h3, _⟩ := num_hex 3 n (by simpa using h) (by decide)
  exact ⟨h1, h2, h3⟩
theorem grp_num (n : Nat) (h : n < 65536) : grp (num 16 n) = [UInt8.ofNat (n / 256), UInt8.ofNat n] := by
  obtain ⟨_, _, _, h4⟩ := num_hex 3 n (by simpa using h) (by decide)
  unfold grp
  rw [h4]
theorem num_head (n : Nat) (h : n < 65536) (r : List UInt8) : (num 16 n ++ r).head? ≠ some 58 := by
  have hc := hex_noC _ (okG_num n h).1
  have h1 := (okG_num n h).2.1
  cases hn : num 16 n with
  | nil => rw [hn] at h1; simp at h1
  | cons x t =>
    rw [hn] at hc
    have := (isC' x).1 (hc x (by simp))
    simpa using this
theorem jn_head (g : List Nat) (hs : small g) (hg : g ≠ []) (r : List UInt8) : (jn g ++ r).head? ≠ some 58 := by
  cases g with
  | nil => exact absurd rfl hg
  | cons x t =>
    cases t with
    | nil => exact num_head x (hs x (by simp)) r
    | cons y t => rw [jn, List.append_assoc]; exact num_head x (hs x (by simp)) _

theorem rest6_jn (ell : Option Nat) : ∀ (g : List Nat) (acc : List UInt8), small g → g ≠ [] → rest6 acc ell (jn g) = fin6 (acc ++ ung g) ell
  | [], _, _, h => absurd rfl h
  | [x], acc, hs, _ => by
    have hx := hs x (by simp)
    show rest6 acc ell (num 16 x) = _
    rw [rest6_end acc ell _ (okG_num x hx), grp_num x hx]; rfl
  | x :: y :: r, acc, hs, _ => by
    have hx := hs x (by simp)
    have hs' : small (y :: r) := fun z hz => hs z (by simp at hz ⊢; exact .inr hz)
    rw [jn, rest6_group acc ell _ _ (okG_num x hx) (by have := jn_head (y :: r) hs' (by simp) []; rwa [List.append_nil] at this), rest6_jn ell (y :: r) _ hs' (by simp), grp_num x hx]
    rw [show ung (x :: y :: r) = [UInt8.ofNat (x / 256), UInt8.ofNat x] ++ ung (y :: r) from rfl, List.append_assoc]
theorem ung_len (g : List Nat) : (ung g).length = 2 * g.length := by
  induction g with
  | nil => rfl
  | cons a g ih => show (ung g).length + 1 + 1 = _; rw [ih, List.length_cons]; omega
theorem rest6_jn_dd (t : List Nat) (ht : small t) : ∀ (g : List Nat) (acc : List UInt8), small g → g ≠ [] → rest6 acc none (jn g ++ 58 :: 58 :: jn t) = fin6 (acc ++ ung g ++ ung t) (some (acc.length + 2 * g.length))
  | [], _, _, h => absurd rfl h
  | [x], acc, hs, _ => by
    have hx := hs x (by simp)
    show rest6 acc none (num 16 x ++ _) = _
    by_cases h0 : t = []
    · subst h0
      show rest6 acc none (num 16 x ++ [58, 58]) = _
      rw [rest6_dd_end acc _ (okG_num x hx), grp_num x hx]
      show _ = fin6 (acc ++ _ ++ []) _
      rw [List.append_nil]; rfl
    · rw [rest6_dd acc _ _ (okG_num x hx) (fun e => h0 (jn_none t ht e)), rest6_jn _ t _ ht h0, grp_num x hx]; rfl
  | x :: y :: r, acc, hs, _ => by
    have hx := hs x (by simp)
    have hs' : small (y :: r) := fun z hz => hs z (by simp at hz ⊢; exact .inr hz)
    rw [jn, List.append_assoc, List.cons_append, rest6_group acc none _ _ (okG_num x hx) (jn_head (y :: r) hs' (by simp) _), rest6_jn_dd t ht (y :: r) _ hs' (by simp), grp_num x hx]
    have e : acc ++ [UInt8.ofNat (x / 256), UInt8.ofNat x] ++ ung (y :: r) = acc ++ ung (x :: y :: r) := by
      rw [show ung (x :: y :: r) = [UInt8.ofNat (x / 256), UInt8.ofNat x] ++ ung (y :: r) from rfl, List.append_assoc]
    rw [e]
    congr 2
    simp only [List.length_append, List.length_cons, List.length_nil]
    omega

theorem ung_app (g h : List Nat) : ung (g ++ h) = ung g ++ ung h := by unfold ung; rw [List.flatMap_append]
theorem ung_zero (n : Nat) : ung (List.replicate n 0) = List.replicate (2 * n) 0 := by
  induction n with
  | zero => rfl
  | succ n ih =>
    show UInt8.ofNat (0 / 256) :: UInt8.ofNat 0 :: ung (List.replicate n 0) = _
    rw [ih, show 2 * (n + 1) = 2 * n + 1 + 1 by omega, List.replicate_succ, List.replicate_succ]
    rfl
theorem tx_addr (b : List UInt8) (hb : b.length = 16) : rest6 [] none (text6 b) = some b := by
  have hl := gs_len 8 b hb
  have hs : small (gs b) := gs_lt 16 b (by omega)
  have hu := ung_gs 8 b hb
  have hnil : ∀ g : List UInt8, g.length = 16 → fin6 g none = some g := fun g h => by unfold fin6; rw [if_pos h]
  unfold text6 tx
  rcases best_ok (gs b) hl 8 (Nat.le_refl _) with e | ⟨h1, h2, h3, h4⟩
  · rw [e, if_pos (Nat.le_refl _), List.take_of_length_le (by omega), rest6_jn none (gs b) [] hs (by intro e; rw [e] at hl; simp at hl), hu]
    exact hnil b hb
  · obtain ⟨a, ha⟩ : ∃ a, (best (gs b) 8).1 = a := ⟨_, rfl⟩
    obtain ⟨l, hl2⟩ : ∃ l, (best (gs b) 8).2 = l := ⟨_, rfl⟩
    rw [ha] at h1 h3 h4 ⊢
    rw [hl2] at h2 h3 h4 ⊢
    have htk : (gs b).take 8 = gs b := List.take_of_length_le (by omega)
    rw [if_neg (by omega), htk]
    have hz : (gs b).drop a = List.replicate l 0 ++ (gs b).drop (a + l) := by
      rw [← List.take_append_drop l ((gs b).drop a), List.drop_drop]
      congr 1
      apply List.ext_getElem?
      intro j
      rw [List.getElem?_take, List.getElem?_replicate]
      by_cases hj : j < l
      · rw [if_pos hj, if_pos hj, List.getElem?_drop]
        exact run0_all (gs b) a j (by omega)
      · rw [if_neg hj, if_neg hj]
    have hall : gs b = (gs b).take a ++ (List.replicate l 0 ++ (gs b).drop (a + l)) := by rw [← hz, List.take_append_drop]
    have hst : small ((gs b).drop (a + l)) := fun x hx => hs x (List.mem_of_mem_drop hx)
    have hst2 : small ((gs b).take a) := fun x hx => hs x (List.mem_of_mem_take hx)
    have hb2 : b = ung ((gs b).take a) ++ (List.replicate (2 * l) 0 ++ ung ((gs b).drop (a + l))) := by
      conv => lhs; rw [← hu, hall]
      rw [ung_app, ung_app, ung_zero]
    have l1 : (ung ((gs b).take a)).length = 2 * a := by rw [ung_len, List.length_take]; omega
    have l2 : (ung ((gs b).drop (a + l))).length = 16 - 2 * (a + l) := by rw [ung_len, List.length_drop]; omega
    have hfin : fin6 (ung ((gs b).take a) ++ ung ((gs b).drop (a + l))) (some (2 * a)) = some b := by
      show (if _ then _ else _) = _
      rw [if_pos (by rw [List.length_append]; omega), ← l1, List.take_left, List.drop_left, List.length_append, l1, l2, show 16 - (2 * a + (16 - 2 * (a + l))) = 2 * l by omega, List.append_assoc, ← hb2]
    by_cases h0 : a = 0
    · subst h0
      rw [List.take_zero]
      show rest6 [] none (58 :: 58 :: jn ((gs b).drop (0 + l))) = _
      by_cases ht : (gs b).drop (0 + l) = []
      · have : l = 8 := by have := congrArg List.length ht; rw [List.length_drop, List.length_nil] at this; omega
        subst this
        rw [ht] at hfin ⊢
        exact hfin
      · rw [rest6_lead _ (fun e => ht (jn_none _ hst e)), rest6_jn _ _ _ hst ht]
        exact hfin
    · have hne : (gs b).take a ≠ [] := take_ne _ _ h0 (by omega)
      rw [List.append_assoc]
      show rest6 [] none (jn _ ++ 58 :: 58 :: jn _) = _
      rw [rest6_jn_dd _ hst _ [] hst2 hne, List.length_take, show min a (gs b).length = a by omega, List.nil_append, List.length_nil, Nat.zero_add]
      exact hfin
theorem text6_colon (b : List UInt8) (hb : b.length = 16) : 58 ∈ text6 b := by
  have hl := gs_len 8 b hb
  unfold text6 tx
  rcases best_ok (gs b) hl 8 (Nat.le_refl _) with e | ⟨h1, h2, h3, h4⟩
  · rw [e, if_pos (Nat.le_refl _), List.take_of_length_le (by omega)]
    match h : gs b, hl with
    | x :: y :: r, _ => simp [jn]
    | [x], hl => simp at hl
    | [], hl => simp at hl
  · rw [if_neg (by omega)]; simp

theorem oct_num (x : UInt8) : oct (num 10 x.toNat) = some x ∧ (num 10 x.toNat).all dg = true ∧ 1 ≤ (num 10 x.toNat).length ∧ (num 10 x.toNat).length ≤ 3 := by
  have : ∀ n : Fin 256, (oct (num 10 n.val) = some (UInt8.ofNat n.val) ∧ (num 10 n.val).all dg = true ∧ 1 ≤ (num 10 n.val).length ∧ (num 10 n.val).length ≤ 3) := by decide +kernel
  have h := this ⟨x.toNat, UInt8.toNat_lt x⟩
  rwa [show UInt8.ofNat (⟨x.toNat, UInt8.toNat_lt x⟩ : Fin 256).val = x from UInt8.ofNat_toNat] at h
theorem dots_four (b : List UInt8) (hb : b.length = 4) : four (dots b) = some b := by
  match b, hb with
  | [x, y, z, u], _ =>
    have hx := oct_num x
    have hy := oct_num y
    have hz := oct_num z
    have hu := oct_num u
    rw [← rest4_start]
    show rest4 [] [] (num 10 x.toNat ++ _) = _
    have go : ∀ (cur p rest done : List UInt8), p.all dg = true → rest4 done cur (p ++ rest) = rest4 done (cur ++ p) rest := by
      intro cur p
      induction p generalizing cur with
      | nil => intro rest done _; simp
      | cons c p ih =>
        intro rest done h
        rw [List.all_cons, Bool.and_eq_true] at h
        rw [List.cons_append, rest4_digit, ih _ _ _ h.2]
        simp
    have one : ∀ (c : UInt8) (done rest : List UInt8), rest4 done [] (num 10 c.toNat ++ 46 :: rest) = rest4 (done ++ [c]) [] rest := by
      intro c done rest
      have hc := oct_num c
      rw [go _ _ _ _ hc.2.1, List.nil_append, rest4_dot _ _ _ hc.2.1, hc.1]
    rw [one, one, one]
    have e := go [] (num 10 u.toNat) [] ([] ++ [x] ++ [y] ++ [z]) hu.2.1
    rw [List.append_nil, List.nil_append] at e
    show rest4 ([x] ++ [y] ++ [z]) [] (num 10 u.toNat) = _
    rw [e, List.nil_append, rest4_end _ _ hu.2.1, hu.1]
    rfl
theorem dots_okG (x : UInt8) : okG (num 10 x.toNat) := by
  have h := oct_num x
  refine ⟨?_, h.2.2.1, by omega⟩
  rw [List.all_eq_true]
  intro y hy
  exact isHex_dg y (by have := h.2.1; rw [List.all_eq_true] at this; exact this y hy)
theorem mapped_eq (b : List UInt8) (h : mapped b = true) : b = pre12 ++ b.drop 12 := by
  unfold mapped at h
  rw [beq_iff_eq] at h
  rw [← h, List.take_append_drop]
theorem text_addr (b : List UInt8) (h : b.length = 4 ∨ b.length = 16) : addr (text b) = some b := by
  unfold text
  rcases h with h | h
  · rw [if_pos h]
    unfold addr
    rw [dots_four b h]
  · rw [if_neg (by omega)]
    by_cases hm : mapped b = true
    · rw [if_pos hm, ← rest6_all _ (four_colon _ (by simp))]
      have hd : (b.drop 12).length = 4 := by rw [List.length_drop]; omega
      have hf := dots_four _ hd
      have he := mapped_eq b hm
      match h4 : b.drop 12, hd with
      | [x, y, z, u], _ =>
        rw [h4] at hf he
        show rest6 [] none (58 :: 58 :: ([102, 102, 102, 102] ++ 58 :: dots [x, y, z, u])) = _
        have hdx : dots [x, y, z, u] = num 10 x.toNat ++ 46 :: (num 10 y.toNat ++ 46 :: (num 10 z.toNat ++ 46 :: num 10 u.toNat)) := rfl
        have hok := dots_okG x
        have hh : (dots [x, y, z, u]).head? ≠ some 58 := by
          rw [hdx]
          have hc := hex_noC _ hok.1
          cases hn : num 10 x.toNat with
          | nil => have := hok.2.1; rw [hn] at this; simp at this
          | cons c t =>
            rw [hn] at hc
            have := (isC' c).1 (hc c (by simp))
            simpa using this
        rw [rest6_lead _ (by simp), rest6_group [] (some 0) [102, 102, 102, 102] _ (by unfold okG; decide) hh]
        rw [hdx, rest6_dot _ _ _ _ hok, ← hdx, hf]
        show fin6 ([] ++ grp [102, 102, 102, 102] ++ [x, y, z, u]) (some 0) = some b
        rw [he]
        rfl
    · rw [if_neg hm, ← rest6_all _ (four_colon _ (text6_colon b h))]
      exact tx_addr b h

end Go.Proofs.YtfkohahlpfejbaaDoor.pl
