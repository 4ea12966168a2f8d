/-
  WALKS: isSpace, trimSpace, removeComment.
-/
import Derived.Test.YtabeklpllphiaaaSvTab
import Derived.Deep.LoopGhost
namespace Go.Proofs.Ytabeklpllphiaaa
open Go.RowKit

def pl.trimL (l : List UInt8) : List UInt8 := l.dropWhile pl.ws
def pl.trimR (l : List UInt8) : List UInt8 := (l.reverse.dropWhile pl.ws).reverse
def pl.trimS (l : List UInt8) : List UInt8 := pl.trimR (pl.trimL l)

theorem pl.ws_or (b : UInt8) : pl.ws b = (((b.toNat : Int) == 32) || ((b.toNat : Int) == 9) || ((b.toNat : Int) == 10) || ((b.toNat : Int) == 13)) := by
  have : ∀ n : Fin 256, pl.ws (UInt8.ofNat n.val) = ((((UInt8.ofNat n.val).toNat : Int) == 32) || (((UInt8.ofNat n.val).toNat : Int) == 9) || (((UInt8.ofNat n.val).toNat : Int) == 10) || (((UInt8.ofNat n.val).toNat : Int) == 13)) := by decide +kernel
  have h := this ⟨b.toNat, UInt8.toNat_lt b⟩
  simpa using h

theorem isp_any (b : UInt8) (q : Bool) (w : World) (hq : pl.ws b = q) :
    Calls Try.prog 56 #[.int .u8 (b.toNat : Int)] w fun e w' => e = .returned (.bool q) ∧ w = w' := by
  rw [pl.ws_or] at hq
  obtain ⟨x, hx⟩ : ∃ x : Int, (b.toNat : Int) = x := ⟨_, rfl⟩
  rw [hx] at hq ⊢
  clear hx
  rcases h1 : (x == 32) with _ | _
  · rcases h2 : (x == 9) with _ | _
    · rcases h3 : (x == 10) with _ | _
      · rcases h4 : (x == 13) with _ | _
        · rw [h1, h2, h3, h4] at hq
          subst hq
          go_enter Try.func56, Try.ntmps56
          go_wp2_with fail
          go_ret
          exact ⟨rfl, rfl⟩
        · rw [h1, h2, h3, h4] at hq
          subst hq
          go_enter Try.func56, Try.ntmps56
          go_wp2_with fail
          go_ret
          exact ⟨rfl, rfl⟩
      · rw [h1, h2, h3] at hq
        have hq : true = q := hq
        subst hq
        go_enter Try.func56, Try.ntmps56
        go_wp2_with fail
        go_ret
        exact ⟨rfl, rfl⟩
    · rw [h1, h2] at hq
      have hq : true = q := hq
      subst hq
      go_enter Try.func56, Try.ntmps56
      go_wp2_with fail
      go_ret
      exact ⟨rfl, rfl⟩
  · rw [h1] at hq
    have hq : true = q := hq
    subst hq
    go_enter Try.func56, Try.ntmps56
    go_wp2_with fail
    go_ret
    exact ⟨rfl, rfl⟩

theorem pl.trimL_yes (S : ByteArray) (b : UInt8) (h : 0 < S.size) (hb : S[0] = b) (hw : pl.ws b = true) : (S.extract 1 S.size).data.toList.dropWhile pl.ws = S.data.toList.dropWhile pl.ws := by
  have h1 := pl.getElem_data S 0 h
  rw [hb] at h1
  have hl : S.data.toList.length = S.size := by simp
  rw [Lib.extract_data]
  match hS : S.data.toList, h1 with
  | x :: r, h1 =>
    injection h1 with h1
    subst h1
    rw [List.dropWhile_cons_of_pos hw, List.drop_succ_cons, List.drop_zero, List.take_of_length_le (by rw [hS] at hl; simp at hl; omega)]
theorem pl.trimL_no (S : ByteArray) (b : UInt8) (h : 0 < S.size) (hb : S[0] = b) (hw : pl.ws b = false) : S.data.toList.dropWhile pl.ws = S.data.toList := by
  have h1 := pl.getElem_data S 0 h
  rw [hb] at h1
  match hS : S.data.toList, h1 with
  | x :: r, h1 =>
    injection h1 with h1
    subst h1
    rw [List.dropWhile_cons_of_neg (by simp [hw])]
theorem pl.nil_data (S : ByteArray) (h : ¬ 0 < S.size) : S.data.toList = [] := by
  have hl : S.data.toList.length = S.size := by simp
  exact List.eq_nil_of_length_eq_zero (by omega)
theorem pl.last_split (S : ByteArray) (b : UInt8) (h : 0 < S.size) (hb : S[S.size - 1] = b) : S.data.toList = (S.extract 0 (S.size - 1)).data.toList ++ [b] := by
  have hl : S.data.toList.length = S.size := by simp
  rw [Lib.extract_data, List.drop_zero, Nat.sub_zero]
  have h2 := List.take_succ_eq_append_getElem (l := S.data.toList) (i := S.size - 1) (by omega)
  rw [show S.size - 1 + 1 = S.size by omega, List.take_of_length_le (by omega)] at h2
  conv => lhs; rw [h2]
  congr 2
theorem pl.trimR_yes (S : ByteArray) (b : UInt8) (h : 0 < S.size) (hb : S[S.size - 1] = b) (hw : pl.ws b = true) : pl.trimR (S.extract 0 (S.size - 1)).data.toList = pl.trimR S.data.toList := by
  rw [pl.last_split S b h hb]
  unfold pl.trimR
  rw [List.reverse_append, List.reverse_singleton, List.singleton_append, List.dropWhile_cons_of_pos hw]
theorem pl.trimR_no (S : ByteArray) (b : UInt8) (h : 0 < S.size) (hb : S[S.size - 1] = b) (hw : pl.ws b = false) : pl.trimR S.data.toList = S.data.toList := by
  rw [pl.last_split S b h hb]
  unfold pl.trimR
  rw [List.reverse_append, List.reverse_singleton, List.singleton_append, List.dropWhile_cons_of_neg (by simp [hw])]
  simp

set_option maxHeartbeats 1000000 in
theorem trim_any (s : ByteArray) (w : World) (hs : s.size ≤ 17592186044416) :
    Calls Try.prog 51 #[.string s] w fun e w' => e = .returned (.string ⟨(pl.trimS s.data.toList).toArray⟩) ∧ w = w' := by
  go_enter Try.func51, Try.ntmps51
  go_wp2_with fail
  go_loopg [0] s.size (fun g v wr => ∃ S : ByteArray, g = S.size ∧ v = .string S ∧ S.size ≤ s.size ∧ Hid (S.data.toList.dropWhile pl.ws = s.data.toList.dropWhile pl.ws) ∧ wr = w)
  case atStart => exact ⟨s, rfl, rfl, Nat.le_refl _, Lib.hid rfl, rfl⟩
  case round =>
    obtain ⟨S, hg, rfl, hS, HD, rfl⟩ := hrel
    by_cases h0 : 0 < S.size
    focus
      have h0i : (0 : Int) < (S.size : Int) := by omega
      obtain ⟨b, hb⟩ : ∃ b, S[0] = b := ⟨_, rfl⟩
      obtain ⟨q, hq⟩ : ∃ q, pl.ws b = q := ⟨_, rfl⟩
      have hi := fun W => isp_any b q W hq
      have HI := Lib.hid hi
      have HQ := Lib.hid hq
      have HG := Lib.hid hg
      clear hi hq hg
      rcases q with _ | _
      focus
        have hT : S.data.toList = pl.trimL s.data.toList := by unfold pl.trimL; rw [← HD.out]; exact (pl.trimL_no S b h0 hb HQ.out).symm
        have HT := Lib.hid hT
        clear hT
        go_wp2_with (go_at_call 56; refine (HI.out _).mono ?_; rintro e w' ⟨rfl, rfl⟩)
      rotate_left
      focus
        have hy := pl.trimL_yes S b h0 hb HQ.out
        have HY := Lib.hid (hy.trans HD.out)
        clear hy
        go_wp2_with (go_at_call 56; refine (HI.out _).mono ?_; rintro e w' ⟨rfl, rfl⟩)
        go_roundg (S.size - 1)
        case measure => have := HG.out; omega
        case rel => exact ⟨_, by simp, rfl, by simp; omega, HY, rfl⟩
      clear HI HQ hb h0i HG HD h0
    rotate_left
    focus
      have hT : S.data.toList = pl.trimL s.data.toList := by unfold pl.trimL; rw [← HD.out, pl.nil_data S h0]; rfl
      have HT := Lib.hid hT
      have h0i : ¬ (0 : Int) < (S.size : Int) := by omega
      clear hT
      go_wp2_with fail
      clear h0i HD h0 hg
    all_goals
      obtain ⟨wo, rfl⟩ : ∃ wo : World, wo = wr := ⟨_, rfl⟩
      go_loopg [0] S.size (fun g v wq => ∃ R : ByteArray, g = R.size ∧ v = .string R ∧ R.size ≤ S.size ∧ Hid (pl.trimR R.data.toList = pl.trimS s.data.toList) ∧ wq = wo)
      case atStart => exact ⟨S, rfl, rfl, Nat.le_refl _, Lib.hid (by rw [HT.out]; rfl), rfl⟩
      case round =>
        obtain ⟨R, hg, rfl, hR, HR, rfl⟩ := hrel
        by_cases h0 : 0 < R.size
        · have h0i : (0 : Int) < (R.size : Int) := by omega
          have h1 : 1 ≤ R.size := h0
          obtain ⟨b, hb⟩ : ∃ b, R[R.size - 1] = b := ⟨_, rfl⟩
          obtain ⟨q, hq⟩ : ∃ q, pl.ws b = q := ⟨_, rfl⟩
          have hi := fun W => isp_any b q W hq
          have HI := Lib.hid hi
          have HQ := Lib.hid hq
          have HG := Lib.hid hg
          clear hi hq hg
          rcases q with _ | _
          · have hT : R = ⟨(pl.trimS s.data.toList).toArray⟩ := pl.ba_ext (by rw [← HR.out, pl.trimR_no R b h0 hb HQ.out])
            have HT2 := Lib.hid hT
            clear hT
            go_wp2_with (go_at_call 56; refine (HI.out _).mono ?_; rintro e w' ⟨rfl, rfl⟩)
            go_ret
            exact ⟨by rw [← HT2.out]; rfl, rfl⟩
          · have hy := pl.trimR_yes R b h0 hb HQ.out
            have HY := Lib.hid (hy.trans HR.out)
            clear hy
            go_wp2_with (go_at_call 56; refine (HI.out _).mono ?_; rintro e w' ⟨rfl, rfl⟩)
            go_roundg (R.size - 1)
            case measure => have := HG.out; omega
            case rel => exact ⟨_, by simp, rfl, by simp; omega, HY, rfl⟩
        · have hT : R = ⟨(pl.trimS s.data.toList).toArray⟩ := pl.ba_ext (by rw [← HR.out, pl.nil_data R h0]; rfl)
          have HT2 := Lib.hid hT
          have h0i : ¬ (0 : Int) < (R.size : Int) := by omega
          clear hT
          go_wp2_with fail
          go_ret
          exact ⟨by rw [← HT2.out]; rfl, rfl⟩

theorem pl.strip_ext (s : ByteArray) (k : Nat) (h : pl.idx s.data.toList 35 = k) : s.extract 0 k = ⟨(pl.strip s.data.toList).toArray⟩ := by
  rw [pl.ext_take]
  unfold pl.strip
  rw [h, if_neg (by omega)]
  rfl

theorem rmc_any (s : ByteArray) (w : World) (hs : s.size ≤ 17592186044416) :
    Calls Try.prog 52 #[.string s] w fun e w' => e = .returned (.string ⟨(pl.strip s.data.toList).toArray⟩) ∧ w = w' := by
  obtain ⟨i, hi⟩ : ∃ i, pl.idx s.data.toList 35 = i := ⟨_, rfl⟩
  have hlt := pl.idx_lt s.data.toList 35
  rw [hi] at hlt
  have hl : s.data.toList.length = s.size := by simp
  rw [hl] at hlt
  by_cases h0 : i < 0
  · have hm : i = -1 := by rcases hlt with h | h
                           · unfold pl.idx at hi; split at hi <;> omega
                           · exact h
    subst hm
    have hst : s = ⟨(pl.strip s.data.toList).toArray⟩ := pl.ba_ext (by unfold pl.strip; rw [hi, if_pos (by omega)])
    have HI := Lib.hid hi
    have HST := Lib.hid hst
    clear hi hlt hst hl h0
    go_enter Try.func52, Try.ntmps52
    go_wp2_with (go_at_call 46; refine (idx_val' s 35 (-1) _ HI.out hs).mono ?_; rintro e w' ⟨rfl, rfl⟩)
    go_ret
    exact ⟨by rw [← HST.out]; rfl, rfl⟩
  · obtain ⟨k, rfl⟩ : ∃ k : Nat, i = k := ⟨i.toNat, by omega⟩
    have hst := pl.strip_ext s k hi
    have HI := Lib.hid hi
    have HST := Lib.hid hst
    have hk0 : (0 : Int) ≤ (k : Int) := by omega
    have hkl : (k : Int) ≤ (s.size : Int) := by omega
    have hne : ((k : Int) != -1) = true := by simp
    clear hi hlt hst hl h0
    go_enter Try.func52, Try.ntmps52
    go_wp2_with (go_at_call 46; refine (idx_val' s 35 (k : Int) _ HI.out hs).mono ?_; rintro e w' ⟨rfl, rfl⟩)
    go_ret
    exact ⟨by rw [← HST.out]; rfl, rfl⟩

end Go.Proofs.Ytabeklpllphiaaa
