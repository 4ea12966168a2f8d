/-
  PLAIN: what is written as an address of hardware is read again.
-/
import Derived.Test.YtabeklpllphiaaaPlMac3
namespace Go.Proofs.Ytabeklpllphiaaa

theorem pl.hexv_hx (n : Nat) (h : n < 16) : pl.hexv (pl.hx n) = some n := by
  have : ∀ n : Fin 16, pl.hexv (pl.hx n.val) = some n.val := by decide
  exact this ⟨n, h⟩

theorem pl.pair_macP (b : UInt8) : pl.pair (pl.hx (b.toNat / 16)) (pl.hx (b.toNat % 16)) = some b := by
  have := UInt8.toNat_lt b
  unfold pl.pair
  rw [pl.hexv_hx _ (by omega), pl.hexv_hx _ (by omega)]
  simp only []
  congr 1
  apply UInt8.toNat_inj.1
  rw [UInt8.toNat_ofNat']
  omega

theorem pl.macT_cons (b : UInt8) (t : List UInt8) : pl.macT (b :: t) = pl.macP b ++ t.flatMap (fun b => 58 :: pl.macP b) := by
  unfold pl.macT; simp

theorem pl.g1_macT (l : List UInt8) : pl.g1 58 l.length (pl.macT l) = some l := by
  cases l with
  | nil => rfl
  | cons b t =>
    induction t generalizing b with
    | nil => simp [pl.macT, pl.macP, pl.g1, pl.x2, pl.pair_macP]
    | cons c t ih =>
      have e : pl.macT (b :: c :: t) = pl.hx (b.toNat / 16) :: pl.hx (b.toNat % 16) :: 58 :: pl.macT (c :: t) := by
        rw [pl.macT_cons, pl.macT_cons]; simp [pl.macP]
      rw [List.length_cons, pl.g1, e, pl.x2, if_pos rfl, pl.pair_macP, Option.bind_some, show (pl.hx (b.toNat / 16) :: pl.hx (b.toNat % 16) :: 58 :: pl.macT (c :: t)).drop 3 = pl.macT (c :: t) from rfl, ih c]
      rfl

theorem pl.macT_size (b : UInt8) (t : List UInt8) : (pl.macT (b :: t)).length = 3 * t.length + 2 := by
  rw [pl.macT_cons, List.length_append]
  have : (t.flatMap (fun b => 58 :: pl.macP b)).length = 3 * t.length := by
    induction t with
    | nil => rfl
    | cons b t ih => rw [List.flatMap_cons, List.length_append, ih]; simp [pl.macP]; omega
  rw [this]; simp [pl.macP]; omega

theorem pl.mac_macT (l : List UInt8) (h : l.length = 6 ∨ l.length = 8 ∨ l.length = 20) : pl.mac (pl.macT l) = some l := by
  match l, h with
  | [], h => simp at h
  | [_], h => simp at h
  | b :: c :: t, h =>
    have hs := pl.macT_size b (c :: t)
    have h2 : (pl.macT (b :: c :: t)).getD 2 0 = 58 := by
      rw [pl.macT_cons]; simp [pl.macP]
    have hn : ((pl.macT (b :: c :: t)).length + 1) / 3 = (b :: c :: t).length := by
      rw [hs]; simp only [List.length_cons]; omega
    have hg := pl.g1_macT (b :: c :: t)
    have hl : (b :: c :: t).length = t.length + 2 := by simp
    have hok : pl.ok (b :: c :: t).length = true := by
      rcases h with h | h | h <;> rw [h] <;> rfl
    unfold pl.mac
    rw [if_neg (by rw [hs]; simp only [List.length_cons]; omega), h2, if_pos (Or.inl rfl), hn, if_pos ⟨by rw [hs]; simp only [List.length_cons]; omega, hok⟩]
    exact hg

end Go.Proofs.Ytabeklpllphiaaa
