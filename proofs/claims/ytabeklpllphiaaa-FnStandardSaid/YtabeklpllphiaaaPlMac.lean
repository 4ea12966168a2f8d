/-
  PLAIN: the text of an address of hardware.
-/
import Derived.Test.YtabeklpllphiaaaPl
namespace Go.Proofs.Ytabeklpllphiaaa

def pl.hx (n : Nat) : UInt8 := if n < 10 then UInt8.ofNat (48 + n) else UInt8.ofNat (87 + n)

def pl.macP (b : UInt8) : List UInt8 := [pl.hx (b.toNat / 16), pl.hx (b.toNat % 16)]
def pl.macT (l : List UInt8) : List UInt8 := (l.flatMap (fun b => 58 :: pl.macP b)).drop 1

theorem pl.macT_zero (l : List UInt8) : pl.macT (l.take 0) = [] := rfl

theorem pl.macT_first (l : List UInt8) (b : UInt8) (h : l[0]? = some b) : pl.macT (l.take 1) = pl.macP b := by
  cases l with
  | nil => simp at h
  | cons x t => simp at h; subst h; simp [pl.macT]

theorem pl.macT_succ (l : List UInt8) (k : Nat) (b : UInt8) (h : l[k]? = some b) (hk : 0 < k) : pl.macT (l.take (k + 1)) = pl.macT (l.take k) ++ [58] ++ pl.macP b := by
  have e : l.take (k + 1) = l.take k ++ [b] := by
    rw [List.take_add_one, h]; rfl
  have hne : l.take k ≠ [] := by
    cases l with
    | nil => simp at h
    | cons x t => cases k with
      | zero => omega
      | succ k => simp
  rw [e]
  unfold pl.macT
  cases hh : l.take k with
  | nil => exact absurd hh hne
  | cons x t => simp [List.flatMap_append]

theorem pl.macT_len (l : List UInt8) : (pl.macT l).length ≤ 3 * l.length := by
  unfold pl.macT
  have : (l.flatMap (fun b => 58 :: pl.macP b)).length = 3 * l.length := by
    induction l with
    | nil => rfl
    | cons b t ih => rw [List.flatMap_cons, List.length_append, ih]; simp [pl.macP]; omega
  rw [List.length_drop, this]; omega

def pl.hexd : ByteArray := { data := #[48, 49, 50, 51, 52, 53, 54, 55, 56, 57, 97, 98, 99, 100, 101, 102] }

theorem pl.hx_slice (n : Nat) (h : n < 16) : (pl.hexd.extract n (n + 1)).data.toList = [pl.hx n] := by
  have : ∀ n : Fin 16, (pl.hexd.extract n.val (n.val + 1)).data.toList = [pl.hx n.val] := by decide
  exact this ⟨n, h⟩

theorem pl.hx_at (n : Nat) (h : n < pl.hexd.size) : pl.hexd[n] = pl.hx n := by
  have : ∀ n : Fin 16, ∀ h : n.val < pl.hexd.size, pl.hexd[n.val] = pl.hx n.val := by decide
  exact this ⟨n, h⟩ h

theorem pl.hwt_step (S : ByteArray) (b : UInt8) (t : List UInt8) (hS : S.data.toList = t) :
    (S ++ (pl.hexd.extract (b.toNat / 16) (b.toNat / 16 + 1) ++ pl.hexd.extract (b.toNat % 16) (b.toNat % 16 + 1))).data.toList = t ++ pl.macP b := by
  have := UInt8.toNat_lt b
  rw [ByteArray.data_append, ByteArray.data_append, Array.toList_append, Array.toList_append, hS, pl.hx_slice _ (by omega), pl.hx_slice _ (by omega)]
  rfl

theorem pl.colon (S : ByteArray) (t : List UInt8) (hS : S.data.toList = t) : (S ++ { data := #[58] }).data.toList = t ++ [58] := by
  rw [ByteArray.data_append, Array.toList_append, hS]

end Go.Proofs.Ytabeklpllphiaaa
