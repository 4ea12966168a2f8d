/-
  PLAIN: names with a point at the end; the suffixes of a machine's name.
-/
import Derived.Test.YtfkohahlpfejbaaDoorPlHostLaw
namespace Go.Proofs.YtfkohahlpfejbaaDoor.pl

def rooted (l : List UInt8) : List UInt8 := if l.getLast? = some 46 then l else l ++ [46]

theorem rooted_nil (s : ByteArray) (h : s.size = 0) : (⟨(rooted s.data.toList).toArray⟩ : ByteArray) = s ++ ⟨#[46]⟩ := by
  apply ba_ext
  rw [nil_of s h]
  simp [rooted, ByteArray.data_append, nil_of s h]
theorem rooted_yes (s : ByteArray) (h : 1 ≤ s.size) (hk : ((s[s.size - 1].toNat : Int) == 46) = true) : (⟨(rooted s.data.toList).toArray⟩ : ByteArray) = s := by
  apply ba_ext
  have h1 := last_get s h
  have h2 : s[s.size - 1] = 46 := UInt8.toNat_inj.1 (by have := of_decide_eq_true hk; have e : (46 : UInt8).toNat = 46 := rfl; omega)
  unfold rooted
  rw [h1, h2, if_pos rfl]
theorem rooted_no (s : ByteArray) (h : 1 ≤ s.size) (hk : ((s[s.size - 1].toNat : Int) == 46) = false) : (⟨(rooted s.data.toList).toArray⟩ : ByteArray) = s ++ ⟨#[46]⟩ := by
  apply ba_ext
  have h1 := last_get s h
  have h2 : ¬ s[s.size - 1] = 46 := by
    intro e
    rw [e] at hk
    exact absurd hk (by decide)
  unfold rooted
  rw [h1, if_neg (by simpa using h2)]
  simp [ByteArray.data_append]

/-- what follows the first point of the machine's name -/
def defS (l : List UInt8) : List (List UInt8) := if (cutS l 46).2.1 = [] then [] else [rooted (cutS l 46).2.1]

theorem cutS_neg (l : List UInt8) (h : idx l 46 < 0) : (cutS l 46).2.1 = [] := by
  unfold cutS
  rw [if_pos h]
theorem cutS_pos (l : List UInt8) (h : 0 ≤ idx l 46) : (cutS l 46).2.1 = l.drop (idx l 46 + 1).toNat := by
  unfold cutS
  rw [if_neg (by omega)]
theorem defS_neg (l : List UInt8) (h : idx l 46 < 0) : defS l = [] := by
  rw [defS, if_pos (cutS_neg l h)]
theorem defS_end (l : List UInt8) (h : 0 ≤ idx l 46) (h2 : (l.length : Int) - 1 ≤ idx l 46) : defS l = [] := by
  rw [defS, if_pos]
  rw [cutS_pos l h]
  exact List.drop_eq_nil_of_le (by omega)
theorem defS_mid (l : List UInt8) (h : 0 ≤ idx l 46) (h2 : idx l 46 < (l.length : Int) - 1) : defS l = [rooted (l.drop (idx l 46 + 1).toNat)] := by
  rw [defS, if_neg]
  · rw [cutS_pos l h]
  · rw [cutS_pos l h]
    intro e
    have := congrArg List.length e
    rw [List.length_drop] at this
    simp at this
    omega

end Go.Proofs.YtfkohahlpfejbaaDoor.pl
