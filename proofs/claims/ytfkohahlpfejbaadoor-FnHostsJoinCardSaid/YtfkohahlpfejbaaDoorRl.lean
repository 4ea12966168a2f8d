/-
  PLAIN AND WALK: a file as a list of lines; the next line.
-/
import Derived.Test.YtfkohahlpfejbaaDoorTb
namespace Go.Proofs.YtfkohahlpfejbaaDoor
open Go.RowKit

/-- a line, and the host that stands in it -/
abbrev Item := List UInt8 × Option (List UInt8 × List (List UInt8))
def pl.strip (l : List UInt8) : List UInt8 := if pl.idx l 35 < 0 then l else l.take (pl.idx l 35).toNat
def pl.itext (its : List Item) : List UInt8 := its.flatMap (fun it => it.1 ++ [10])
def pl.ihosts (its : List Item) : HostL := its.filterMap (·.2)
/-- what the next line is: its bytes, whether there is one, the lines behind it -/
def pl.nx : List Item → List UInt8 × Bool × List Item
  | [] => ([], false, [])
  | it :: r => (it.1, true, r)

theorem pl.idx_nl (a b : List UInt8) (h : (10 : UInt8) ∉ a) : pl.idx (a ++ 10 :: b) 10 = (a.length : Int) := by
  have hx : ∀ x ∈ a, pl.isB 10 x = false := fun x hx => by
    unfold pl.isB
    have hne : x ≠ 10 := fun e => h (e ▸ hx)
    have hn : x.toNat ≠ 10 := fun e => hne (UInt8.toNat_inj.1 (by rw [e]; rfl))
    simpa using (by omega : ¬ ((x.toNat : Int) = 10))
  have hf : (a ++ 10 :: b).findIdx? (pl.isB 10) = some a.length := by
    rw [List.findIdx?_eq_some_iff_getElem]
    refine ⟨by simp, ?_, fun j hj => ?_⟩
    · rw [List.getElem_append_right (Nat.le_refl _)]
      simp [pl.isB]
    · rw [List.getElem_append_left hj, hx _ (List.getElem_mem hj)]
      simp
  unfold pl.idx
  rw [hf]

theorem pl.line_split (a b : List UInt8) (h : (10 : UInt8) ∉ a) : (a ++ 10 :: b).take (pl.lineK (a ++ 10 :: b)) = a ∧ (a ++ 10 :: b).drop (pl.lineK (a ++ 10 :: b) + 1) = b := by
  have hk : pl.lineK (a ++ 10 :: b) = a.length := by
    unfold pl.lineK
    rw [pl.idx_nl a b h, if_neg (by omega)]
    simp
  rw [hk]
  refine ⟨List.take_left, ?_⟩
  rw [← List.drop_drop, List.drop_left]; rfl

theorem pl.itext_cons (it : Item) (r : List Item) : pl.itext (it :: r) = it.1 ++ 10 :: pl.itext r := by
  simp [pl.itext]

theorem rl_next (g : Nat) (its : List Item) (ty : TypeId) (w : World) (hf : Blk w g #[.string ⟨(pl.itext its).toArray⟩] ty) (hnl : ∀ it ∈ its, (10 : UInt8) ∉ it.1) (hs : (pl.itext its).length ≤ 17592186044416) (hty : ty ≠ 9) :
    Calls Tryd.prog 83 #[.pointer (some ⟨g, 0, none⟩)] w fun e w' =>
      e = .returned (.tuple #[.string ⟨(pl.nx its).1.toArray⟩, .bool (pl.nx its).2.1]) ∧ Hid (Blk w' g #[.string ⟨(pl.itext (pl.nx its).2.2).toArray⟩] ty) ∧
      Hid (∀ B bh bi n H I X, TbE w B bh bi n H I X → TbE w' B bh bi n H I X) ∧ Hid (∀ B w1, Below B w1 w → B ≤ g → Below B w1 w') := by
  have hc : w.cell? ⟨g, 0, none⟩ = some (.string ⟨(pl.itext its).toArray⟩) := hf.cell 0
  match its, hf, hnl, hs, hc with
  | [], hf, _, _, hc =>
    refine (rl_empty g ⟨(pl.itext []).toArray⟩ w rfl hc).mono ?_
    rintro e w' ⟨rfl, rfl⟩
    exact ⟨rfl, Lib.hid hf, Lib.hid fun _ _ _ _ _ _ _ h => h, Lib.hid fun _ _ h _ => h⟩
  | it :: r, hf, hnl, hs, hc =>
    have hpos : 0 < (⟨(pl.itext (it :: r)).toArray⟩ : ByteArray).size := by
      show 0 < (pl.itext (it :: r)).length
      rw [pl.itext_cons]; simp; omega
    obtain ⟨h1, h2⟩ := pl.line_split it.1 (pl.itext r) (hnl it (by simp))
    rw [← pl.itext_cons] at h1 h2
    refine (rl_any g ⟨(pl.itext (it :: r)).toArray⟩ w hpos hs hc (hf.frozen 0)).mono ?_
    rintro e w' ⟨rfl, n, rfl⟩
    refine ⟨?_, Lib.hid ?_, Lib.hid fun B bh bi m H I X h => ?_, Lib.hid fun B w1 h hB => ?_⟩
    · show Ending.returned (.tuple #[.string ⟨((pl.itext (it :: r)).take (pl.lineK (pl.itext (it :: r)))).toArray⟩, .bool true]) = _
      rw [h1]; rfl
    · have h3 := (hf.set 0 (.string ⟨((pl.itext (it :: r)).drop (pl.lineK (pl.itext (it :: r)) + 1)).toArray⟩)).drewN n
      rw [h2] at h3
      show Blk ((w.setCell ⟨g, 0, none⟩ (.string ⟨((pl.itext (it :: r)).drop (pl.lineK (pl.itext (it :: r)) + 1)).toArray⟩)).drewN n) _ _ _
      rw [h2]
      exact h3
    · exact (h.cell hf hty _).below (below_drewN (Below.refl _ _) n)
    · exact below_drewN (h.setCell hB _) n

end Go.Proofs.YtfkohahlpfejbaaDoor
