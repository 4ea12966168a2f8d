/-
  WORDS FOR MEMORY: the two maps of a table of hosts.
-/
import Derived.Test.YtfkohahlpfejbaaDoorTab
namespace Go.Proofs.YtfkohahlpfejbaaDoor
open Go.RowKit

/-- the names of an address by its text -/
def pl.byAddr (l : HostL) (t : Key) : List (List UInt8) := l.flatMap (fun h => if pl.lit h.1 = t then h.2.map pl.absN else [])

abbrev HSt := Key → List (List UInt8) × Key
abbrev ISt := Key → List (List UInt8)
/-- what stands at a key of the first map: addresses and the canonical name -/
def wrapH (H : HSt) (k : Key) (v : Value) : Value := .agg #[v, .string ⟨(H k).2.toArray⟩]
def wrapI (_ : Key) (v : Value) : Value := v

/-- The maps bh, bi hold H, I; no row lies in a block of X. -/
structure Tb (w : World) (B bh bi n : Nat) (H : HSt) (I : ISt) (X : Nat → Prop) (fh fi : Key → Option Value) (gh gi : Key → Nat) : Prop where
  mh : MapF Tryd.prog 9 w bh n fh
  mi : MapF Tryd.prog 9 w bi n fi
  ne : bh ≠ bi
  ph : Grp w B fh (fun k => (H k).1) gh (wrapH H)
  pi : Grp w B fi I gi wrapI
  cr : ∀ k t, (H k).1 ≠ [] → I t ≠ [] → gh k ≠ gi t
  xh : ∀ k, (H k).1 ≠ [] → ¬ X (gh k)
  xi : ∀ t, I t ≠ [] → ¬ X (gi t)

def TbE (w : World) (B bh bi n : Nat) (H : HSt) (I : ISt) (X : Nat → Prop) : Prop := ∃ fh fi gh gi, Tb w B bh bi n H I X fh fi gh gi

theorem Grp.row {w : World} {B : Nat} {f : Key → Option Value} {L : Key → List (List UInt8)} {g : Key → Nat} {Wr : Key → Value → Value} (h : Grp w B f L g Wr) (k : Key) (hk : L k ≠ []) : ∃ cur, w.heap[g k]? = some (.cells cur 9 (0, 0)) := by
  obtain ⟨c, _, h2⟩ := h.yes k hk
  exact h2.at_row.2

theorem TbE.below {w w' : World} {B bh bi n : Nat} {H : HSt} {I : ISt} {X : Nat → Prop} (h : TbE w B bh bi n H I X) (hb : Below w.heap.size w w') : TbE w' B bh bi n H I X := by
  obtain ⟨fh, fi, gh, gi, h⟩ := h
  exact ⟨fh, fi, gh, gi, h.mh.below hb h.mh.lt, h.mi.below hb h.mi.lt, h.ne, h.ph.below hb, h.pi.below hb, h.cr, h.xh, h.xi⟩
theorem TbE.cell {w : World} {B bh bi n : Nat} {H : HSt} {I : ISt} {X : Nat → Prop} (h : TbE w B bh bi n H I X) {g o : Nat} {arr : Array Value} {ty : TypeId} (hk : Blk w g arr ty) (hty : ty ≠ 9) (v : Value) : TbE (w.setCell ⟨g, o, none⟩ v) B bh bi n H I X := by
  obtain ⟨fh, fi, gh, gi, h⟩ := h
  have far : ∀ g', g ≠ g' → (w.setCell ⟨g, o, none⟩ v).heap[g']? = w.heap[g']? := fun g' hne => setCell_far w g o g' v hne
  have nrow : ∀ {f : Key → Option Value} {L : Key → List (List UInt8)} {gg : Key → Nat} {Wr : Key → Value → Value} (hG : Grp w B f L gg Wr) k, L k ≠ [] → g ≠ gg k := fun hG k hk' e => by
    obtain ⟨cur, hh⟩ := hG.row k hk'
    unfold Blk at hk
    rw [← e, hk] at hh
    simp only [Option.some.injEq, Obj.cells.injEq] at hh
    exact hty hh.2.1
  have keep : ∀ {f : Key → Option Value} {L : Key → List (List UInt8)} {gg : Key → Nat} {Wr : Key → Value → Value}, Grp w B f L gg Wr → Grp (w.setCell ⟨g, o, none⟩ v) B f L gg Wr := fun hG =>
    ⟨hG.no, fun k hk' => by
      obtain ⟨c, h1, h2⟩ := hG.yes k hk'
      refine ⟨c, h1, ?_⟩
      refine ⟨h2.1, h2.2.imp id (fun ⟨g', cap, cur, e1, e2, e3, e4⟩ => ⟨g', cap, cur, e1, e2, ?_, e4⟩)⟩
      injection e1 with e1
      injection e1 with e1
      injection e1 with e1
      rw [far g' (by rw [← e1]; exact nrow hG k hk')]
      exact e3, hG.inj⟩
  exact ⟨fh, fi, gh, gi, h.mh.keep (far bh (h.mh.ne_row hk)), h.mi.keep (far bi (h.mi.ne_row hk)), h.ne, keep h.ph, keep h.pi, h.cr, h.xh, h.xi⟩
/-- new blocks may be avoided -/
theorem TbE.avoid {w w' : World} {B bh bi n : Nat} {H : HSt} {I : ISt} (h : TbE w B bh bi n H I (fun _ => False)) (hb : Below w.heap.size w w') : TbE w' B bh bi n H I (fun x => w.heap.size ≤ x) := by
  obtain ⟨fh, fi, gh, gi, h⟩ := h
  exact ⟨fh, fi, gh, gi, h.mh.below hb h.mh.lt, h.mi.below hb h.mi.lt, h.ne, h.ph.below hb, h.pi.below hb, h.cr, fun k hk => by have := h.ph.lt k hk; omega, fun t ht => by have := h.pi.lt t ht; omega⟩
theorem TbE.free {w : World} {B bh bi n : Nat} {H : HSt} {I : ISt} {X : Nat → Prop} (h : TbE w B bh bi n H I X) : TbE w B bh bi n H I (fun _ => False) := by
  obtain ⟨fh, fi, gh, gi, h⟩ := h
  exact ⟨fh, fi, gh, gi, h.mh, h.mi, h.ne, h.ph, h.pi, h.cr, fun _ _ => id, fun _ _ => id⟩
theorem TbE.less {w : World} {B bh bi n : Nat} {H : HSt} {I : ISt} {X Y : Nat → Prop} (h : TbE w B bh bi n H I X) (hXY : ∀ x, Y x → X x) : TbE w B bh bi n H I Y := by
  obtain ⟨fh, fi, gh, gi, h⟩ := h
  exact ⟨fh, fi, gh, gi, h.mh, h.mi, h.ne, h.ph, h.pi, h.cr, fun k hk hy => h.xh k hk (hXY _ hy), fun t ht hy => h.xi t ht (hXY _ hy)⟩
theorem TbE.mono {w : World} {B bh bi n n' : Nat} {H : HSt} {I : ISt} {X : Nat → Prop} (h : TbE w B bh bi n H I X) (hn : n ≤ n') : TbE w B bh bi n' H I X := by
  obtain ⟨fh, fi, gh, gi, h⟩ := h
  exact ⟨fh, fi, gh, gi, h.mh.mono hn, h.mi.mono hn, h.ne, h.ph, h.pi, h.cr, h.xh, h.xi⟩

/-- a name more at an address: behind the append and the store -/
theorem Tb.stepI {w0 w w' w'' : World} {B bh bi n : Nat} {H : HSt} {I : ISt} {X : Nat → Prop} {fh fi : Key → Option Value} {gh gi : Key → Nat} (h : Tb w0 B bh bi n H I X fh fi gh gi) (T : Key) (N : List UInt8) (c : Nat) (v' : Value)
    (hb : Below w0.heap.size w0 w) (hX : ∀ x, X x → x < w.heap.size)
    (hv : Strs w' B v' (I T ++ [N])) (hg : w.grownBy w' (Grp.val I gi T c).ownBlock) (hp : v'.ownBlock = (Grp.val I gi T c).ownBlock ∨ v'.ownBlock = some w.heap.size)
    (hm : MapF Tryd.prog 9 w'' bi (n + 1) (fun x => if x = T then some v' else fi x)) (hg2 : w'.grownBy w'' (some bi)) :
    TbE w'' B bh bi (n + 1) H (fun t => if t = T then I T ++ [N] else I t) X := by
  have hph := h.ph.below hb
  have hpi := h.pi.below hb
  have hmh := h.mh.below hb h.mh.lt
  have hmi := h.mi.below hb h.mi.lt
  obtain ⟨gK, hG, hpos⟩ := hpi.step (Wr' := wrapI) T c v' N hv hg hp (fun _ _ => rfl)
  have hrow : ∀ k, (H k).1 ≠ [] → some (gh k) ≠ (Grp.val I gi T c).ownBlock := fun k hk => by
    unfold Grp.val
    by_cases hT : I T = []
    · rw [if_pos hT]; simp [Value.ownBlock]
    · rw [if_neg hT]; simp only [Value.ownBlock, ne_eq, Option.some.injEq]; exact h.cr k T hk hT
  have hph1 := hph.other hg hrow
  have hmrow : ∀ b f m, MapF Tryd.prog 9 w b m f → some b ≠ (Grp.val I gi T c).ownBlock := fun b f m hM => by
    unfold Grp.val
    by_cases hT : I T = []
    · rw [if_pos hT]; simp [Value.ownBlock]
    · rw [if_neg hT]; simp only [Value.ownBlock, ne_eq, Option.some.injEq]
      obtain ⟨cur, hh⟩ := hpi.row T hT
      exact fun e => hM.ne_row hh e.symm
  have hmh1 := hmh.grown hg (hmrow _ _ _ hmh)
  have hmi1 := hmi.grown hg (hmrow _ _ _ hmi)
  have hn1 : ∀ {f : Key → Option Value} {L : Key → List (List UInt8)} {gg : Key → Nat} {Wr : Key → Value → Value}, Grp w' B f L gg Wr → ∀ k, L k ≠ [] → some (gg k) ≠ some bi := fun hG k hk e => by
    obtain ⟨cur, hh⟩ := hG.row k hk
    injection e with e
    exact hmi1.ne_row hh e
  have hne : I T ++ [N] ≠ [] := by simp
  refine ⟨fh, _, gh, _, (hmh1.grown hg2 (by intro e; injection e with e; exact h.ne e)).mono (Nat.le_succ _), hm, h.ne, hph1.other hg2 (hn1 hph1), hG.other hg2 (hn1 hG), fun k t hk ht => ?_, h.xh, fun t ht => ?_⟩
  · by_cases e : t = T
    · simp only [if_pos e]
      rcases hpos with ⟨h1, h2⟩ | h2
      · rw [h2]; exact h.cr k T hk h1
      · have := hph.lt k hk; omega
    · simp only [if_neg e] at ht ⊢
      exact h.cr k t hk ht
  · by_cases e : t = T
    · simp only [if_pos e]
      rcases hpos with ⟨h1, h2⟩ | h2
      · rw [h2]; exact h.xi T h1
      · rw [h2]; exact fun hx => by have := hX _ hx; omega
    · simp only [if_neg e] at ht ⊢
      exact h.xi t ht

/-- an address more at a name -/
theorem Tb.stepH {w0 w w' w'' : World} {B bh bi n : Nat} {H : HSt} {I : ISt} {X : Nat → Prop} {fh fi : Key → Option Value} {gh gi : Key → Nat} (h : Tb w0 B bh bi n H I X fh fi gh gi) (K : Key) (A C : List UInt8) (c : Nat) (v' : Value)
    (hb : Below w0.heap.size w0 w) (hX : ∀ x, X x → x < w.heap.size)
    (hv : Strs w' B v' ((H K).1 ++ [A])) (hg : w.grownBy w' (Grp.val (fun k => (H k).1) gh K c).ownBlock) (hp : v'.ownBlock = (Grp.val (fun k => (H k).1) gh K c).ownBlock ∨ v'.ownBlock = some w.heap.size)
    (hm : MapF Tryd.prog 9 w'' bh (n + 1) (fun x => if x = K then some (.agg #[v', .string ⟨C.toArray⟩]) else fh x)) (hg2 : w'.grownBy w'' (some bh)) :
    TbE w'' B bh bi (n + 1) (fun k => if k = K then ((H K).1 ++ [A], C) else H k) I X := by
  have hph := h.ph.below hb
  have hpi := h.pi.below hb
  have hmh := h.mh.below hb h.mh.lt
  have hmi := h.mi.below hb h.mi.lt
  obtain ⟨gK, hG, hpos⟩ := hph.step (Wr' := wrapH (fun k => if k = K then ((H K).1 ++ [A], C) else H k)) K c v' A hv hg hp (fun k hk => by unfold wrapH; simp only [if_neg hk])
  have hL : (fun x => if x = K then (H K).1 ++ [A] else (H x).1) = (fun k => (if k = K then ((H K).1 ++ [A], C) else H k).1) := by
    funext x
    by_cases e : x = K
    · simp [if_pos e]
    · simp [if_neg e]
  have hF : (fun x => if x = K then some (wrapH (fun k => if k = K then ((H K).1 ++ [A], C) else H k) K v') else fh x) = (fun x => if x = K then some (.agg #[v', .string ⟨C.toArray⟩]) else fh x) := by
    funext x
    by_cases e : x = K
    · simp [if_pos e, wrapH]
    · simp [if_neg e]
  rw [hL, hF] at hG
  have hrow : ∀ t, I t ≠ [] → some (gi t) ≠ (Grp.val (fun k => (H k).1) gh K c).ownBlock := fun t ht => by
    unfold Grp.val
    by_cases hT : (H K).1 = []
    · simp only [hT, if_pos]; simp [Value.ownBlock]
    · rw [if_neg hT]; simp only [Value.ownBlock, ne_eq, Option.some.injEq]; exact fun e => h.cr K t hT ht e.symm
  have hpi1 := hpi.other hg hrow
  have hmrow : ∀ b f m, MapF Tryd.prog 9 w b m f → some b ≠ (Grp.val (fun k => (H k).1) gh K c).ownBlock := fun b f m hM => by
    unfold Grp.val
    by_cases hT : (H K).1 = []
    · simp only [hT, if_pos]; simp [Value.ownBlock]
    · rw [if_neg hT]; simp only [Value.ownBlock, ne_eq, Option.some.injEq]
      obtain ⟨cur, hh⟩ := hph.row K hT
      exact fun e => hM.ne_row hh e.symm
  have hmh1 := hmh.grown hg (hmrow _ _ _ hmh)
  have hmi1 := hmi.grown hg (hmrow _ _ _ hmi)
  have hn1 : ∀ {f : Key → Option Value} {L : Key → List (List UInt8)} {gg : Key → Nat} {Wr : Key → Value → Value}, Grp w' B f L gg Wr → ∀ k, L k ≠ [] → some (gg k) ≠ some bh := fun hG k hk e => by
    obtain ⟨cur, hh⟩ := hG.row k hk
    injection e with e
    exact hmh1.ne_row hh e
  have hne : (H K).1 ++ [A] ≠ [] := by simp
  refine ⟨_, fi, _, gi, hm, (hmi1.grown hg2 (by intro e; injection e with e; exact h.ne e.symm)).mono (Nat.le_succ _), h.ne, hG.other hg2 (hn1 hG), hpi1.other hg2 (hn1 hpi1), fun k t hk ht => ?_, fun k hk => ?_, h.xi⟩
  · by_cases e : k = K
    · simp only [if_pos e]
      rcases hpos with ⟨h1, h2⟩ | h2
      · rw [h2]; exact h.cr K t h1 ht
      · have := hpi.lt t ht; omega
    · simp only [if_neg e] at hk ⊢
      exact h.cr k t hk ht
  · by_cases e : k = K
    · simp only [if_pos e]
      rcases hpos with ⟨h1, h2⟩ | h2
      · rw [h2]; exact h.xh K h1
      · rw [h2]; exact fun hx => by have := hX _ hx; omega
    · simp only [if_neg e] at hk ⊢
      exact h.xh k hk

end Go.Proofs.YtfkohahlpfejbaaDoor
