/-
  WORDS FOR MEMORY: a struct of twelve cells is stored as a whole.
-/
import Derived.Test.YtfkohahlpfejbaaDoorBlk
namespace Go.Proofs.YtfkohahlpfejbaaDoor
open Go.RowKit

theorem set12 {V : World} {g : Nat} {ty : TypeId} {x0 x1 x2 x3 x4 x5 x6 x7 x8 x9 x10 x11 y0 y1 y2 y3 y4 y5 y6 y7 y8 y9 y10 y11 : Value} (h : Blk V g #[y0, y1, y2, y3, y4, y5, y6, y7, y8, y9, y10, y11] ty) :
    Blk ((((((((((((V.setCell ⟨g, 0, none⟩ x0).setCell ⟨g, 1, none⟩ x1).setCell ⟨g, 2, none⟩ x2).setCell ⟨g, 3, none⟩ x3).setCell ⟨g, 4, none⟩ x4).setCell ⟨g, 5, none⟩ x5).setCell ⟨g, 6, none⟩ x6).setCell ⟨g, 7, none⟩ x7).setCell ⟨g, 8, none⟩ x8).setCell ⟨g, 9, none⟩ x9).setCell ⟨g, 10, none⟩ x10).setCell ⟨g, 11, none⟩ x11) g #[x0, x1, x2, x3, x4, x5, x6, x7, x8, x9, x10, x11] ty ∧ (∀ B w0, Below B w0 V → B ≤ g → Below B w0 ((((((((((((V.setCell ⟨g, 0, none⟩ x0).setCell ⟨g, 1, none⟩ x1).setCell ⟨g, 2, none⟩ x2).setCell ⟨g, 3, none⟩ x3).setCell ⟨g, 4, none⟩ x4).setCell ⟨g, 5, none⟩ x5).setCell ⟨g, 6, none⟩ x6).setCell ⟨g, 7, none⟩ x7).setCell ⟨g, 8, none⟩ x8).setCell ⟨g, 9, none⟩ x9).setCell ⟨g, 10, none⟩ x10).setCell ⟨g, 11, none⟩ x11)) ∧ (∀ B v l, Strs V B v l → g < B → Strs ((((((((((((V.setCell ⟨g, 0, none⟩ x0).setCell ⟨g, 1, none⟩ x1).setCell ⟨g, 2, none⟩ x2).setCell ⟨g, 3, none⟩ x3).setCell ⟨g, 4, none⟩ x4).setCell ⟨g, 5, none⟩ x5).setCell ⟨g, 6, none⟩ x6).setCell ⟨g, 7, none⟩ x7).setCell ⟨g, 8, none⟩ x8).setCell ⟨g, 9, none⟩ x9).setCell ⟨g, 10, none⟩ x10).setCell ⟨g, 11, none⟩ x11) B v l) := by
  have h1 : Blk (V.setCell ⟨g, 0, none⟩ x0) g #[x0, y1, y2, y3, y4, y5, y6, y7, y8, y9, y10, y11] ty := h.set 0 x0
  have h2 : Blk ((V.setCell ⟨g, 0, none⟩ x0).setCell ⟨g, 1, none⟩ x1) g #[x0, x1, y2, y3, y4, y5, y6, y7, y8, y9, y10, y11] ty := h1.set 1 x1
  have h3 : Blk (((V.setCell ⟨g, 0, none⟩ x0).setCell ⟨g, 1, none⟩ x1).setCell ⟨g, 2, none⟩ x2) g #[x0, x1, x2, y3, y4, y5, y6, y7, y8, y9, y10, y11] ty := h2.set 2 x2
  have h4 : Blk ((((V.setCell ⟨g, 0, none⟩ x0).setCell ⟨g, 1, none⟩ x1).setCell ⟨g, 2, none⟩ x2).setCell ⟨g, 3, none⟩ x3) g #[x0, x1, x2, x3, y4, y5, y6, y7, y8, y9, y10, y11] ty := h3.set 3 x3
  have h5 : Blk (((((V.setCell ⟨g, 0, none⟩ x0).setCell ⟨g, 1, none⟩ x1).setCell ⟨g, 2, none⟩ x2).setCell ⟨g, 3, none⟩ x3).setCell ⟨g, 4, none⟩ x4) g #[x0, x1, x2, x3, x4, y5, y6, y7, y8, y9, y10, y11] ty := h4.set 4 x4
  have h6 : Blk ((((((V.setCell ⟨g, 0, none⟩ x0).setCell ⟨g, 1, none⟩ x1).setCell ⟨g, 2, none⟩ x2).setCell ⟨g, 3, none⟩ x3).setCell ⟨g, 4, none⟩ x4).setCell ⟨g, 5, none⟩ x5) g #[x0, x1, x2, x3, x4, x5, y6, y7, y8, y9, y10, y11] ty := h5.set 5 x5
  have h7 : Blk (((((((V.setCell ⟨g, 0, none⟩ x0).setCell ⟨g, 1, none⟩ x1).setCell ⟨g, 2, none⟩ x2).setCell ⟨g, 3, none⟩ x3).setCell ⟨g, 4, none⟩ x4).setCell ⟨g, 5, none⟩ x5).setCell ⟨g, 6, none⟩ x6) g #[x0, x1, x2, x3, x4, x5, x6, y7, y8, y9, y10, y11] ty := h6.set 6 x6
  have h8 : Blk ((((((((V.setCell ⟨g, 0, none⟩ x0).setCell ⟨g, 1, none⟩ x1).setCell ⟨g, 2, none⟩ x2).setCell ⟨g, 3, none⟩ x3).setCell ⟨g, 4, none⟩ x4).setCell ⟨g, 5, none⟩ x5).setCell ⟨g, 6, none⟩ x6).setCell ⟨g, 7, none⟩ x7) g #[x0, x1, x2, x3, x4, x5, x6, x7, y8, y9, y10, y11] ty := h7.set 7 x7
  have h9 : Blk (((((((((V.setCell ⟨g, 0, none⟩ x0).setCell ⟨g, 1, none⟩ x1).setCell ⟨g, 2, none⟩ x2).setCell ⟨g, 3, none⟩ x3).setCell ⟨g, 4, none⟩ x4).setCell ⟨g, 5, none⟩ x5).setCell ⟨g, 6, none⟩ x6).setCell ⟨g, 7, none⟩ x7).setCell ⟨g, 8, none⟩ x8) g #[x0, x1, x2, x3, x4, x5, x6, x7, x8, y9, y10, y11] ty := h8.set 8 x8
  have h10 : Blk ((((((((((V.setCell ⟨g, 0, none⟩ x0).setCell ⟨g, 1, none⟩ x1).setCell ⟨g, 2, none⟩ x2).setCell ⟨g, 3, none⟩ x3).setCell ⟨g, 4, none⟩ x4).setCell ⟨g, 5, none⟩ x5).setCell ⟨g, 6, none⟩ x6).setCell ⟨g, 7, none⟩ x7).setCell ⟨g, 8, none⟩ x8).setCell ⟨g, 9, none⟩ x9) g #[x0, x1, x2, x3, x4, x5, x6, x7, x8, x9, y10, y11] ty := h9.set 9 x9
  have h11 : Blk (((((((((((V.setCell ⟨g, 0, none⟩ x0).setCell ⟨g, 1, none⟩ x1).setCell ⟨g, 2, none⟩ x2).setCell ⟨g, 3, none⟩ x3).setCell ⟨g, 4, none⟩ x4).setCell ⟨g, 5, none⟩ x5).setCell ⟨g, 6, none⟩ x6).setCell ⟨g, 7, none⟩ x7).setCell ⟨g, 8, none⟩ x8).setCell ⟨g, 9, none⟩ x9).setCell ⟨g, 10, none⟩ x10) g #[x0, x1, x2, x3, x4, x5, x6, x7, x8, x9, x10, y11] ty := h10.set 10 x10
  have h12 : Blk ((((((((((((V.setCell ⟨g, 0, none⟩ x0).setCell ⟨g, 1, none⟩ x1).setCell ⟨g, 2, none⟩ x2).setCell ⟨g, 3, none⟩ x3).setCell ⟨g, 4, none⟩ x4).setCell ⟨g, 5, none⟩ x5).setCell ⟨g, 6, none⟩ x6).setCell ⟨g, 7, none⟩ x7).setCell ⟨g, 8, none⟩ x8).setCell ⟨g, 9, none⟩ x9).setCell ⟨g, 10, none⟩ x10).setCell ⟨g, 11, none⟩ x11) g #[x0, x1, x2, x3, x4, x5, x6, x7, x8, x9, x10, x11] ty := h11.set 11 x11
  refine ⟨h12, ?_, ?_⟩
  · intro B w0 hb hg
    have b1 := hb.setCell (p := ⟨g, 0, none⟩) hg x0
    have b2 := b1.setCell (p := ⟨g, 1, none⟩) hg x1
    have b3 := b2.setCell (p := ⟨g, 2, none⟩) hg x2
    have b4 := b3.setCell (p := ⟨g, 3, none⟩) hg x3
    have b5 := b4.setCell (p := ⟨g, 4, none⟩) hg x4
    have b6 := b5.setCell (p := ⟨g, 5, none⟩) hg x5
    have b7 := b6.setCell (p := ⟨g, 6, none⟩) hg x6
    have b8 := b7.setCell (p := ⟨g, 7, none⟩) hg x7
    have b9 := b8.setCell (p := ⟨g, 8, none⟩) hg x8
    have b10 := b9.setCell (p := ⟨g, 9, none⟩) hg x9
    have b11 := b10.setCell (p := ⟨g, 10, none⟩) hg x10
    have b12 := b11.setCell (p := ⟨g, 11, none⟩) hg x11
    exact b12
  · intro B v l hs hg
    have s1 := hs.far g 0 x0 hg
    have s2 := s1.far g 1 x1 hg
    have s3 := s2.far g 2 x2 hg
    have s4 := s3.far g 3 x3 hg
    have s5 := s4.far g 4 x4 hg
    have s6 := s5.far g 5 x5 hg
    have s7 := s6.far g 6 x6 hg
    have s8 := s7.far g 7 x7 hg
    have s9 := s8.far g 8 x8 hg
    have s10 := s9.far g 9 x9 hg
    have s11 := s10.far g 10 x10 hg
    have s12 := s11.far g 11 x11 hg
    exact s12

end Go.Proofs.YtfkohahlpfejbaaDoor
