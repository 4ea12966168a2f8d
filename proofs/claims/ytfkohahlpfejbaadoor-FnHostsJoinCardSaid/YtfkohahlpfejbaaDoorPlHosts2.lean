/-
  PLAIN: a hosts file is a list of lines that the reader reads.
-/
import Derived.Test.YtfkohahlpfejbaaDoorPlHosts
namespace Go.Proofs.YtfkohahlpfejbaaDoor
open Go.RowKit

def pl.foldW (st : List (List UInt8) × List UInt8) (l : List UInt8) : List (List UInt8) × List UInt8 := l.foldl (pl.stepW pl.ws) st
theorem pl.foldW_app (st : List (List UInt8) × List UInt8) (a b : List UInt8) : pl.foldW st (a ++ b) = pl.foldW (pl.foldW st a) b := by simp [pl.foldW]
theorem pl.foldW_tok (t : List UInt8) : ∀ (W : List (List UInt8)) (c : List UInt8), (∀ b ∈ t, pl.ws b = false) → pl.foldW (W, c) t = (W, c ++ t) := by
  induction t with
  | nil => intro W c _; simp [pl.foldW]
  | cons b t ih =>
    intro W c h
    have h1 : pl.stepW pl.ws (W, c) b = (W, c ++ [b]) := by unfold pl.stepW; rw [if_neg (by rw [h b (by simp)]; simp)]
    show pl.foldW (pl.stepW pl.ws (W, c) b) t = _
    rw [h1, ih W (c ++ [b]) (fun x hx => h x (by simp [hx]))]
    simp
theorem pl.foldW_sep (s : List UInt8) : ∀ (W : List (List UInt8)), (∀ b ∈ s, pl.ws b = true) → pl.foldW (W, []) s = (W, []) := by
  induction s with
  | nil => intro W _; rfl
  | cons b s ih =>
    intro W h
    have h1 : pl.stepW pl.ws (W, []) b = (W, []) := by unfold pl.stepW; rw [if_pos (h b (by simp)), if_pos rfl]
    show pl.foldW (pl.stepW pl.ws (W, []) b) s = _
    rw [h1]; exact ih W (fun x hx => h x (by simp [hx]))
theorem pl.foldW_gap (b : UInt8) (s : List UInt8) (W : List (List UInt8)) (c : List UInt8) (hc : c ≠ []) (h : ∀ x ∈ b :: s, pl.ws x = true) : pl.foldW (W, c) (b :: s) = (W ++ [c], []) := by
  have h1 : pl.stepW pl.ws (W, c) b = (W ++ [c], []) := by unfold pl.stepW; rw [if_pos (h b (by simp)), if_neg hc]
  show pl.foldW (pl.stepW pl.ws (W, c) b) s = _
  rw [h1]; exact pl.foldW_sep s _ (fun x hx => h x (by simp [hx]))
theorem pl.gap_ws (g : Nat) : ∃ b s, pl.gapS g = b :: s ∧ ∀ x ∈ b :: s, pl.ws x = true := by
  match g with
  | 0 => exact ⟨32, [], rfl, by decide⟩
  | 1 => exact ⟨9, [], rfl, by decide⟩
  | n + 2 => exact ⟨32, [32, 9, 32], rfl, by decide⟩
theorem pl.foldW_names (g : Nat) : ∀ (pn : List (List UInt8)) (W : List (List UInt8)) (c : List UInt8), c ≠ [] → (∀ n ∈ pn, n ≠ [] ∧ ∀ b ∈ n, pl.ws b = false) → pl.foldW (W, c) (pl.hnames g pn ++ [32]) = (W ++ c :: pn, [])
  | [], W, c, hc, _ => by
    show pl.foldW (W, c) [32] = _
    rw [pl.foldW_gap 32 [] W c hc (by decide)]
  | n :: pn, W, c, hc, h => by
    obtain ⟨b, s, hb, hs⟩ := pl.gap_ws g
    have he : pl.hnames g (n :: pn) ++ [32] = pl.gapS g ++ (n ++ (pl.hnames g pn ++ [32])) := by simp [pl.hnames]
    rw [he, pl.foldW_app, hb, pl.foldW_gap b s W c hc hs, pl.foldW_app, pl.foldW_tok n _ _ (h n (by simp)).2, List.nil_append, pl.foldW_names g pn _ n (h n (by simp)).1 (fun x hx => h x (by simp [hx]))]
    simp
theorem pl.words_line (g : Nat) (pa : List UInt8) (pn : List (List UInt8)) (h0 : pa ≠ []) (h1 : ∀ b ∈ pa, pl.ws b = false) (h2 : ∀ n ∈ pn, n ≠ [] ∧ ∀ b ∈ n, pl.ws b = false) : pl.words pl.ws (pa ++ (pl.hnames g pn ++ [32])) = pa :: pn := by
  have h : pl.runW pl.ws (pa ++ (pl.hnames g pn ++ [32])) = (pa :: pn, []) := by
    show pl.foldW ([], []) _ = _
    rw [pl.foldW_app, pl.foldW_tok pa [] [] h1, List.nil_append, pl.foldW_names g pn [] pa h0 h2]
    rfl
  unfold pl.words
  rw [h]
  rfl

theorem pl.ws_in (b : UInt8) (h : pl.inB b) : pl.ws b = false := by
  unfold pl.inB at h
  unfold pl.ws
  have h1 : b ≠ 32 := fun e => h.1 (by rw [e]; rfl)
  have h2 : b ≠ 13 := fun e => h.2.1 (by rw [e]; rfl)
  have h3 : b ≠ 9 := fun e => h.2.2.1 (by rw [e]; rfl)
  have h4 : b ≠ 10 := fun e => h.2.2.2.1 (by rw [e]; rfl)
  simp [h1, h2, h3, h4]

theorem pl.idx_byte (c : UInt8) (a b : List UInt8) (h : c ∉ a) : pl.idx (a ++ c :: b) c.toNat = (a.length : Int) := by
  have hx : ∀ x ∈ a, pl.isB c.toNat x = false := fun x hx => by
    unfold pl.isB
    have hne : x ≠ c := fun e => h (e ▸ hx)
    have hn : x.toNat ≠ c.toNat := fun e => hne (UInt8.toNat_inj.1 e)
    simpa using (by omega : ¬ ((x.toNat : Int) = (c.toNat : Int)))
  have hf : (a ++ c :: b).findIdx? (pl.isB c.toNat) = some a.length := by
    rw [List.findIdx?_eq_some_iff_getElem]
    refine ⟨by simp, ?_, fun j hj => ?_⟩
    · rw [List.getElem_append_right (Nat.le_refl _)]
      simp [pl.isB]
    · rw [List.getElem_append_left hj, hx _ (List.getElem_mem hj)]
      simp
  unfold pl.idx
  rw [hf]

/-- the line of a host, without its end -/
def pl.lnOf (g : Nat) (h : List UInt8 × List (List UInt8)) : List UInt8 := h.1 ++ (pl.hnames g h.2 ++ [32]) ++ 35 :: [32, 99, 111, 109, 109, 101, 110, 116]
def pl.itsOf (g : Nat) (l : HostL) : List Item := ([35, 32, 104, 111, 115, 116, 115], none) :: ([], none) :: l.map (fun h => (pl.lnOf g h, some h))

theorem pl.itext_of (g : Nat) (l : HostL) : pl.itext (pl.itsOf g l) = pl.hosts g l := by
  unfold pl.itsOf pl.hosts
  rw [pl.itext_cons, pl.itext_cons]
  have h : pl.itext (l.map (fun h => (pl.lnOf g h, some h))) = l.flatMap (pl.hline g) := by
    unfold pl.itext
    rw [List.flatMap_map]
    congr 1
    funext h
    simp [pl.lnOf, pl.hline, pl.cmt]
  rw [h]
  rfl
theorem pl.ihosts_of (g : Nat) (l : HostL) : pl.ihosts (pl.itsOf g l) = l := by
  unfold pl.ihosts pl.itsOf
  rw [List.filterMap_cons_none rfl, List.filterMap_cons_none rfl, List.filterMap_map]
  have : ((fun x : Item => x.2) ∘ fun h => (pl.lnOf g h, some h)) = some := by funext h; rfl
  rw [this]
  simp

theorem pl.hnames_mem (g : Nat) (ns : List (List UInt8)) (b : UInt8) (hb : b ∈ pl.hnames g ns) : (∃ n ∈ ns, b ∈ n) ∨ b ∈ pl.gapS g := by
  unfold pl.hnames at hb
  obtain ⟨n, hn, hb⟩ := List.mem_flatMap.1 hb
  rcases List.mem_append.1 hb with hb | hb
  · exact .inr hb
  · exact .inl ⟨n, hn, hb⟩
theorem pl.gap_not (g : Nat) : (35 : UInt8) ∉ pl.gapS g ∧ (10 : UInt8) ∉ pl.gapS g := by
  match g with
  | 0 => decide
  | 1 => decide
  | n + 2 => exact ⟨by show (35 : UInt8) ∉ ([32, 32, 9, 32] : List UInt8); decide, by show (10 : UInt8) ∉ ([32, 32, 9, 32] : List UInt8); decide⟩
theorem pl.gap_len (g : Nat) : (pl.gapS g).length ≤ 4 := by
  match g with
  | 0 => decide
  | 1 => decide
  | n + 2 => show ([32, 32, 9, 32] : List UInt8).length ≤ 4; decide

theorem pl.lit_ne (p : List UInt8) (b : List UInt8) (h : pl.addr p = some b) : pl.lit p ≠ [] := by
  unfold pl.lit
  rw [h]
  intro e
  have h1 := pl.text_addr b (pl.addr_len _ _ h)
  exact pl.addr_ne _ _ h1 e

theorem pl.host_line (g : Nat) (h : List UInt8 × List (List UInt8)) (hok : pl.hostOk h = true) (hla : h.1.length ≤ 2147483647) (hln : ∀ q ∈ h.2, q.length ≤ 2147483647) : ItemOk (pl.lnOf g h, some h) := by
  obtain ⟨pa, pn⟩ := h
  obtain ⟨⟨b, hb⟩, hn0, hn20, hpl⟩ := pl.hostOk_parts pa pn hok
  have hA : ∀ x ∈ pa, pl.inB x := fun x hx => pl.ad_in x (pl.addr_ad pa b hb x hx)
  have hN : ∀ n ∈ pn, n ≠ [] ∧ ∀ x ∈ n, pl.inB x := fun n hn => by
    rw [List.all_eq_true] at hpl
    obtain ⟨h1, h2⟩ := pl.plain_ok n (hpl n hn)
    exact ⟨h1, fun x hx => pl.ok_in x (h2 x hx)⟩
  have hnot : ∀ c : UInt8, (c = 35 ∨ c = 10) → c ∉ pa ++ (pl.hnames g pn ++ [32]) := fun c hc hm => by
    have hin : ∀ x, pl.inB x → x ≠ c := fun x hx e => by
      unfold pl.inB at hx
      rcases hc with rfl | rfl
      · exact hx.2.2.2.2.1 (by rw [e]; rfl)
      · exact hx.2.2.2.1 (by rw [e]; rfl)
    rcases List.mem_append.1 hm with hm | hm
    · exact hin c (hA c hm) rfl
    · rcases List.mem_append.1 hm with hm | hm
      · rcases pl.hnames_mem g pn c hm with ⟨n, hn, hx⟩ | hx
        · exact hin c ((hN n hn).2 c hx) rfl
        · rcases hc with rfl | rfl
          · exact (pl.gap_not g).1 hx
          · exact (pl.gap_not g).2 hx
      · rcases hc with rfl | rfl
        · revert hm; decide
        · revert hm; decide
  have hidx : pl.idx (pl.lnOf g (pa, pn)) 35 = ((pa ++ (pl.hnames g pn ++ [32])).length : Int) := pl.idx_byte 35 (pa ++ (pl.hnames g pn ++ [32])) _ (hnot 35 (.inl rfl))
  have hstrip : pl.strip (pl.lnOf g (pa, pn)) = pa ++ (pl.hnames g pn ++ [32]) := by
    unfold pl.strip
    rw [hidx, if_neg (by omega)]
    show (pl.lnOf g (pa, pn)).take (pa ++ (pl.hnames g pn ++ [32])).length = _
    exact List.take_left
  have hwords : pl.words pl.ws (pl.strip (pl.lnOf g (pa, pn))) = pa :: pn := by
    rw [hstrip]
    exact pl.words_line g pa pn (pl.addr_ne pa b hb) (fun x hx => pl.ws_in x (hA x hx)) (fun n hn => ⟨(hN n hn).1, fun x hx => pl.ws_in x ((hN n hn).2 x hx)⟩)
  refine ⟨?_, ?_, fun e => (by cases e), fun h' e => ?_⟩
  · show (10 : UInt8) ∉ (pa ++ (pl.hnames g pn ++ [32])) ++ 35 :: [32, 99, 111, 109, 109, 101, 110, 116]
    intro hm
    rcases List.mem_append.1 hm with hm | hm
    · exact hnot 10 (.inr rfl) hm
    · revert hm; decide
  · show ((pa ++ (pl.hnames g pn ++ [32])) ++ 35 :: [32, 99, 111, 109, 109, 101, 110, 116]).length ≤ 4398046511104
    have h1 : (pl.hnames g pn).length ≤ pn.length * 2147483651 := pl.flat_len pn (fun n => pl.gapS g ++ n) 2147483651 fun n hn => by
      rw [List.length_append]
      have h1 := pl.gap_len g
      have h2 := hln n hn
      omega
    have h2 : pa.length ≤ 2147483647 := hla
    simp only [List.length_append, List.length_cons, List.length_nil]
    omega
  · injection e with e
    subst e
    exact ⟨by rw [hidx]; omega, hwords, hok, fun hm => (hA 37 hm).2.2.2.2.2 rfl, pl.lit_ne pa b hb, hla, hln⟩

theorem pl.its_ok (g : Nat) (l : HostL) (hok : l.all pl.hostOk = true) (hf : FitL l) : ∀ it ∈ pl.itsOf g l, ItemOk it := fun it hit => by
  unfold pl.itsOf at hit
  rcases List.mem_cons.1 hit with rfl | hit
  · exact ⟨by decide, by decide, fun _ => by decide, fun h e => by cases e⟩
  · rcases List.mem_cons.1 hit with rfl | hit
    · exact ⟨by decide, by decide, fun _ => by decide, fun h e => by cases e⟩
    · obtain ⟨h, hh, rfl⟩ := List.mem_map.1 hit
      rw [List.all_eq_true] at hok
      obtain ⟨k, hk, e⟩ := List.mem_iff_getElem.1 hh
      have := hf k h (by rw [List.getElem?_eq_getElem hk, e])
      exact pl.host_line g h (hok h hh) this.1 this.2

theorem pl.hosts_len (g : Nat) (l : HostL) (hok : l.all pl.hostOk = true) (hf : FitL l) (hl : l.length ≤ 100) : (pl.hosts g l).length ≤ 5000000000000 := by
  unfold pl.hosts
  rw [List.length_append]
  have h1 : (l.flatMap (pl.hline g)).length ≤ l.length * 49000000000 := pl.flat_len l (pl.hline g) 49000000000 fun h hh => by
    obtain ⟨k, hk, e⟩ := List.mem_iff_getElem.1 hh
    have h2 := hf k h (by rw [List.getElem?_eq_getElem hk, e])
    rw [List.all_eq_true] at hok
    obtain ⟨_, _, h20, _⟩ := pl.hostOk_parts h.1 h.2 (hok h hh)
    have h3 : (pl.hnames g h.2).length ≤ h.2.length * 2147483651 := pl.flat_len h.2 (fun n => pl.gapS g ++ n) 2147483651 fun n hn => by
      rw [List.length_append]
      have h1 := pl.gap_len g
      have h2 := h2.2 n hn
      omega
    unfold pl.hline
    have h4 : pl.cmt.length = 11 := rfl
    simp only [List.length_append]
    omega
  have h5 : pl.hhead.length = 9 := rfl
  omega

end Go.Proofs.YtfkohahlpfejbaaDoor
