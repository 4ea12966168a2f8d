/-
  THE BASE of the statements over net/netip, part 1 of 6: Pl, Byt, PlMac, PlNum, PlMac2, PlMac3, PlMask, And, IpMask, Idx, PlName, PlIsN, PlHost, PlHostLaw, PlIp.
-/
import Derived.Lib.Strings
import Derived.Lib.IndexBytes
import Derived.Test.YtfkohahlpfejbaaDoorRows
import Derived.WalkKit
import Derived.WalkSpells
import Derived.WalkLawsBesides
import Derived.OwnWalk
import Derived.Lib.Hide
import Derived.Lib.BufferRead
import Derived.Outline
import Derived.BigQuiet
import Derived.Laws.IdiomStrings
import Derived.Below
import Derived.Deep.AppendLies
import Derived.Deep.RegionHeld3
import Derived.Laws.BitsLemmas
import Derived.RegionTactic
import Derived.WalkSmall
import Derived.Deep.QuietTactic

/- Pl: PLAIN: functions on lists of bytes; nothing of the program. -/
namespace Go.Proofs.YtfkohahlpfejbaaDoor.pl

/-- is this byte the number c? -/
def isB (c : Int) (b : UInt8) : Bool := (b.toNat : Int) == c

/-- the first place of a byte, or -1 -/
def idx (l : List UInt8) (c : Int) : Int :=
  match l.findIdx? (isB c) with
  | some i => (i : Int)
  | none => -1

theorem take_succ (s : ByteArray) (k : Nat) (h : k < s.size) : s.data.toList.take (k + 1) = s.data.toList.take k ++ [s[k]] := by
  rw [List.take_succ_eq_append_getElem (by simpa using h)]; rfl

theorem getElem_data (s : ByteArray) (k : Nat) (h : k < s.size) : s.data.toList[k]? = some s[k] := by
  rw [List.getElem?_eq_getElem (by simpa using h)]; rfl

theorem idx_hit (s : ByteArray) (c : Int) (k : Nat) (h : k < s.size) (hn : ∀ x ∈ s.data.toList.take k, isB c x = false) (hk : ((s[k].toNat : Int) == c) = true) : idx s.data.toList c = k := by
  have : s.data.toList.findIdx? (isB c) = some k := by
    rw [List.findIdx?_eq_some_iff_getElem]
    refine ⟨by simpa using h, hk, fun j hj => ?_⟩
    have := hn (s.data.toList[j]'(by have : k < s.data.toList.length := by simpa using h
                                     omega)) (by
      rw [List.mem_take_iff_getElem]
      exact ⟨j, by have : k < s.data.toList.length := by simpa using h
                   omega, rfl⟩)
    simpa using this
  simp [idx, this]

theorem idx_miss (l : List UInt8) (c : Int) (hn : ∀ x ∈ l, isB c x = false) : idx l c = -1 := by
  have : l.findIdx? (isB c) = none := by
    rw [List.findIdx?_eq_none_iff]; exact hn
  simp [idx, this]

theorem none_succ (s : ByteArray) (c : Int) (k : Nat) (h : k < s.size) (hn : ∀ x ∈ s.data.toList.take k, isB c x = false) (hk : ((s[k].toNat : Int) == c) = false) : ∀ x ∈ s.data.toList.take (k + 1), isB c x = false := by
  rw [take_succ s k h]
  intro x hx
  rw [List.mem_append] at hx
  rcases hx with hx | hx
  · exact hn x hx
  · rw [List.mem_singleton] at hx
    subst hx
    exact hk

theorem none_all (s : ByteArray) (c : Int) (k : Nat) (h : s.size ≤ k) (hn : ∀ x ∈ s.data.toList.take k, isB c x = false) : ∀ x ∈ s.data.toList, isB c x = false := by
  rw [List.take_of_length_le (by simpa using h)] at hn
  exact hn

theorem ba_ext {a b : ByteArray} (h : a.data.toList = b.data.toList) : a = b := by
  obtain ⟨⟨a⟩⟩ := a
  obtain ⟨⟨b⟩⟩ := b
  simp at h
  rw [h]

/-- host and port by a colon, a host with a colon in brackets -/
def joined (h p : List UInt8) : List UInt8 := if 0 ≤ idx h 58 then 91 :: h ++ [93, 58] ++ p else h ++ [58] ++ p

/-- has the one a byte of the other? -/
def has (l m : List UInt8) : Bool := l.any (fun b => m.contains b)

theorem has_hit (s t : ByteArray) (i k : Nat) (hi : i < s.size) (hk : k < t.size) (h : ((s[i].toNat : Int) == (t[k].toNat : Int)) = true) : has s.data.toList t.data.toList = true := by
  have e : s[i] = t[k] := by
    have := beq_iff_eq.1 h
    exact UInt8.toNat_inj.1 (by omega)
  rw [has, List.any_eq_true]
  refine ⟨s[i], List.mem_of_getElem? (getElem_data s i hi), ?_⟩
  rw [e, List.contains_iff_mem]
  exact List.mem_of_getElem? (getElem_data t k hk)

theorem has_no (l m : List UInt8) (h : ∀ x ∈ l, x ∉ m) : has l m = false := by
  rw [has, List.any_eq_false]
  intro x hx
  rw [List.contains_iff_mem]
  exact h x hx

theorem nin_succ (t : ByteArray) (b : UInt8) (k : Nat) (hk : k < t.size) (hn : b ∉ t.data.toList.take k) (h : ((b.toNat : Int) == (t[k].toNat : Int)) = false) : b ∉ t.data.toList.take (k + 1) := by
  rw [take_succ t k hk, List.mem_append, List.mem_singleton]
  rintro (h1 | h1)
  · exact hn h1
  · rw [h1] at h
    simp at h

theorem all_succ (s : ByteArray) (P : UInt8 → Prop) (k : Nat) (hk : k < s.size) (hn : ∀ x ∈ s.data.toList.take k, P x) (h : P s[k]) : ∀ x ∈ s.data.toList.take (k + 1), P x := by
  intro x hx
  rw [take_succ s k hk, List.mem_append, List.mem_singleton] at hx
  rcases hx with h1 | h1
  · exact hn x h1
  · rw [h1]; exact h

theorem take_all (s : ByteArray) (k : Nat) (h : s.size ≤ k) : s.data.toList.take k = s.data.toList := List.take_of_length_le (by simpa using h)

theorem idx_ge (l : List UInt8) (c : UInt8) : (0 ≤ idx l c.toNat) ↔ c ∈ l := by
  unfold idx
  constructor
  · intro h
    cases hf : l.findIdx? (isB c.toNat) with
    | none => rw [hf] at h; simp at h
    | some i =>
      obtain ⟨hi, hp, _⟩ := List.findIdx?_eq_some_iff_getElem.1 hf
      have : l[i] = c := by
        have := beq_iff_eq.1 hp
        exact UInt8.toNat_inj.1 (by omega)
      rw [← this]
      exact List.getElem_mem hi
  · intro h
    cases hf : l.findIdx? (isB c.toNat) with
    | none =>
      rw [List.findIdx?_eq_none_iff] at hf
      have := hf c h
      simp [isB] at this
    | some i => simp

theorem has_one (l : List UInt8) (c : UInt8) : has l [c] = true ↔ c ∈ l := by
  rw [has, List.any_eq_true]
  constructor
  · rintro ⟨x, hx, h⟩
    simp at h
    rw [← h]; exact hx
  · intro h
    exact ⟨c, h, by simp⟩

theorem joined_yes (h p : List UInt8) (hh : has h [58] = true) : joined h p = 91 :: h ++ [93, 58] ++ p := by
  rw [joined, if_pos]
  exact (idx_ge h 58).2 ((has_one h 58).1 hh)

theorem joined_no (h p : List UInt8) (hh : has h [58] = false) : joined h p = h ++ [58] ++ p := by
  rw [joined, if_neg]
  intro hc
  rw [(has_one h 58).2 ((idx_ge h 58).1 hc)] at hh
  exact absurd hh (by decide)

/-- a name with a point in it gets one at its end -/
def absN (l : List UInt8) : List UInt8 := if has l [46] = true ∧ l.getLast? ≠ some 46 then l ++ [46] else l

theorem idx_ne (l : List UInt8) (c : UInt8) (k : Int) (hk : (c.toNat : Int) = k) : (idx l k != -1) = has l [c] := by
  subst hk
  have h1 := idx_ge l c
  have h2 := has_one l c
  have h3 : -1 ≤ idx l c.toNat := by unfold idx; split <;> omega
  rw [Bool.eq_iff_iff, bne_iff_ne, h2, ← h1]
  omega

theorem has_size (s : ByteArray) (c : UInt8) (h : has s.data.toList [c] = true) : 1 ≤ s.size := by
  have := (has_one _ _).1 h
  have h2 := List.length_pos_of_mem this
  have h3 : s.data.toList.length = s.size := by simp
  omega

theorem last_get (s : ByteArray) (h : 1 ≤ s.size) : s.data.toList.getLast? = some (s[s.size - 1]) := by
  rw [List.getLast?_eq_getElem?]
  have : s.data.toList.length = s.size := by simp
  rw [this]
  exact getElem_data s _ (by omega)

theorem absN_no (l : List UInt8) (h : has l [46] = false) : absN l = l := by
  rw [absN, if_neg (by rw [h]; simp)]

theorem absN_dot (s : ByteArray) (h : 1 ≤ s.size) (hl : ((s[s.size - 1].toNat : Int) != 46) = false) : absN s.data.toList = s.data.toList := by
  rw [absN, if_neg]
  rintro ⟨_, h2⟩
  rw [last_get s h] at h2
  apply h2
  congr 1
  apply UInt8.toNat_inj.1
  simp at hl
  have : (46 : UInt8).toNat = 46 := rfl
  omega

theorem absN_yes (s : ByteArray) (h : 1 ≤ s.size) (hh : has s.data.toList [46] = true) (hl : ((s[s.size - 1].toNat : Int) != 46) = true) : absN s.data.toList = s.data.toList ++ [46] := by
  rw [absN, if_pos]
  refine ⟨hh, ?_⟩
  rw [last_get s h]
  intro e
  injection e with e
  rw [e] at hl
  exact absurd hl (by decide)

theorem last_ne (s : ByteArray) (h : 1 ≤ s.size) (h4 : s.data.toList.getLast? ≠ some 46) : ((s[s.size - 1].toNat : Int) != 46) = true := by
  rw [bne_iff_ne]
  intro e
  apply h4
  rw [last_get s h]
  congr 1
  apply UInt8.toNat_inj.1
  have : (46 : UInt8).toNat = 46 := rfl
  omega

theorem last_eq (s : ByteArray) (h : 1 ≤ s.size) (h4 : s.data.toList.getLast? = some 46) : ((s[s.size - 1].toNat : Int) == 46) = true := by
  rw [last_get s h] at h4
  injection h4 with h4
  rw [h4]; rfl

/-- a letter made small -/
def lowB (b : UInt8) : UInt8 := if 65 ≤ b.toNat ∧ b.toNat ≤ 90 then b + 32 else b
def low (l : List UInt8) : List UInt8 := l.map lowB

theorem lowB_yes (b : UInt8) (h1 : 65 ≤ (b.toNat : Int)) (h2 : (b.toNat : Int) ≤ 90) : ((lowB b).toNat : Int) = (b.toNat : Int) + 97 - 65 := by
  rw [lowB, if_pos (by omega), UInt8.toNat_add]
  have : (32 : UInt8).toNat = 32 := rfl
  omega

theorem lowB_no (b : UInt8) (h : ¬ (65 ≤ (b.toNat : Int) ∧ (b.toNat : Int) ≤ 90)) : lowB b = b := by
  rw [lowB, if_neg (by omega)]

/-- the first k bytes by f, the others as they were -/
def part (f : UInt8 → UInt8) (l : List UInt8) (k : Nat) : List UInt8 := (l.take k).map f ++ l.drop k

theorem part_len (f : UInt8 → UInt8) (l : List UInt8) (k : Nat) : (part f l k).length = l.length := by
  simp [part]; omega

theorem part_zero (f : UInt8 → UInt8) (l : List UInt8) : part f l 0 = l := by simp [part]

theorem part_all (f : UInt8 → UInt8) (l : List UInt8) (k : Nat) (h : l.length ≤ k) : part f l k = l.map f := by
  simp [part, List.take_of_length_le h, List.drop_eq_nil_of_le h]

theorem part_at (f : UInt8 → UInt8) (s : ByteArray) (k : Nat) (h : k < s.size) : (part f s.data.toList k)[k]? = some s[k] := by
  have hl : s.data.toList.length = s.size := by simp
  rw [part, List.getElem?_append_right (by simp; omega)]
  have : k - ((s.data.toList.take k).map f).length = 0 := by simp; omega
  rw [this, List.getElem?_drop, Nat.add_zero]
  exact getElem_data s k h

theorem part_succ (f : UInt8 → UInt8) (s : ByteArray) (k : Nat) (h : k < s.size) : (part f s.data.toList k).set k (f s[k]) = part f s.data.toList (k + 1) := by
  have hl : s.data.toList.length = s.size := by simp
  have hd : s.data.toList.drop k = s[k] :: s.data.toList.drop (k + 1) := by
    rw [List.drop_eq_getElem_cons (by omega)]; rfl
  rw [part, part, take_succ s k h, List.set_append_right _ _ (by simp; omega), hd]
  have : k - ((s.data.toList.take k).map f).length = 0 := by simp; omega
  rw [this]
  simp

theorem part_same (f : UInt8 → UInt8) (s : ByteArray) (k : Nat) (h : k < s.size) (e : f s[k] = s[k]) : part f s.data.toList k = part f s.data.toList (k + 1) := by
  have hl : s.data.toList.length = s.size := by simp
  have hd : s.data.toList.drop k = s[k] :: s.data.toList.drop (k + 1) := by
    rw [List.drop_eq_getElem_cons (by omega)]; rfl
  rw [part, part, take_succ s k h, hd]
  simp [e]

/-- one byte of a split: what has been cut off, and what stands since the last cut -/
def stepS (c : Int) (a : List (List UInt8) × List UInt8) (b : UInt8) : List (List UInt8) × List UInt8 :=
  if isB c b then (a.1 ++ [a.2], []) else (a.1, a.2 ++ [b])
def runS (c : Int) (l : List UInt8) : List (List UInt8) × List UInt8 := l.foldl (stepS c) ([], [])
/-- the parts between places of a byte -/
def split (c : Int) (l : List UInt8) : List (List UInt8) := (runS c l).1 ++ [(runS c l).2]

theorem runS_snoc (c : Int) (l : List UInt8) (b : UInt8) : runS c (l ++ [b]) = stepS c (runS c l) b := by
  simp [runS]

theorem runS_succ (c : Int) (s : ByteArray) (k : Nat) (h : k < s.size) : runS c (s.data.toList.take (k + 1)) = stepS c (runS c (s.data.toList.take k)) s[k] := by
  rw [take_succ s k h, runS_snoc]

theorem runS_len (c : Int) (l : List UInt8) : (runS c l).1.length ≤ l.length := by
  have : ∀ (m : List UInt8) (a : List (List UInt8) × List UInt8), (m.foldl (stepS c) a).1.length ≤ a.1.length + m.length := by
    intro m
    induction m with
    | nil => intro a; simp
    | cons b m ih =>
      intro a
      rw [List.foldl_cons]
      have := ih (stepS c a b)
      have h2 : (stepS c a b).1.length ≤ a.1.length + 1 := by
        unfold stepS; split <;> simp
      simp only [List.length_cons]
      omega
  simpa [runS] using this l ([], [])

theorem size_mk (l : List UInt8) : (⟨l.toArray⟩ : ByteArray).size = l.length := rfl

theorem take_drop_succ (s : ByteArray) (f k : Nat) (hf : f ≤ k) (h : k < s.size) : (s.data.toList.take (k + 1)).drop f = (s.data.toList.take k).drop f ++ [s[k]] := by
  have hl : s.data.toList.length = s.size := by simp
  rw [take_succ s k h, List.drop_append_of_le_length (by rw [List.length_take]; omega)]

/-- a string as a value -/
def strV (l : List UInt8) : Value := .string ⟨l.toArray⟩

theorem extract_strV (s : ByteArray) (f k : Nat) : Value.string (s.extract f k) = strV ((s.data.toList.take k).drop f) := by
  rw [strV, Lib.extract_eq]
  congr 3
  rw [List.drop_take]

end Go.Proofs.YtfkohahlpfejbaaDoor.pl

/- Byt: WORDS FOR MEMORY: slices that read as bytes; rows of bytes that the call owns. -/
namespace Go.Proofs.YtfkohahlpfejbaaDoor
open Go.RowKit

theorem infoByte : (Tryd.prog.info? 5).map (fun i => (i.zero, i.size, i.bytes)) = some (some (.int .u8 0), 1, 1) := by kernel_rfl

def pl.byteV (b : UInt8) : Value := .int .u8 (b.toNat : Int)

/-- What a row's step says of a slice of integers that came in. -/
def IsRow (k : IntKind) (w : World) (a : Option Addr) (len cap : Nat) (zs : List Int) : Prop :=
  (a = none ∧ len = 0 ∧ cap = 0 ∧ zs = []) ∨
  ∃ x, a = some x ∧ len ≤ cap ∧ cap ≤ maxLen ∧ zs.length = cap ∧ (∀ i, i < zs.length → w.cell? (x.add i) = some (.int k (zs.getD i 0))) ∧ ∀ n ∈ zs, (Lit.int k n).wf = true

/-- The slice value v reads as the bytes l. -/
def Reads (w : World) (v : Value) (l : List UInt8) : Prop :=
  ∃ a cap, v = .slice a l.length cap ∧ l.length ≤ cap ∧ cap ≤ maxLen ∧ (a = none → cap = 0) ∧ ∀ k b, l[k]? = some b → ∃ g o, a = some ⟨g, o, none⟩ ∧ g < w.heap.size ∧ w.cell? ⟨g, o + k, none⟩ = some (pl.byteV b)

theorem below_cell {w w' : World} (hb : Below w.heap.size w w') (g o : Nat) (hg : g < w.heap.size) : w'.cell? ⟨g, o, none⟩ = w.cell? ⟨g, o, none⟩ := by
  simp only [World.cell?, hb.block g hg]

theorem Reads.below {w w' : World} {v : Value} {l : List UInt8} (h : Reads w v l) (hb : Below w.heap.size w w') : Reads w' v l := by
  obtain ⟨a, cap, hv, h1, h2, h0, h3⟩ := h
  refine ⟨a, cap, hv, h1, h2, h0, fun k b hk => ?_⟩
  obtain ⟨g, o, ha, hg, hc⟩ := h3 k b hk
  have := hb.size
  exact ⟨g, o, ha, by omega, by rw [below_cell hb g _ hg]; exact hc⟩

theorem Reads.of_row {w : World} {a : Option Addr} {len cap : Nat} {zs : List Int} (h : IsRow .u8 w a len cap zs) : ∃ l : List UInt8, l.length = len ∧ Reads w (.slice a len cap) l := by
  rcases h with ⟨rfl, rfl, rfl, rfl⟩ | ⟨x, rfl, hl, hm, hz, hc, hw⟩
  · exact ⟨[], rfl, none, 0, rfl, Nat.le_refl _, Nat.zero_le _, fun _ => rfl, fun k b hk => by simp at hk⟩
  · have hlen : ((zs.take len).map (fun z => UInt8.ofNat z.toNat)).length = len := by simp; omega
    refine ⟨(zs.take len).map (fun z => UInt8.ofNat z.toNat), hlen, some x, cap, by rw [hlen], by rw [hlen]; exact hl, hm, (fun h => by simp at h), ?_⟩
    intro k b hk
    have hk' : k < len := by
      have := (List.getElem?_eq_some_iff.1 hk).1
      rwa [hlen] at this
    have hkz : k < zs.length := by omega
    obtain ⟨g, o, spot⟩ := x
    have hcell := hc k hkz
    have hspot : spot = none := by simpa [Addr.add] using World.cell?_spot (hc 0 (by omega))
    subst hspot
    rw [Addr.add_lit] at hcell
    refine ⟨g, o, rfl, ?_, ?_⟩
    · rcases Nat.lt_or_ge g w.heap.size with h | h
      · exact h
      · simp [World.cell?, Array.getElem?_eq_none h] at hcell
    · rw [hcell]
      have hwf := hw (zs.getD k 0) (by rw [List.getD_eq_getElem?_getD, List.getElem?_eq_getElem hkz]; exact List.getElem_mem hkz)
      have he : zs.getD k 0 = zs[k] := by rw [List.getD_eq_getElem?_getD, List.getElem?_eq_getElem hkz]; rfl
      rw [he] at hwf ⊢
      have hb : UInt8.ofNat zs[k].toNat = b := by
        rw [List.getElem?_map, List.getElem?_take, if_pos hk', List.getElem?_eq_getElem hkz] at hk
        simpa using hk
      have hr : 0 ≤ zs[k] ∧ zs[k] < 256 := by
        have := hwf
        simp [Lit.wf, IntKind.min, IntKind.max, IntKind.bits, IntKind.signed] at this
        omega
      rw [← hb]
      show some (Value.int .u8 zs[k]) = some (Value.int .u8 ((UInt8.ofNat zs[k].toNat).toNat : Int))
      have : ((UInt8.ofNat zs[k].toNat).toNat : Int) = zs[k] := by simp; omega
      rw [this]

/-- The slice value v owns the bytes l, from block B on. -/
def Byts (w : World) (B : Nat) (v : Value) (l : List UInt8) : Prop := w.ownsRow B 5 1 v l.length (l.map pl.byteV)

theorem Byts.nil (w : World) (B : Nat) : Byts w B (.slice none 0 0) [] := World.ownsRow_nil _ _ _ _

theorem Byts.below {w w' : World} {B : Nat} {v : Value} {l : List UInt8} (h : Byts w B v l) (hb : Below w.heap.size w w') : Byts w' B v l :=
  World.ownsRow.kept (row := none) h ⟨hb.os, hb.tape, hb.output, hb.size, fun k hk _ => hb.block k hk⟩ (by cases v.ownBlock <;> simp)

theorem Byts.reads {w : World} {B : Nat} {v : Value} {l : List UInt8} (h : Byts w B v l) : Reads w v l := by
  have h0 := h
  rcases h.2 with ⟨rfl, hn⟩ | ⟨g, cap, cur, rfl, hg, hh, hnc, hcm, _⟩
  · exact ⟨none, 0, by rw [hn], by omega, Nat.zero_le _, fun _ => rfl, fun k b hk => by
      have : l = [] := List.eq_nil_of_length_eq_zero hn
      rw [this] at hk
      simp at hk⟩
  · refine ⟨_, cap, rfl, hnc, hcm, (fun h => by simp at h), ?_⟩
    intro k b hk
    have hc := World.ownsRow.cells h0 (g := g) rfl k (pl.byteV b) (by simp [hk])
    rw [Addr.add_lit] at hc
    exact ⟨g, 0, rfl, (Array.getElem?_eq_some_iff.1 hh).1, hc⟩

theorem Byts.mono {w : World} {B B' : Nat} {v : Value} {l : List UInt8} (h : Byts w B v l) (hb : B' ≤ B) : Byts w B' v l :=
  ⟨h.1, h.2.imp id (fun ⟨g, cap, cur, h1, h2, h3⟩ => ⟨g, cap, cur, h1, Nat.le_trans hb h2, h3⟩)⟩

/-- An owned row at its head: a store, and what the walk asks ahead of it. -/
theorem Byts.set {w : World} {B g n cap : Nat} {l : List UInt8} (h : Byts w B (.slice (some ⟨g, 0, none⟩) n cap) l) (hl : l.length = n) (j : Nat) (u : UInt8) :
    Byts (w.setCell ⟨g, j, none⟩ (.int .u8 (u.toNat : Int))) B (.slice (some ⟨g, 0, none⟩) n cap) (l.set j u) := by
  subst hl
  have := (World.ownsRow.stored h j (pl.byteV u)).1
  unfold Byts
  rw [List.map_set, List.length_set]
  exact this

theorem Byts.cell {w : World} {B g n cap : Nat} {l : List UInt8} (h : Byts w B (.slice (some ⟨g, 0, none⟩) n cap) l) (hl : l.length = n) (j : Nat) (hj : j < n) : ∃ x, w.cell? ⟨g, j, none⟩ = some x := by
  subst hl
  have := World.ownsRow.cellAt h j (by simpa using hj)
  rw [this]
  exact ⟨pl.byteV l[j], by rw [List.getElem?_map, List.getElem?_eq_getElem hj]; rfl⟩

theorem Byts.frozen {w : World} {B g n cap : Nat} {l : List UInt8} (h : Byts w B (.slice (some ⟨g, 0, none⟩) n cap) l) (hl : l.length = n) (j : Nat) : w.frozen? ⟨g, j, none⟩ = false := by
  subst hl
  exact World.ownsRow.frozenAt h j

theorem Byts.drew {w : World} {B : Nat} {v : Value} {l : List UInt8} (h : Byts w B v l) : Byts w.drew B v l := h

theorem Byts.made {w : World} {B g n : Nat} (h : w.ownsRow B 5 1 (.slice (some ⟨g, 0, none⟩) n n) n (madeCells (Value.int .u8 0).cells (n * 1)).toList) : Byts w B (.slice (some ⟨g, 0, none⟩) n n) (List.replicate n 0) := by
  unfold Byts
  rw [List.length_replicate, List.map_replicate]
  have e : (madeCells (Value.int .u8 0).cells (n * 1)).toList = List.replicate n (Value.int .u8 0) := by
    rw [Nat.mul_one]; exact toList_madeCells_one _ _
  rw [e] at h; exact h

/-- 'string(b)'. -/
theorem conv_back {P : Program} {w : World} {v : Value} {l : List UInt8} (src dst e : TypeId) (hs : P.underlying src = some (.slice e)) (he : P.underlying e = some (.int .u8)) (hd : P.underlying dst = some .string) (h : Reads w v l) :
    (convert src dst v).run P w = .ok (.string ⟨l.toArray⟩) w := by
  obtain ⟨a, cap, rfl, h1, h2, h0, h3⟩ := h
  rcases a with _ | x
  · have hl : l = [] := List.eq_nil_of_length_eq_zero (by have := h0 rfl; omega)
    subst hl
    exact Lib.run_convert_nil_bytes w src dst e cap hs he hd
  · refine run_convert_bytes_back w src dst e x cap l hs he hd (fun j hj => ?_)
    obtain ⟨g, o, ha, _, hc⟩ := h3 j _ (List.getElem?_eq_getElem hj)
    injection ha with ha
    subst ha
    rw [Addr.add_lit]
    exact hc

/-- 'out = append(out, b)' of one byte. -/
theorem app_byte {ops : Array Oper} {rest : List Oper} {o : Oper} {a : Act} {Q : Exit → Act → World → Prop} {w wr : World} {v : Value} {l : List UInt8} {x : Value} (b : UInt8) (t : TypeId) (hu : Tryd.prog.underlying t = some (.slice 5))
    (hgd : o.guard = none) (s y : Operand) (ho : o.op = .call { callee := .builtin .append, args := #[s, y], argTypes := #[t, t] })
    (hs : a.eval s = v) (B : Nat) (hown : Byts wr B v l) (hy : a.eval y = .slice (some ⟨wr.heap.size, 0, none⟩) 1 1) (hp : x = pl.byteV b) (hlen : l.length < 70368744177664) (hb : Below B w wr) (hB : B ≤ w.heap.size)
    (h : ∀ v' w', Byts w' B v' (l ++ [b]) → Below B w w' → wpList Tryd.prog ops Q rest (a.put o.dst v') w') : wpList Tryd.prog ops Q (o :: rest) a (wr.alloc (.cells #[x] 5)) := by
  obtain ⟨i0, hi, hz0, hz1, hz2⟩ := info_parts infoByte
  have hsz := hb.size
  refine wpList_append_own _ hgd s y t ho B 5 i0 (.int .u8 0) 1 1 hu hi hz0 hz1 hz2 rfl (by decide) v l.length (l.map pl.byteV) hs (World.ownsRow.alloc hown _) ⟨wr.heap.size, 0, none⟩ 1 1 [x] hy rfl (cell_one_new _ _ _) ?_ ?_ ?_ ?_ ?_
  · intro u hu
    rw [List.mem_singleton] at hu
    subst hu
    rw [hp]
    rfl
  · unfold maxLen; omega
  · omega
  · simp; omega
  · intro v' w' h1 h2 _
    refine h v' w' ?_ ?_
    · subst hp
      unfold Byts
      rw [List.length_append, List.map_append]
      exact h1
    · have hb2 : Below B w (wr.alloc (.cells #[x] 5)) := hb.alloc (by omega) _
      exact hb2.grown h2 (by simp; omega) (fun k hk => ((World.ownsRow.lt hown) k hk).1)

end Go.Proofs.YtfkohahlpfejbaaDoor

/- PlMac: PLAIN: the text of an address of hardware. -/
namespace Go.Proofs.YtfkohahlpfejbaaDoor

def pl.hx (n : Nat) : UInt8 := if n < 10 then UInt8.ofNat (48 + n) else UInt8.ofNat (87 + n)

def pl.macP (b : UInt8) : List UInt8 := [pl.hx (b.toNat / 16), pl.hx (b.toNat % 16)]
def pl.macT (l : List UInt8) : List UInt8 := (l.flatMap (fun b => 58 :: pl.macP b)).drop 1

theorem pl.macT_zero (l : List UInt8) : pl.macT (l.take 0) = [] := rfl

theorem pl.macT_first (l : List UInt8) (b : UInt8) (h : l[0]? = some b) : pl.macT (l.take 1) = pl.macP b := by
  cases l with
  | nil => simp at h
  | cons x t => simp at h; subst h; simp [pl.macT]

theorem pl.macT_succ (l : List UInt8) (k : Nat) (b : UInt8) (h : l[k]? = some b) (hk : 0 < k) : pl.macT (l.take (k + 1)) = pl.macT (l.take k) ++ [58] ++ pl.macP b := by
  have e : l.take (k + 1) = l.take k ++ [b] := by
    rw [List.take_add_one, h]; rfl
  have hne : l.take k ≠ [] := by
    cases l with
    | nil => simp at h
    | cons x t => cases k with
      | zero => omega
      | succ k => simp
  rw [e]
  unfold pl.macT
  cases hh : l.take k with
  | nil => exact absurd hh hne
  | cons x t => simp [List.flatMap_append]

theorem pl.macT_len (l : List UInt8) : (pl.macT l).length ≤ 3 * l.length := by
  unfold pl.macT
  have : (l.flatMap (fun b => 58 :: pl.macP b)).length = 3 * l.length := by
    induction l with
    | nil => rfl
    | cons b t ih => rw [List.flatMap_cons, List.length_append, ih]; simp [pl.macP]; omega
  rw [List.length_drop, this]; omega

def pl.hexd : ByteArray := { data := #[48, 49, 50, 51, 52, 53, 54, 55, 56, 57, 97, 98, 99, 100, 101, 102] }

theorem pl.hx_slice (n : Nat) (h : n < 16) : (pl.hexd.extract n (n + 1)).data.toList = [pl.hx n] := by
  have : ∀ n : Fin 16, (pl.hexd.extract n.val (n.val + 1)).data.toList = [pl.hx n.val] := by decide
  exact this ⟨n, h⟩

theorem pl.hx_at (n : Nat) (h : n < pl.hexd.size) : pl.hexd[n] = pl.hx n := by
  have : ∀ n : Fin 16, ∀ h : n.val < pl.hexd.size, pl.hexd[n.val] = pl.hx n.val := by decide
  exact this ⟨n, h⟩ h

theorem pl.hwt_step (S : ByteArray) (b : UInt8) (t : List UInt8) (hS : S.data.toList = t) :
    (S ++ (pl.hexd.extract (b.toNat / 16) (b.toNat / 16 + 1) ++ pl.hexd.extract (b.toNat % 16) (b.toNat % 16 + 1))).data.toList = t ++ pl.macP b := by
  have := UInt8.toNat_lt b
  rw [ByteArray.data_append, ByteArray.data_append, Array.toList_append, Array.toList_append, hS, pl.hx_slice _ (by omega), pl.hx_slice _ (by omega)]
  rfl

theorem pl.colon (S : ByteArray) (t : List UInt8) (hS : S.data.toList = t) : (S ++ { data := #[58] }).data.toList = t ++ [58] := by
  rw [ByteArray.data_append, Array.toList_append, hS]

end Go.Proofs.YtfkohahlpfejbaaDoor

/- PlNum: PLAIN: decimal and hexadecimal numbers. -/
namespace Go.Proofs.YtfkohahlpfejbaaDoor.pl

def dg (b : UInt8) : Bool := decide (48 ≤ b.toNat) && decide (b.toNat ≤ 57)
/-- the number that digits tell, on from n -/
def decV (n : Nat) (l : List UInt8) : Nat := l.foldl (fun n b => n * 10 + (b.toNat - 48)) n
/-- 1 to 9 digits -/
def decimal (l : List UInt8) : Option Nat := if l.all dg = true ∧ 1 ≤ l.length ∧ l.length ≤ 9 then some (decV 0 l) else none

theorem decV_snoc (n : Nat) (l : List UInt8) (b : UInt8) : decV n (l ++ [b]) = decV n l * 10 + (b.toNat - 48) := by simp [decV]
theorem decV_cons (n : Nat) (b : UInt8) (l : List UInt8) : decV n (b :: l) = decV (n * 10 + (b.toNat - 48)) l := by unfold decV; rw [List.foldl_cons]

theorem dg_int (b : UInt8) : dg b = true ↔ 48 ≤ (b.toNat : Int) ∧ (b.toNat : Int) ≤ 57 := by
  unfold dg; simp only [Bool.and_eq_true, decide_eq_true_eq]; omega

theorem decV_lt (l : List UInt8) (h : l.all dg = true) : decV 0 l < 10 ^ l.length := by
  have : ∀ (l : List UInt8) (n m : Nat), l.all dg = true → n < 10 ^ m → decV n l < 10 ^ (m + l.length) := by
    intro l
    induction l with
    | nil => intro n m _ h; simpa [decV] using h
    | cons b l ih =>
      intro n m h hn
      rw [List.all_cons, Bool.and_eq_true] at h
      have hb := (dg_int b).1 h.1
      rw [decV_cons]
      have := ih (n * 10 + (b.toNat - 48)) (m + 1) h.2 (by rw [Nat.pow_succ]; omega)
      rw [List.length_cons]
      rw [show m + (l.length + 1) = m + 1 + l.length by omega]
      exact this
  have h2 := this l 0 0 h (by simp)
  simpa using h2

theorem decV_bound (l : List UInt8) (h : l.all dg = true) (hl : l.length ≤ 9) : decV 0 l ≤ 999999999 := by
  have h1 := decV_lt l h
  have h2 : 10 ^ l.length ≤ 10 ^ 9 := Nat.pow_le_pow_right (by omega) hl
  have : (10 : Nat) ^ 9 = 1000000000 := by decide
  omega

theorem decimal_bound (l : List UInt8) (n : Nat) (h : decimal l = some n) : n ≤ 999999999 := by
  unfold decimal at h
  split at h
  · rename_i hc
    injection h with h
    rw [← h]
    exact decV_bound l hc.1 hc.2.2
  · cases h

theorem all_dg_succ (s : ByteArray) (k : Nat) (h : k < s.size) (hd : (s.data.toList.take k).all dg = true) (hb : dg s[k] = true) : (s.data.toList.take (k + 1)).all dg = true := by
  rw [take_succ s k h, List.all_append, hd]; simp [hb]

theorem dg_not (s : ByteArray) (k : Nat) (h : k < s.size) (hb : dg s[k] = false) : decimal s.data.toList = none := by
  unfold decimal
  rw [if_neg]
  rintro ⟨ha, _⟩
  rw [List.all_eq_true] at ha
  have := ha _ (List.mem_of_getElem? (getElem_data s k h))
  rw [this] at hb
  cases hb

/-- the package's dtoi: what stands, the number so far, how many digits so far -/
def dt : List UInt8 → Nat → Nat → Nat × Nat × Bool
  | [], n, i => if i = 0 then (0, 0, false) else (n, i, true)
  | b :: r, n, i => if dg b = true then (if 16777215 ≤ n * 10 + (b.toNat - 48) then (16777215, i, false) else dt r (n * 10 + (b.toNat - 48)) (i + 1)) else if i = 0 then (0, 0, false) else (n, i, true)

theorem drop_cons' (s : ByteArray) (k : Nat) (h : k < s.size) : s.data.toList.drop k = s[k] :: s.data.toList.drop (k + 1) := by
  have hl : s.data.toList.length = s.size := by simp
  rw [List.drop_eq_getElem_cons (by omega)]; rfl

theorem decV_ge (l : List UInt8) : ∀ n, n ≤ decV n l := by
  induction l with
  | nil => intro n; exact Nat.le_refl _
  | cons b l ih => intro n; rw [decV_cons]; have := ih (n * 10 + (b.toNat - 48)); omega

theorem dt_app (ds rest : List UInt8) : ∀ n i, ds.all dg = true → decV n ds < 16777215 → dt (ds ++ rest) n i = dt rest (decV n ds) (i + ds.length) := by
  induction ds with
  | nil => intro n i _ _; rfl
  | cons b ds ih =>
    intro n i h hv
    rw [List.all_cons, Bool.and_eq_true] at h
    rw [decV_cons] at hv
    have h2 := decV_ge ds (n * 10 + (b.toNat - 48))
    rw [List.cons_append, dt, if_pos h.1, if_neg (by omega), ih _ _ h.2 hv, decV_cons, List.length_cons]
    congr 1
    omega

theorem dt_stop (rest : List UInt8) (n i : Nat) (hi : i ≠ 0) (hr : ∀ b, rest.head? = some b → dg b = false) : dt rest n i = (n, i, true) := by
  cases rest with
  | nil => show (if i = 0 then _ else _) = _; rw [if_neg hi]
  | cons b r =>
    show (if dg b = true then _ else _) = _
    rw [if_neg (by rw [hr b rfl]; simp), if_neg hi]

/-- the decimal number ahead of a text -/
theorem dec_law (ds rest : List UInt8) (n : Nat) (h : decimal ds = some n) (hn : n < 16777215) (hr : ∀ b, rest.head? = some b → dg b = false) : dt (ds ++ rest) 0 0 = (n, ds.length, true) := by
  unfold decimal at h
  split at h
  · rename_i hc
    injection h with h
    rw [dt_app ds rest 0 0 hc.1 (by omega), dt_stop _ _ _ (by omega) hr, h]
    simp
  · cases h

/-- the value of a hexadecimal digit -/
def hexv (b : UInt8) : Option Nat :=
  if 48 ≤ b.toNat ∧ b.toNat ≤ 57 then some (b.toNat - 48) else if 97 ≤ b.toNat ∧ b.toNat ≤ 102 then some (b.toNat - 87) else if 65 ≤ b.toNat ∧ b.toNat ≤ 70 then some (b.toNat - 55) else none

theorem hexv_lt (b : UInt8) (d : Nat) (h : hexv b = some d) : d < 16 := by
  unfold hexv at h
  repeat' split at h
  all_goals (first | (injection h with h; omega) | cases h)

open Go.RowKit in
theorem hexv_cases (b : UInt8) :
    ((Hid ((((hexv b).getD 0 : Nat) : Int) = (b.toNat : Int) - 48) ∧ Hid ((hexv b).isSome = true)) ∧ 48 ≤ (b.toNat : Int) ∧ (b.toNat : Int) ≤ 57) ∨
    ((Hid ((((hexv b).getD 0 : Nat) : Int) = (b.toNat : Int) - 97 + 10) ∧ Hid ((hexv b).isSome = true)) ∧ 97 ≤ (b.toNat : Int) ∧ (b.toNat : Int) ≤ 102) ∨
    ((Hid ((((hexv b).getD 0 : Nat) : Int) = (b.toNat : Int) - 65 + 10) ∧ Hid ((hexv b).isSome = true)) ∧ 65 ≤ (b.toNat : Int) ∧ (b.toNat : Int) ≤ 70) ∨
    ((Hid ((((hexv b).getD 0 : Nat) : Int) = 0) ∧ Hid ((hexv b).isSome = false)) ∧ (b.toNat : Int) < 48) ∨
    ((Hid ((((hexv b).getD 0 : Nat) : Int) = 0) ∧ Hid ((hexv b).isSome = false)) ∧ 57 < (b.toNat : Int) ∧ (b.toNat : Int) < 65) ∨
    ((Hid ((((hexv b).getD 0 : Nat) : Int) = 0) ∧ Hid ((hexv b).isSome = false)) ∧ 70 < (b.toNat : Int) ∧ (b.toNat : Int) < 97) ∨
    ((Hid ((((hexv b).getD 0 : Nat) : Int) = 0) ∧ Hid ((hexv b).isSome = false)) ∧ 102 < (b.toNat : Int)) := by
  unfold Hid hexv
  by_cases h1 : b.toNat < 48
  · rw [if_neg (by omega), if_neg (by omega), if_neg (by omega)]
    exact Or.inr (Or.inr (Or.inr (Or.inl ⟨⟨rfl, rfl⟩, by omega⟩)))
  by_cases h2 : b.toNat ≤ 57
  · rw [if_pos (by omega)]
    exact Or.inl ⟨⟨by rw [Option.getD_some]; omega, rfl⟩, by omega, by omega⟩
  by_cases h3 : b.toNat < 65
  · rw [if_neg (by omega), if_neg (by omega), if_neg (by omega)]
    exact Or.inr (Or.inr (Or.inr (Or.inr (Or.inl ⟨⟨rfl, rfl⟩, by omega, by omega⟩))))
  by_cases h4 : b.toNat ≤ 70
  · rw [if_neg (by omega), if_neg (by omega), if_pos (by omega)]
    exact Or.inr (Or.inr (Or.inl ⟨⟨by rw [Option.getD_some]; omega, rfl⟩, by omega, by omega⟩))
  by_cases h5 : b.toNat < 97
  · rw [if_neg (by omega), if_neg (by omega), if_neg (by omega)]
    exact Or.inr (Or.inr (Or.inr (Or.inr (Or.inr (Or.inl ⟨⟨rfl, rfl⟩, by omega, by omega⟩)))))
  by_cases h6 : b.toNat ≤ 102
  · rw [if_neg (by omega), if_pos (by omega)]
    exact Or.inr (Or.inl ⟨⟨by rw [Option.getD_some]; omega, rfl⟩, by omega, by omega⟩)
  · rw [if_neg (by omega), if_neg (by omega), if_neg (by omega)]
    exact Or.inr (Or.inr (Or.inr (Or.inr (Or.inr (Or.inr ⟨⟨rfl, rfl⟩, by omega⟩)))))

/-- the package's xtoi -/
def xt : List UInt8 → Nat → Nat → Nat × Nat × Bool
  | [], n, i => if i = 0 then (0, i, false) else (n, i, true)
  | b :: r, n, i => match hexv b with
    | some d => if 16777215 ≤ n * 16 + d then (0, i, false) else xt r (n * 16 + d) (i + 1)
    | none => if i = 0 then (0, i, false) else (n, i, true)

def hexF (n : Nat) (b : UInt8) : Nat := n * 16 + (hexv b).getD 0
/-- the number that hexadecimal digits tell, on from n -/
def hexV (n : Nat) (l : List UInt8) : Nat := l.foldl hexF n
def isHex (b : UInt8) : Bool := (hexv b).isSome

theorem hexV_cons (n : Nat) (b : UInt8) (l : List UInt8) : hexV n (b :: l) = hexV (n * 16 + (hexv b).getD 0) l := by unfold hexV; rw [List.foldl_cons]; rfl
theorem hexV_snoc (n : Nat) (l : List UInt8) (b : UInt8) : hexV n (l ++ [b]) = hexV n l * 16 + (hexv b).getD 0 := by simp [hexV, hexF]

theorem hexV_ge (l : List UInt8) : ∀ n, n ≤ hexV n l := by
  induction l with
  | nil => intro n; exact Nat.le_refl _
  | cons b l ih => intro n; rw [hexV_cons]; have := ih (n * 16 + (hexv b).getD 0); omega

theorem hexD_lt (b : UInt8) : (hexv b).getD 0 < 16 := by
  cases h : hexv b with
  | none => simp
  | some d => exact hexv_lt b d h

theorem hexV_lt (l : List UInt8) : hexV 0 l < 16 ^ l.length := by
  have : ∀ (l : List UInt8) (n m : Nat), n < 16 ^ m → hexV n l < 16 ^ (m + l.length) := by
    intro l
    induction l with
    | nil => intro n m h; simpa [hexV] using h
    | cons b l ih =>
      intro n m hn
      have hb := hexD_lt b
      rw [hexV_cons]
      have := ih (n * 16 + (hexv b).getD 0) (m + 1) (by rw [Nat.pow_succ]; omega)
      rw [List.length_cons]
      rw [show m + (l.length + 1) = m + 1 + l.length by omega]
      exact this
  have h2 := this l 0 0 (by simp)
  simpa using h2

theorem xt_app (ds rest : List UInt8) : ∀ n i, ds.all isHex = true → hexV n ds < 16777215 → xt (ds ++ rest) n i = xt rest (hexV n ds) (i + ds.length) := by
  induction ds with
  | nil => intro n i _ _; rfl
  | cons b ds ih =>
    intro n i h hv
    rw [List.all_cons, Bool.and_eq_true] at h
    rw [hexV_cons] at hv
    have h2 := hexV_ge ds (n * 16 + (hexv b).getD 0)
    obtain ⟨d, hd⟩ := Option.isSome_iff_exists.1 h.1
    rw [hd, Option.getD_some] at hv h2
    rw [List.cons_append, xt, hd]
    simp only
    rw [if_neg (by omega), ih _ _ h.2 hv, hexV_cons, hd, Option.getD_some, List.length_cons]
    congr 1
    omega

theorem xt_stop (rest : List UInt8) (n i : Nat) (hi : i ≠ 0) (hr : ∀ b, rest.head? = some b → hexv b = none) : xt rest n i = (n, i, true) := by
  cases rest with
  | nil => show (if i = 0 then _ else _) = _; rw [if_neg hi]
  | cons b r =>
    show (match hexv b with | some d => _ | none => _) = _
    rw [hr b rfl]
    simp only
    rw [if_neg hi]

theorem hex_law (ds rest : List UInt8) (h0 : ds ≠ []) (h : ds.all isHex = true) (hl : ds.length ≤ 5) (hr : ∀ b, rest.head? = some b → hexv b = none) : xt (ds ++ rest) 0 0 = (hexV 0 ds, ds.length, true) := by
  have h1 := hexV_lt ds
  have h2 : 16 ^ ds.length ≤ 16 ^ 5 := Nat.pow_le_pow_right (by omega) hl
  have h3 : (16 : Nat) ^ 5 = 1048576 := by decide
  have h4 := List.length_pos_iff.2 h0
  rw [xt_app ds rest 0 0 h (by omega), xt_stop _ _ _ (by omega) hr]
  simp

end Go.Proofs.YtfkohahlpfejbaaDoor.pl

/- PlMac2: PLAIN: reading an address of hardware. -/
namespace Go.Proofs.YtfkohahlpfejbaaDoor

def pl.pair (a b : UInt8) : Option UInt8 := match pl.hexv a, pl.hexv b with
  | some x, some y => some (UInt8.ofNat (x * 16 + y))
  | _, _ => none

theorem pl.xt_pair (a b : UInt8) : (pl.pair a b = none ∧ ∃ (v : UInt8) (i : Nat) (k : Bool), pl.xt [a, b] 0 0 = (v.toNat, i, k) ∧ i < 2) ∨ (∃ u, pl.pair a b = some u ∧ pl.xt [a, b] 0 0 = (u.toNat, 2, true)) := by
  unfold pl.pair
  cases ha : pl.hexv a with
  | none => exact Or.inl ⟨rfl, 0, 0, false, by simp [pl.xt, ha], by omega⟩
  | some x =>
    have hx := pl.hexv_lt a x ha
    cases hb : pl.hexv b with
    | none => 
      have e1 : (UInt8.ofNat x).toNat = x := by rw [UInt8.toNat_ofNat']; omega
      refine Or.inl ⟨rfl, UInt8.ofNat x, 1, true, ?_, by omega⟩
      rw [pl.xt, ha]
      simp only []
      rw [if_neg (by omega), pl.xt, hb]
      simp only []
      rw [if_neg (by omega), e1, Nat.zero_mul, Nat.zero_add]
    | some y =>
      have hy := pl.hexv_lt b y hb
      have e1 : (UInt8.ofNat (x * 16 + y)).toNat = x * 16 + y := by rw [UInt8.toNat_ofNat']; omega
      refine Or.inr ⟨_, rfl, ?_⟩
      rw [pl.xt, ha]
      simp only []
      rw [if_neg (by omega), pl.xt, hb]
      simp only []
      rw [if_neg (by omega), pl.xt, if_neg (by omega), e1, Nat.zero_mul, Nat.zero_add]

def pl.x2 : List UInt8 → UInt8 → Option UInt8
  | [a, b], _ => pl.pair a b
  | a :: b :: c :: _, e => if c = e then pl.pair a b else none
  | _, _ => none

theorem pl.x2_long (s : ByteArray) (e : UInt8) (h : 2 < s.size) : pl.x2 s.data.toList e = if s[2] = e then pl.pair s[0] s[1] else none := by
  obtain ⟨d⟩ := s
  obtain ⟨l⟩ := d
  match l, h with
  | a :: b :: c :: t, _ => rfl

theorem pl.x2_short (s : ByteArray) (e : UInt8) (h : s.size = 2) : pl.x2 s.data.toList e = pl.pair s[0] s[1] := by
  obtain ⟨d⟩ := s
  obtain ⟨l⟩ := d
  match l, h with
  | [a, b], _ => rfl

theorem pl.head2 (s : ByteArray) (h : 2 ≤ s.size) : (s.extract 0 2).data.toList = [s[0], s[1]] := by
  obtain ⟨d⟩ := s
  obtain ⟨l⟩ := d
  match l, h with
  | a :: b :: t, _ => simp; exact ⟨rfl, rfl⟩

end Go.Proofs.YtfkohahlpfejbaaDoor

/- PlMac3: PLAIN: the three forms of an address of hardware, as the package reads them. -/
namespace Go.Proofs.YtfkohahlpfejbaaDoor

def pl.g1 (c : UInt8) : Nat → List UInt8 → Option (List UInt8)
  | 0, _ => some []
  | n + 1, t => (pl.x2 t c).bind fun u => (pl.g1 c n (t.drop 3)).map (u :: ·)

def pl.g2 (d : UInt8) : Nat → List UInt8 → Option (List UInt8)
  | 0, _ => some []
  | n + 1, t => (pl.x2 (t.take 2) 0).bind fun u => (pl.x2 (t.drop 2) d).bind fun v => (pl.g2 d n (t.drop 5)).map (fun r => u :: v :: r)

def pl.g3 : Nat → List UInt8 → Option (List UInt8)
  | 0, _ => some []
  | n + 1, t => (pl.x2 (t.take 2) 0).bind fun u => (pl.g3 n (t.drop 2)).map (u :: ·)

def pl.ok (n : Nat) : Bool := n == 6 || n == 8 || n == 20

def pl.mac (s : List UInt8) : Option (List UInt8) :=
  if s.length < 12 then none
  else if s.getD 2 0 = 58 ∨ s.getD 2 0 = 45 then (if (s.length + 1) % 3 = 0 ∧ pl.ok ((s.length + 1) / 3) = true then pl.g1 (s.getD 2 0) ((s.length + 1) / 3) s else none)
  else if s.getD 4 0 = 46 then (if (s.length + 1) % 5 = 0 ∧ pl.ok (2 * (s.length + 1) / 5) = true then pl.g2 46 ((s.length + 1) / 5) s else none)
  else (if s.length % 2 = 0 ∧ pl.ok (s.length / 2) = true then pl.g3 (s.length / 2) s else none)

/-- the row so far -/
def pl.rowOf (acc : List UInt8) (n : Nat) : List UInt8 := acc ++ List.replicate (n - acc.length) 0

theorem pl.rowOf_set (acc : List UInt8) (n : Nat) (u : UInt8) (h : acc.length < n) : (pl.rowOf acc n).set acc.length u = pl.rowOf (acc ++ [u]) n := by
  unfold pl.rowOf
  obtain ⟨m, hm⟩ : ∃ m, n - acc.length = m + 1 := ⟨n - acc.length - 1, by omega⟩
  have h2 : n - (acc ++ [u]).length = m := by simp; omega
  rw [h2, hm, List.replicate_succ, List.set_append_right _ _ (Nat.le_refl _), Nat.sub_self, List.set_cons_zero, List.append_assoc]
  rfl

theorem pl.rowOf_len (acc : List UInt8) (n : Nat) (h : acc.length ≤ n) : (pl.rowOf acc n).length = n := by
  unfold pl.rowOf; simp; omega

theorem pl.rowOf_full (acc : List UInt8) : pl.rowOf acc acc.length = acc := by unfold pl.rowOf; simp

theorem pl.ok_cases (n : Nat) : (pl.ok n = true ∧ (n = 6 ∨ n = 8 ∨ n = 20)) ∨ (pl.ok n = false ∧ n ≠ 6 ∧ n ≠ 8 ∧ n ≠ 20) := by
  unfold pl.ok
  by_cases h1 : n = 6
  · left; subst h1; decide
  by_cases h2 : n = 8
  · left; subst h2; decide
  by_cases h3 : n = 20
  · left; subst h3; decide
  · right; simp [h1, h2, h3]

theorem pl.tail_of (s : ByteArray) (x : Nat) : (s.extract x s.size).data.toList = s.data.toList.drop x := by
  obtain ⟨d⟩ := s
  obtain ⟨l⟩ := d
  simp only [ByteArray.data_extract, Array.toList_extract, List.extract_eq_take_drop, ByteArray.size]
  exact List.take_of_length_le (by simp)

theorem pl.mid_of (s : ByteArray) (x y : Nat) : (s.extract x y).data.toList = (s.data.toList.drop x).take (y - x) := by
  obtain ⟨d⟩ := s
  obtain ⟨l⟩ := d
  simp only [ByteArray.data_extract, Array.toList_extract, List.extract_eq_take_drop]

/-- one group more: fine -/
theorem pl.g1_step (c u : UInt8) (s : List UInt8) (n k : Nat) (acc : List UInt8) (R : Option (List UInt8)) (hk : k < n) (h : R = (pl.g1 c (n - k) (s.drop (3 * k))).map (acc ++ ·)) (hx : pl.x2 (s.drop (3 * k)) c = some u) :
    R = (pl.g1 c (n - (k + 1)) (s.drop (3 * (k + 1)))).map ((acc ++ [u]) ++ ·) := by
  obtain ⟨m, hm⟩ : ∃ m, n - k = m + 1 := ⟨n - k - 1, by omega⟩
  rw [h, hm, show n - (k + 1) = m by omega, pl.g1, hx, Option.bind_some, List.drop_drop, show 3 * k + 3 = 3 * (k + 1) by omega, Option.map_map]
  congr 1
  funext r
  simp

theorem pl.g1_fail (c : UInt8) (s : List UInt8) (n k : Nat) (acc : List UInt8) (R : Option (List UInt8)) (hk : k < n) (h : R = (pl.g1 c (n - k) (s.drop (3 * k))).map (acc ++ ·)) (hx : pl.x2 (s.drop (3 * k)) c = none) : R = none := by
  obtain ⟨m, hm⟩ : ∃ m, n - k = m + 1 := ⟨n - k - 1, by omega⟩
  rw [h, hm, pl.g1, hx]; rfl

theorem pl.g1_end (c : UInt8) (s : List UInt8) (n : Nat) (acc : List UInt8) (R : Option (List UInt8)) (h : R = (pl.g1 c (n - n) (s.drop (3 * n))).map (acc ++ ·)) : R = some acc := by
  rw [h, Nat.sub_self, pl.g1]; simp

theorem pl.g3_step (u : UInt8) (s : List UInt8) (n k : Nat) (acc : List UInt8) (R : Option (List UInt8)) (hk : k < n) (h : R = (pl.g3 (n - k) (s.drop (2 * k))).map (acc ++ ·)) (hx : pl.x2 ((s.drop (2 * k)).take 2) 0 = some u) :
    R = (pl.g3 (n - (k + 1)) (s.drop (2 * (k + 1)))).map ((acc ++ [u]) ++ ·) := by
  obtain ⟨m, hm⟩ : ∃ m, n - k = m + 1 := ⟨n - k - 1, by omega⟩
  rw [h, hm, show n - (k + 1) = m by omega, pl.g3, hx, Option.bind_some, List.drop_drop, show 2 * k + 2 = 2 * (k + 1) by omega, Option.map_map]
  congr 1
  funext r
  simp

theorem pl.g3_fail (s : List UInt8) (n k : Nat) (acc : List UInt8) (R : Option (List UInt8)) (hk : k < n) (h : R = (pl.g3 (n - k) (s.drop (2 * k))).map (acc ++ ·)) (hx : pl.x2 ((s.drop (2 * k)).take 2) 0 = none) : R = none := by
  obtain ⟨m, hm⟩ : ∃ m, n - k = m + 1 := ⟨n - k - 1, by omega⟩
  rw [h, hm, pl.g3, hx]; rfl

theorem pl.g3_end (s : List UInt8) (n : Nat) (acc : List UInt8) (R : Option (List UInt8)) (h : R = (pl.g3 (n - n) (s.drop (2 * n))).map (acc ++ ·)) : R = some acc := by
  rw [h, Nat.sub_self, pl.g3]; simp

theorem pl.g2_step (d u v : UInt8) (s : List UInt8) (n k : Nat) (acc : List UInt8) (R : Option (List UInt8)) (hk : k < n) (h : R = (pl.g2 d (n - k) (s.drop (5 * k))).map (acc ++ ·)) (hx : pl.x2 ((s.drop (5 * k)).take 2) 0 = some u) (hy : pl.x2 ((s.drop (5 * k)).drop 2) d = some v) :
    R = (pl.g2 d (n - (k + 1)) (s.drop (5 * (k + 1)))).map ((acc ++ [u] ++ [v]) ++ ·) := by
  obtain ⟨m, hm⟩ : ∃ m, n - k = m + 1 := ⟨n - k - 1, by omega⟩
  rw [h, hm, show n - (k + 1) = m by omega, pl.g2, hx, Option.bind_some, hy, Option.bind_some, List.drop_drop, show 5 * k + 5 = 5 * (k + 1) by omega, Option.map_map]
  congr 1
  funext r
  simp

theorem pl.g2_fail1 (d : UInt8) (s : List UInt8) (n k : Nat) (acc : List UInt8) (R : Option (List UInt8)) (hk : k < n) (h : R = (pl.g2 d (n - k) (s.drop (5 * k))).map (acc ++ ·)) (hx : pl.x2 ((s.drop (5 * k)).take 2) 0 = none) : R = none := by
  obtain ⟨m, hm⟩ : ∃ m, n - k = m + 1 := ⟨n - k - 1, by omega⟩
  rw [h, hm, pl.g2, hx]; rfl

theorem pl.g2_fail2 (d u : UInt8) (s : List UInt8) (n k : Nat) (acc : List UInt8) (R : Option (List UInt8)) (hk : k < n) (h : R = (pl.g2 d (n - k) (s.drop (5 * k))).map (acc ++ ·)) (hx : pl.x2 ((s.drop (5 * k)).take 2) 0 = some u) (hy : pl.x2 ((s.drop (5 * k)).drop 2) d = none) : R = none := by
  obtain ⟨m, hm⟩ : ∃ m, n - k = m + 1 := ⟨n - k - 1, by omega⟩
  rw [h, hm, pl.g2, hx, Option.bind_some, hy]; rfl

theorem pl.g2_end (d : UInt8) (s : List UInt8) (n : Nat) (acc : List UInt8) (R : Option (List UInt8)) (h : R = (pl.g2 d (n - n) (s.drop (5 * n))).map (acc ++ ·)) : R = some acc := by
  rw [h, Nat.sub_self, pl.g2]; simp

end Go.Proofs.YtfkohahlpfejbaaDoor

/- PlMask: PLAIN: masks. -/
namespace Go.Proofs.YtfkohahlpfejbaaDoor

/-- so many ones ahead in a byte -/
def pl.hb (n : Nat) : UInt8 := if 8 ≤ n then 255 else UInt8.ofNat (255 - 255 / 2 ^ n)
def pl.mask (ones L : Nat) : List UInt8 := (List.range L).map (fun i => pl.hb (ones - 8 * i))

theorem pl.mask_len (ones L : Nat) : (pl.mask ones L).length = L := by simp [pl.mask]

theorem pl.mask_zero (L : Nat) : pl.mask 0 L = List.replicate L 0 := by
  unfold pl.mask
  apply List.ext_getElem
  · simp
  · intro i h1 h2
    simp [pl.hb]

theorem pl.mask_at (ones L q : Nat) (h : q < L) : (pl.mask ones L)[q]? = some (pl.hb (ones - 8 * q)) := by
  unfold pl.mask
  rw [List.getElem?_map, List.getElem?_range h]; rfl

/-- the package's way: byte after byte -/
theorem pl.mask_row (ones L k : Nat) (hk : k < L) : (pl.rowOf ((pl.mask ones L).take k) L).set k (pl.hb (ones - 8 * k)) = pl.rowOf ((pl.mask ones L).take (k + 1)) L := by
  have hl : ((pl.mask ones L).take k).length = k := by rw [List.length_take, pl.mask_len]; omega
  have h := pl.rowOf_set ((pl.mask ones L).take k) L (pl.hb (ones - 8 * k)) (by omega)
  rw [hl] at h
  rw [h, List.take_add_one, pl.mask_at ones L k hk]
  rfl

theorem pl.hb_bit (r : Nat) (hr : r < 8) : pl.hb (r + 1) = pl.hb r ||| (128 >>> UInt8.ofNat r) := by
  have : ∀ r : Fin 8, pl.hb (r.val + 1) = pl.hb r.val ||| (128 >>> UInt8.ofNat r.val) := by decide
  exact this ⟨r, hr⟩

/-- the reference's way: one after the other -/
theorem pl.mask_succ (i L q r : Nat) (hi : i = 8 * q + r) (hr : r < 8) (hq : q < L) : (pl.mask i L).set q (pl.hb (r + 1)) = pl.mask (i + 1) L := by
  apply List.ext_getElem?
  intro j
  by_cases hj : j < L
  · rw [List.getElem?_set, pl.mask_at _ _ _ hj, pl.mask_at _ _ _ hj, pl.mask_len]
    by_cases hqj : q = j
    · subst hqj
      rw [if_pos rfl, if_pos hq]
      congr 2
      omega
    · rw [if_neg hqj]
      congr 1
      rcases Nat.lt_or_gt_of_ne hqj with h | h
      · rw [show i - 8 * j = 0 by omega, show i + 1 - 8 * j = 0 by omega]
      · have h1 : 8 ≤ i - 8 * j := by omega
        have h2 : 8 ≤ i + 1 - 8 * j := by omega
        unfold pl.hb
        rw [if_pos h1, if_pos h2]
  · rw [List.getElem?_eq_none (by rw [List.length_set, pl.mask_len]; omega), List.getElem?_eq_none (by rw [pl.mask_len]; omega)]

/-- what a mask leaves -/
def pl.and (b m : List UInt8) : List UInt8 := List.zipWith (· &&& ·) b m

theorem pl.and_succ (b m : List UInt8) (k : Nat) (x y : UInt8) (hx : b[k]? = some x) (hy : m[k]? = some y) : (pl.and b m).take (k + 1) = (pl.and b m).take k ++ [x &&& y] := by
  have : (pl.and b m)[k]? = some (x &&& y) := by
    unfold pl.and
    rw [List.getElem?_zipWith, hx, hy]
  rw [List.take_add_one, this]; rfl

theorem pl.and_len (b m : List UInt8) (h : b.length = m.length) : (pl.and b m).length = b.length := by
  unfold pl.and; simp; omega

end Go.Proofs.YtfkohahlpfejbaaDoor

/- And: WALKS: the reference's And. -/
namespace Go.Proofs.YtfkohahlpfejbaaDoor
open Go.RowKit

theorem pl.and_bits (x y : UInt8) : bits BinOp.and .u8 (x.toNat : Int) (y.toNat : Int) = ((x &&& y).toNat : Int) := by
  rw [(bits_nat .u8 8 (by decide) wraps_u8 x.toNat y.toNat (UInt8.toNat_lt x) (UInt8.toNat_lt y)).1, UInt8.toNat_and]

theorem grown_below {w wr w1 : World} {ob : Obj} {v : Value} {l : List UInt8} (hb : Below w.heap.size w wr) (hown : Byts wr w.heap.size v l) (hg : (wr.alloc ob).drew.grownBy w1 v.ownBlock) : Below w.heap.size w w1 := by
  have hsz := hb.size
  exact (hb.alloc hsz ob).drew.grown hg (by simp; omega) (fun k hk => ((World.ownsRow.lt hown) k hk).1)

set_option maxRecDepth 100000 in
set_option maxHeartbeats 4000000 in
theorem and_sp (vb vm : Value) (b m : List UInt8) (w : World) (hb : Reads w vb b) (hm : Reads w vm m) (hl : b.length = m.length) (h16 : b.length ≤ 16) :
    Calls Tryd.prog 30 #[vb, vm] w fun e w' => ∃ v, e = .returned v ∧ Byts w' w.heap.size v (pl.and b m) ∧ Below w.heap.size w w' := by
  obtain ⟨i0, hi, hz0, hz1, hz2⟩ := info_parts infoByte
  obtain ⟨ab, cb, rfl, hb1, hb2, hb0, hb3⟩ := hb
  obtain ⟨am, cm, rfl, hm1, hm2, hm0, hm3⟩ := hm
  have HB := Lib.hid hb3
  have HM := Lib.hid hm3
  clear hb3 hm3 hb0 hm0
  go_enter Tryd.func30, Tryd.ntmps30
  go_wp2_with fail
  go_loopw [5, 9] (fun v iv wr => ∃ i : Nat, i ≤ b.length ∧ iv = .int .i64 i ∧ Byts wr w.heap.size v ((pl.and b m).take i) ∧ Below w.heap.size w wr) (fun _ iv _ => b.length - (intOf iv).toNat)
  case atStart => exact ⟨0, by omega, rfl, Byts.nil _ _, Below.refl _ _⟩
  case round =>
    obtain ⟨i, hk, rfl, hown, hbel⟩ := hrel
    by_cases hlt : i < b.length
    · obtain ⟨x, hx⟩ : ∃ x, b[i]? = some x := ⟨_, List.getElem?_eq_getElem hlt⟩
      obtain ⟨y, hy⟩ : ∃ y, m[i]? = some y := ⟨_, List.getElem?_eq_getElem (by omega)⟩
      obtain ⟨g1, o1, rfl, hg1, hc1⟩ := HB.out i x hx
      obtain ⟨g2, o2, rfl, hg2, hc2⟩ := HM.out i y hy
      have hc1' : wr.cell? ⟨g1, o1 + i, none⟩ = some (.int .u8 (x.toNat : Int)) := by rw [below_cell hbel _ _ hg1]; exact hc1
      have hc2' : wr.cell? ⟨g2, o2 + i, none⟩ = some (.int .u8 (y.toNat : Int)) := by rw [below_cell hbel _ _ hg2]; exact hc2
      have hxb := UInt8.toNat_lt x
      have hyb := UInt8.toNat_lt y
      have hsz := hbel.size
      have hlt1 : ((pl.and b m).take i).length = i := by rw [List.length_take, pl.and_len _ _ hl]; omega
      have hand := pl.and_bits x y
      have hsucc := pl.and_succ b m i x y hx hy
      have hownI : wr.ownsRow w.heap.size 5 1 u5 i (((pl.and b m).take i).map pl.byteV) := by have h := hown; unfold Byts at h; rw [hlt1] at h; exact h
      have hlm : i < m.length := by omega
      have HX := Lib.hid hx
      have HY := Lib.hid hy
      have HA := Lib.hid hand
      have HS := Lib.hid hsucc
      have HL := Lib.hid hlt1
      have HC1 := Lib.hid hc1
      have HC2 := Lib.hid hc2
      have HLEN := Lib.hid hl
      clear hx hy hc1 hc2 hand hsucc hlt1 hl
      go_wp2_with fail
      go_region_held3 (fun w' => w'.cell? ⟨g1, o1 + i, none⟩ = some (.int .u8 (x.toNat : Int)) ∧ w'.cell? ⟨g2, o2 + i, none⟩ = some (.int .u8 (y.toNat : Int))) (first | exact ⟨hk1, hk2⟩ | go_keep) ((refine step_append_lies _ (by rfl) _ _ _ (by rfl) w.heap.size 5 i0 (.int .u8 0) 1 1 (by kernel_rfl) hi hz0 hz1 hz2 rfl (by decide) _ _ _ (by rfl) (World.ownsRow.alloc hownI _) ⟨wr.heap.size, 0, none⟩ 1 1 [pl.byteV (x &&& y)] (by rfl) rfl (by rw [HA.out]; exact cell_one_new _ _ _) (by intro u hu; rw [List.mem_singleton] at hu; subst hu; rfl) (by decide) (by unfold maxLen; omega) (by omega) (by simp; omega) _ rfl ?_; intro g cap w1 hown1 hgrow hat hlt; have hbel1 := grown_below hbel hown hgrow; have hk1 : w1.cell? ⟨g1, o1 + i, none⟩ = some (.int .u8 (x.toNat : Int)) := by { rw [below_cell hbel1 _ _ hg1]; exact HC1.out }; have hk2 : w1.cell? ⟨g2, o2 + i, none⟩ = some (.int .u8 (y.toNat : Int)) := by { rw [below_cell hbel1 _ _ hg2]; exact HC2.out }; clear hat hlt hgrow))
      have hby : Byts w1 w.heap.size (.slice (some ⟨g, 0, none⟩) (i + 1) cap) ((pl.and b m).take (i + 1)) := by
        rw [HS.out]
        unfold Byts
        rw [List.length_append, HL.out, List.map_append]
        exact hown1
      have HBY := Lib.hid hby
      clear hby hown1
      go_wp2_with fail
      go_roundw
      case rel => exact ⟨i + 1, by omega, by go_num, HBY.out, hbel1⟩
      case measure => simp [intOf]; omega
    · have hie : i = b.length := by omega
      subst hie
      rw [List.take_of_length_le (by rw [pl.and_len _ _ hl]; omega)] at hown
      go_wp2_with fail
      go_ret
      exact ⟨_, rfl, hown, hbel⟩

end Go.Proofs.YtfkohahlpfejbaaDoor

/- IpMask: WALKS: IP.Mask at a mask of the address's length. -/
namespace Go.Proofs.YtfkohahlpfejbaaDoor
open Go.RowKit

set_option maxRecDepth 100000 in
set_option maxHeartbeats 4000000 in
theorem ipm_4 (vb vm : Value) (b m : List UInt8) (w : World) (hb : Reads w vb b) (hm : Reads w vm m) (hL : b.length = 4) (hl : m.length = 4) :
    Calls Tryd.prog 56 #[vb, vm] w fun e w' => ∃ v, e = .returned v ∧ Byts w' w.heap.size v (pl.and b m) ∧ Below w.heap.size w w' := by
  obtain ⟨i0, hi, hz0, hz1, hz2⟩ := info_parts infoByte
  obtain ⟨ab, cb, rfl, hb1, hb2, hb0, hb3⟩ := hb
  obtain ⟨am, cm, rfl, hm1, hm2, hm0, hm3⟩ := hm
  have hand := pl.and_len b m (by omega)
  rw [hL] at hand
  have hrow0 : pl.rowOf ((pl.and b m).take 0) 4 = List.replicate 4 0 := by simp [pl.rowOf]
  have HB := Lib.hid hb3
  have HM := Lib.hid hm3
  rw [hl, hL]
  have HL := Lib.hid hl
  have HB' := Lib.hid hL
  have HA := Lib.hid hand
  have HR := Lib.hid hrow0
  clear hb3 hm3 hb0 hm0 hm1 hb1 hl hL hand hrow0
  go_enter Tryd.func56, Tryd.ntmps56
  go_wp2_with fail
  go_quiet (fail)
  go_wp2_with (at_make; refine wpList_make_full _ rfl _ _ 78 rfl w.heap.size 5 i0 (.int .u8 0) 1 Tryd.underlying78 hi hz0 hz1 _ _ _ _ 4 rfl rfl rfl rfl (by rw [hz2]; omega) (by unfold maxLen; omega) (by simp) ?_)
  intro w1 hown1 hg1
  have hbel1 : Below w.heap.size w w1 := (show Below w.heap.size w (w.drewN nq) from below_drewN (Below.refl _ _) nq).grown hg1 (Nat.le_refl _) (fun k hk => by simp at hk)
  have hby1 := Byts.made hown1
  rw [← HR.out] at hby1
  clear hown1 hg1
  go_wp2_with fail
  go_loopw [7] (fun iv wr => ∃ k : Nat, k ≤ 4 ∧ iv = .int .i64 k ∧ Byts wr w.heap.size (.slice (some ⟨w.heap.size, 0, none⟩) 4 4) (pl.rowOf ((pl.and b m).take k) 4) ∧ Below w.heap.size w wr) (fun iv _ => 4 - (intOf iv).toNat)
  case atStart => exact ⟨0, by omega, rfl, hby1, hbel1⟩
  case round =>
    obtain ⟨k, hk, rfl, hown, hbel⟩ := hrel
    by_cases hlt : k < 4
    · obtain ⟨x, hx⟩ : ∃ x, b[k]? = some x := ⟨_, List.getElem?_eq_getElem (by have := HB'.out; omega)⟩
      obtain ⟨y, hy⟩ : ∃ y, m[k]? = some y := ⟨_, List.getElem?_eq_getElem (by have := HL.out; omega)⟩
      obtain ⟨g1, o1, rfl, hg1, hc1⟩ := HB.out k x hx
      obtain ⟨g2, o2, rfl, hg2, hc2⟩ := HM.out k y hy
      have hc1' : wr.cell? ⟨g1, o1 + k, none⟩ = some (.int .u8 (x.toNat : Int)) := by rw [below_cell hbel _ _ hg1]; exact hc1
      have hc2' : wr.cell? ⟨g2, o2 + k, none⟩ = some (.int .u8 (y.toNat : Int)) := by rw [below_cell hbel _ _ hg2]; exact hc2
      have hxb := UInt8.toNat_lt x
      have hyb := UInt8.toNat_lt y
      have hsz := hbel.size
      have hlen : (pl.rowOf ((pl.and b m).take k) 4).length = 4 := pl.rowOf_len _ 4 (by rw [List.length_take, HA.out]; omega)
      obtain ⟨old, hcell⟩ := hown.cell hlen k hlt
      have hfr := hown.frozen hlen k
      have hset := hown.set hlen k (x &&& y)
      have hrs := pl.rowOf_set ((pl.and b m).take k) 4 (x &&& y) (by rw [List.length_take, HA.out]; omega)
      rw [show ((pl.and b m).take k).length = k by rw [List.length_take, HA.out]; omega, ← pl.and_succ b m k x y hx hy] at hrs
      rw [hrs] at hset
      have hand := pl.and_bits x y
      have HS := Lib.hid hset
      have HN := Lib.hid hand
      have HX := Lib.hid hx
      have HY := Lib.hid hy
      have HC1 := Lib.hid hc1
      have HC2 := Lib.hid hc2
      clear hset hlen hrs hx hy hc1 hc2 hand
      go_wp2_with fail
      go_region
      rw [HN.out]
      go_wp2_with fail
      go_roundw
      case rel => exact ⟨k + 1, by omega, by go_num, HS.out, (hbel.setCell (Nat.le_refl _) _).drew⟩
      case measure => simp [intOf]; omega
    · have hke : k = 4 := by omega
      subst hke
      rw [List.take_of_length_le (by rw [HA.out]; omega)] at hown
      have hf := pl.rowOf_full (pl.and b m)
      rw [HA.out] at hf
      rw [hf] at hown
      clear hf
      go_wp2_with fail
      go_ret
      exact ⟨_, rfl, hown, hbel⟩

set_option maxRecDepth 100000 in
set_option maxHeartbeats 4000000 in
theorem ipm_16 (vb vm : Value) (b m : List UInt8) (w : World) (hb : Reads w vb b) (hm : Reads w vm m) (hL : b.length = 16) (hl : m.length = 16) :
    Calls Tryd.prog 56 #[vb, vm] w fun e w' => ∃ v, e = .returned v ∧ Byts w' w.heap.size v (pl.and b m) ∧ Below w.heap.size w w' := by
  obtain ⟨i0, hi, hz0, hz1, hz2⟩ := info_parts infoByte
  obtain ⟨ab, cb, rfl, hb1, hb2, hb0, hb3⟩ := hb
  obtain ⟨am, cm, rfl, hm1, hm2, hm0, hm3⟩ := hm
  have hand := pl.and_len b m (by omega)
  rw [hL] at hand
  have hrow0 : pl.rowOf ((pl.and b m).take 0) 16 = List.replicate 16 0 := by simp [pl.rowOf]
  have HB := Lib.hid hb3
  have HM := Lib.hid hm3
  rw [hl, hL]
  have HL := Lib.hid hl
  have HB' := Lib.hid hL
  have HA := Lib.hid hand
  have HR := Lib.hid hrow0
  clear hb3 hm3 hb0 hm0 hm1 hb1 hl hL hand hrow0
  go_enter Tryd.func56, Tryd.ntmps56
  go_wp2_with fail
  go_quiet (fail)
  go_wp2_with (at_make; refine wpList_make_full _ rfl _ _ 78 rfl w.heap.size 5 i0 (.int .u8 0) 1 Tryd.underlying78 hi hz0 hz1 _ _ _ _ 16 rfl rfl rfl rfl (by rw [hz2]; omega) (by unfold maxLen; omega) (by simp) ?_)
  intro w1 hown1 hg1
  have hbel1 : Below w.heap.size w w1 := (show Below w.heap.size w (w.drewN nq) from below_drewN (Below.refl _ _) nq).grown hg1 (Nat.le_refl _) (fun k hk => by simp at hk)
  have hby1 := Byts.made hown1
  rw [← HR.out] at hby1
  clear hown1 hg1
  go_wp2_with fail
  go_loopw [7] (fun iv wr => ∃ k : Nat, k ≤ 16 ∧ iv = .int .i64 k ∧ Byts wr w.heap.size (.slice (some ⟨w.heap.size, 0, none⟩) 16 16) (pl.rowOf ((pl.and b m).take k) 16) ∧ Below w.heap.size w wr) (fun iv _ => 16 - (intOf iv).toNat)
  case atStart => exact ⟨0, by omega, rfl, hby1, hbel1⟩
  case round =>
    obtain ⟨k, hk, rfl, hown, hbel⟩ := hrel
    by_cases hlt : k < 16
    · obtain ⟨x, hx⟩ : ∃ x, b[k]? = some x := ⟨_, List.getElem?_eq_getElem (by have := HB'.out; omega)⟩
      obtain ⟨y, hy⟩ : ∃ y, m[k]? = some y := ⟨_, List.getElem?_eq_getElem (by have := HL.out; omega)⟩
      obtain ⟨g1, o1, rfl, hg1, hc1⟩ := HB.out k x hx
      obtain ⟨g2, o2, rfl, hg2, hc2⟩ := HM.out k y hy
      have hc1' : wr.cell? ⟨g1, o1 + k, none⟩ = some (.int .u8 (x.toNat : Int)) := by rw [below_cell hbel _ _ hg1]; exact hc1
      have hc2' : wr.cell? ⟨g2, o2 + k, none⟩ = some (.int .u8 (y.toNat : Int)) := by rw [below_cell hbel _ _ hg2]; exact hc2
      have hxb := UInt8.toNat_lt x
      have hyb := UInt8.toNat_lt y
      have hsz := hbel.size
      have hlen : (pl.rowOf ((pl.and b m).take k) 16).length = 16 := pl.rowOf_len _ 16 (by rw [List.length_take, HA.out]; omega)
      obtain ⟨old, hcell⟩ := hown.cell hlen k hlt
      have hfr := hown.frozen hlen k
      have hset := hown.set hlen k (x &&& y)
      have hrs := pl.rowOf_set ((pl.and b m).take k) 16 (x &&& y) (by rw [List.length_take, HA.out]; omega)
      rw [show ((pl.and b m).take k).length = k by rw [List.length_take, HA.out]; omega, ← pl.and_succ b m k x y hx hy] at hrs
      rw [hrs] at hset
      have hand := pl.and_bits x y
      have HS := Lib.hid hset
      have HN := Lib.hid hand
      have HX := Lib.hid hx
      have HY := Lib.hid hy
      have HC1 := Lib.hid hc1
      have HC2 := Lib.hid hc2
      clear hset hlen hrs hx hy hc1 hc2 hand
      go_wp2_with fail
      go_region
      rw [HN.out]
      go_wp2_with fail
      go_roundw
      case rel => exact ⟨k + 1, by omega, by go_num, HS.out, (hbel.setCell (Nat.le_refl _) _).drew⟩
      case measure => simp [intOf]; omega
    · have hke : k = 16 := by omega
      subst hke
      rw [List.take_of_length_le (by rw [HA.out]; omega)] at hown
      have hf := pl.rowOf_full (pl.and b m)
      rw [HA.out] at hf
      rw [hf] at hown
      clear hf
      go_wp2_with fail
      go_ret
      exact ⟨_, rfl, hown, hbel⟩

end Go.Proofs.YtfkohahlpfejbaaDoor

/- Idx: WALKS: indexByteString, JoinHostPort. -/
namespace Go.Proofs.YtfkohahlpfejbaaDoor
open Go.RowKit

theorem ret_int {k : IntKind} {a b : Int} (h : a = b) : Ending.returned (.int k a) = .returned (.int k b) := by rw [h]
theorem ret_bool {a b : Bool} (h : a = b) : Ending.returned (.bool a) = .returned (.bool b) := by rw [h]
theorem ret_str {a b : ByteArray} (h : a = b) : Ending.returned (.string a) = .returned (.string b) := by rw [h]

set_option maxHeartbeats 400000 in
theorem idx_any (s : ByteArray) (c : Int) (w : World) (hs : s.size ≤ maxLen) :
    Calls Tryd.prog 82 #[.string s, .int .u8 c] w fun e w' => e = .returned (.int .i64 (pl.idx s.data.toList c)) ∧ w = w' := by
  unfold maxLen at hs
  go_enter Tryd.func82, Tryd.ntmps82
  go_wp2
  go_loop [5] (fun i => ∃ k : Nat, k ≤ s.size ∧ i = .int .i64 k ∧ ∀ x ∈ s.data.toList.take k, pl.isB c x = false) (fun i => s.size - (intOf i).toNat)
  case atStart => exact ⟨0, Nat.zero_le _, rfl, by simp⟩
  case round =>
    obtain ⟨k, hk, rfl, hn⟩ := hrel
    have HN := Lib.hid hn
    clear hn
    by_cases hlt : k < s.size
    · go_wp2
      · go_ret
        exact ⟨ret_int (pl.idx_hit s c k hlt HN.out (by assumption)).symm, rfl⟩
      · go_round
        case rel => exact ⟨k + 1, by omega, by go_num, pl.none_succ s c k hlt HN.out (by assumption)⟩
        case measure => simp [intOf]; omega
    · go_wp2
      go_ret
      exact ⟨ret_int (pl.idx_miss _ _ (pl.none_all s c k (by omega) HN.out)).symm, rfl⟩

set_option maxHeartbeats 400000 in
theorem joinHP (h p : ByteArray) (w : World) (hs : h.size ≤ 17592186044416) (hp : p.size ≤ 17592186044416) :
    Calls Tryd.prog 88 #[.string h, .string p] w fun e w' => e = .returned (.string ⟨(pl.joined h.data.toList p.data.toList).toArray⟩) ∧ w = w' := by
  go_enter Tryd.func88, Tryd.ntmps88
  go_wp2_with (go_at_call 82; refine (idx_any _ _ _ (by unfold maxLen; omega)).mono ?_; rintro e w' ⟨rfl, rfl⟩)
  · go_ret
    rename_i hc
    exact ⟨ret_str (pl.ba_ext (by rw [pl.joined, if_pos hc]; simp [ByteArray.data_append])), rfl⟩
  · go_ret
    exact ⟨ret_str (pl.ba_ext (by rw [pl.joined, if_neg (by omega)]; simp [ByteArray.data_append])), rfl⟩

set_option maxHeartbeats 400000 in
theorem has_any (s t : ByteArray) (w : World) (hs : s.size ≤ 17592186044416) (ht : t.size ≤ 17592186044416) :
    Calls Tryd.prog 35 #[.string s, .string t] w fun e w' => e = .returned (.bool (pl.has s.data.toList t.data.toList)) ∧ ∃ n, w' = w.drewN n := by
  go_enter Tryd.func35, Tryd.ntmps35
  go_wp2
  go_loopw [9] (fun i wr => ∃ k n : Nat, k ≤ s.size ∧ i = .int .i64 k ∧ wr = w.drewN n ∧ ∀ x ∈ s.data.toList.take k, x ∉ t.data.toList) (fun i _ => s.size - (intOf i).toNat)
  case atStart => exact ⟨0, 0, Nat.zero_le _, rfl, rfl, by simp⟩
  case round =>
    obtain ⟨i, n, hi, rfl, rfl, hn⟩ := hrel
    have HN := Lib.hid hn
    clear hn
    by_cases hlt : i < s.size
    · go_wp2
      go_loopw [14] (fun j wr => ∃ k m : Nat, k ≤ t.size ∧ j = .int .i64 k ∧ wr = w.drewN m ∧ s[i] ∉ t.data.toList.take k) (fun i _ => t.size - (intOf i).toNat)
      case atStart => exact ⟨0, n, Nat.zero_le _, rfl, rfl, by simp⟩
      case round =>
        obtain ⟨k, m, hk, rfl, rfl, hn2⟩ := hrel
        have HN2 := Lib.hid hn2
        clear hn2
        by_cases hkt : k < t.size
        · have hi0 : (0:Int) ≤ (i : Int) ∧ (i : Int) < s.size := by omega
          have hk0 : (0:Int) ≤ (k : Int) ∧ (k : Int) < t.size := by omega
          go_wp2
          go_quiet (fail)
          go_wp2
          · go_ret
            exact ⟨ret_bool (pl.has_hit s t i k hlt hkt (by assumption)).symm, _, World.drewN_drewN ..⟩
          · go_roundw
            case rel => exact ⟨k + 1, _, by omega, by go_num, rfl, pl.nin_succ t _ k hkt HN2.out (by assumption)⟩
            case measure => simp [intOf]; omega
        · have ek := pl.take_all t k (by omega)
          have hni : s[i] ∉ t.data.toList := by rw [← ek]; exact HN2.out
          have HNI := Lib.hid hni
          clear hni ek
          go_wp2
          go_roundw
          case rel => exact ⟨i + 1, _, by omega, by go_num, rfl, pl.all_succ s _ i hlt HN.out HNI.out⟩
          case measure => simp [intOf]; omega
    · have ek := pl.take_all s i (by omega)
      have hno : pl.has s.data.toList t.data.toList = false := pl.has_no _ _ (by rw [← ek]; exact HN.out)
      have HNO := Lib.hid hno
      clear hno ek
      go_wp2
      go_ret
      exact ⟨ret_bool HNO.out.symm, _, rfl⟩

theorem joined_sp (h p : ByteArray) (w : World) (hs : h.size ≤ 17592186044416) (hp : p.size ≤ 17592186044416) :
    Calls Tryd.prog 60 #[.string h, .string p] w fun e w' => e = .returned (.string ⟨(pl.joined h.data.toList p.data.toList).toArray⟩) ∧ ∃ n, w' = w.drewN n := by
  go_enter Tryd.func60, Tryd.ntmps60
  go_wp2_with (go_at_call 35; refine (has_any _ _ _ hs (by simp [ByteArray.size])).mono ?_; rintro e w' ⟨rfl, n, rfl⟩)
  · go_ret
    rename_i hc
    exact ⟨ret_str (pl.ba_ext (by rw [pl.joined_yes _ _ hc]; simp [ByteArray.data_append])), _, rfl⟩
  · go_ret
    rename_i hc
    exact ⟨ret_str (pl.ba_ext (by rw [pl.joined_no _ _ hc]; simp [ByteArray.data_append])), _, rfl⟩

end Go.Proofs.YtfkohahlpfejbaaDoor

/- PlName: PLAIN: domain names, the package's way and the reference's. -/
namespace Go.Proofs.YtfkohahlpfejbaaDoor.pl

/-- one byte of the package's reading of a domain name: the byte before, whether a letter or hyphen has been met, the length of the label -/
def stepD (st : Int × Bool × Nat) (b : UInt8) : Option (Int × Bool × Nat) :=
  if (97 ≤ b.toNat ∧ b.toNat ≤ 122) ∨ (65 ≤ b.toNat ∧ b.toNat ≤ 90) ∨ b.toNat = 95 then some (b.toNat, true, st.2.2 + 1)
  else if 48 ≤ b.toNat ∧ b.toNat ≤ 57 then some (b.toNat, st.2.1, st.2.2 + 1)
  else if b.toNat = 45 then (if st.1 = 46 then none else some (b.toNat, true, st.2.2 + 1))
  else if b.toNat = 46 then (if st.1 = 46 ∨ st.1 = 45 then none else if 63 < st.2.2 ∨ st.2.2 = 0 then none else some (b.toNat, st.2.1, 0))
  else none
def runD (l : List UInt8) : Option (Int × Bool × Nat) := l.foldl (fun st b => st.bind (fun x => stepD x b)) (some (46, false, 0))

theorem runD_snoc (l : List UInt8) (b : UInt8) : runD (l ++ [b]) = (runD l).bind (fun x => stepD x b) := by simp [runD]
theorem runD_succ (s : ByteArray) (k : Nat) (h : k < s.size) : runD (s.data.toList.take (k + 1)) = (runD (s.data.toList.take k)).bind (fun x => stepD x s[k]) := by
  rw [take_succ s k h, runD_snoc]
theorem runD_none (l m : List UInt8) (h : runD l = none) : runD (l ++ m) = none := by
  unfold runD at h ⊢
  rw [List.foldl_append, h]
  induction m with
  | nil => rfl
  | cons b m ih => simpa using ih
theorem runD_dead (s : ByteArray) (k : Nat) (h : k < s.size) (st : Int × Bool × Nat) (h1 : runD (s.data.toList.take k) = some st) (h2 : stepD st s[k] = none) : runD s.data.toList = none := by
  have := runD_none (s.data.toList.take (k + 1)) (s.data.toList.drop (k + 1)) (by rw [runD_succ s k h, h1]; exact h2)
  rwa [List.take_append_drop] at this

open Go.RowKit in
theorem stepD_cases (b : UInt8) (a : Int) (n : Bool) (q : Nat) :
    (Hid (stepD (a, n, q) b = some ((b.toNat : Int), true, q + 1)) ∧ 97 ≤ (b.toNat : Int) ∧ (b.toNat : Int) ≤ 122) ∨
    (Hid (stepD (a, n, q) b = some ((b.toNat : Int), true, q + 1)) ∧ 65 ≤ (b.toNat : Int) ∧ (b.toNat : Int) ≤ 90) ∨
    (Hid (stepD (a, n, q) b = some (95, true, q + 1)) ∧ (b.toNat : Int) = 95) ∨
    (Hid (stepD (a, n, q) b = some ((b.toNat : Int), n, q + 1)) ∧ 48 ≤ (b.toNat : Int) ∧ (b.toNat : Int) ≤ 57) ∨
    (Hid (stepD (a, n, q) b = some (45, true, q + 1)) ∧ (b.toNat : Int) = 45 ∧ (a == 46) = false) ∨
    (Hid (stepD (a, n, q) b = some (46, n, 0)) ∧ (b.toNat : Int) = 46 ∧ (a == 46) = false ∧ (a == 45) = false ∧ ((q : Int) == 0) = false ∧ q ≤ 63) ∨
    (Hid (stepD (a, n, q) b = none) ∧ (b.toNat : Int) = 45 ∧ (a == 46) = true) ∨
    (Hid (stepD (a, n, q) b = none) ∧ (b.toNat : Int) = 46 ∧ (a == 46) = true) ∨
    (Hid (stepD (a, n, q) b = none) ∧ (b.toNat : Int) = 46 ∧ (a == 46) = false ∧ (a == 45) = true) ∨
    (Hid (stepD (a, n, q) b = none) ∧ (b.toNat : Int) = 46 ∧ (a == 46) = false ∧ (a == 45) = false ∧ 63 < q) ∨
    (Hid (stepD (a, n, q) b = none) ∧ (b.toNat : Int) = 46 ∧ (a == 46) = false ∧ (a == 45) = false ∧ q ≤ 63 ∧ ((q : Int) == 0) = true) ∨
    (Hid (stepD (a, n, q) b = none) ∧ (b.toNat : Int) < 45) ∨
    (Hid (stepD (a, n, q) b = none) ∧ (b.toNat : Int) = 47) ∨
    (Hid (stepD (a, n, q) b = none) ∧ 58 ≤ (b.toNat : Int) ∧ (b.toNat : Int) < 65 ∧ ((b.toNat : Int) == 95) = false) ∨
    (Hid (stepD (a, n, q) b = none) ∧ 91 ≤ (b.toNat : Int) ∧ (b.toNat : Int) < 95 ∧ ((b.toNat : Int) == 95) = false) ∨
    (Hid (stepD (a, n, q) b = none) ∧ (b.toNat : Int) = 96) ∨
    (Hid (stepD (a, n, q) b = none) ∧ 122 < (b.toNat : Int) ∧ ((b.toNat : Int) == 95) = false ∧ ((b.toNat : Int) == 45) = false ∧ ((b.toNat : Int) == 46) = false) := by
  have e : ∀ c : Nat, (b.toNat : Int) = c → b.toNat = c := fun c h => by omega
  by_cases h1 : (b.toNat : Int) < 45
  · refine Or.inr ?_; refine Or.inr ?_; refine Or.inr ?_; refine Or.inr ?_; refine Or.inr ?_; refine Or.inr ?_; refine Or.inr ?_; refine Or.inr ?_; refine Or.inr ?_; refine Or.inr ?_; refine Or.inr ?_; refine Or.inl ?_; exact ⟨by unfold Hid stepD; simp only []; (repeat (first | rw [if_pos (by omega)] | rw [if_neg (by omega)])); (try simp only [*]); (try rfl), h1⟩
  by_cases h2 : (b.toNat : Int) = 45
  · by_cases g : a = 46
    · refine Or.inr ?_; refine Or.inr ?_; refine Or.inr ?_; refine Or.inr ?_; refine Or.inr ?_; refine Or.inr ?_; refine Or.inl ?_; exact ⟨by unfold Hid stepD; simp only []; (repeat (first | rw [if_pos (by omega)] | rw [if_neg (by omega)])); (try simp only [*]); (try rfl), h2, by simpa using g⟩
    · refine Or.inr ?_; refine Or.inr ?_; refine Or.inr ?_; refine Or.inr ?_; refine Or.inl ?_; exact ⟨by unfold Hid stepD; simp only []; (repeat (first | rw [if_pos (by omega)] | rw [if_neg (by omega)])); (try simp only [*]); (try rfl), h2, by simpa using g⟩
  by_cases h3 : (b.toNat : Int) = 46
  · by_cases g : a = 46
    · refine Or.inr ?_; refine Or.inr ?_; refine Or.inr ?_; refine Or.inr ?_; refine Or.inr ?_; refine Or.inr ?_; refine Or.inr ?_; refine Or.inl ?_; exact ⟨by unfold Hid stepD; simp only []; (repeat (first | rw [if_pos (by omega)] | rw [if_neg (by omega)])); (try simp only [*]); (try rfl), h3, by simpa using g⟩
    by_cases g2 : a = 45
    · refine Or.inr ?_; refine Or.inr ?_; refine Or.inr ?_; refine Or.inr ?_; refine Or.inr ?_; refine Or.inr ?_; refine Or.inr ?_; refine Or.inr ?_; refine Or.inl ?_; exact ⟨by unfold Hid stepD; simp only []; (repeat (first | rw [if_pos (by omega)] | rw [if_neg (by omega)])); (try simp only [*]); (try rfl), h3, by simpa using g, by simpa using g2⟩
    by_cases g3 : 63 < q
    · refine Or.inr ?_; refine Or.inr ?_; refine Or.inr ?_; refine Or.inr ?_; refine Or.inr ?_; refine Or.inr ?_; refine Or.inr ?_; refine Or.inr ?_; refine Or.inr ?_; refine Or.inl ?_; exact ⟨by unfold Hid stepD; simp only []; (repeat (first | rw [if_pos (by omega)] | rw [if_neg (by omega)])); (try simp only [*]); (try rfl), h3, by simpa using g, by simpa using g2, g3⟩
    by_cases g4 : q = 0
    · refine Or.inr ?_; refine Or.inr ?_; refine Or.inr ?_; refine Or.inr ?_; refine Or.inr ?_; refine Or.inr ?_; refine Or.inr ?_; refine Or.inr ?_; refine Or.inr ?_; refine Or.inr ?_; refine Or.inl ?_; exact ⟨by unfold Hid stepD; simp only []; (repeat (first | rw [if_pos (by omega)] | rw [if_neg (by omega)])); (try simp only [*]); (try rfl), h3, by simpa using g, by simpa using g2, by omega, by simpa using g4⟩
    · refine Or.inr ?_; refine Or.inr ?_; refine Or.inr ?_; refine Or.inr ?_; refine Or.inr ?_; refine Or.inl ?_; exact ⟨by unfold Hid stepD; simp only []; (repeat (first | rw [if_pos (by omega)] | rw [if_neg (by omega)])); (try simp only [*]); (try rfl), h3, by simpa using g, by simpa using g2, by simpa using g4, by omega⟩
  by_cases h4 : (b.toNat : Int) = 47
  · refine Or.inr ?_; refine Or.inr ?_; refine Or.inr ?_; refine Or.inr ?_; refine Or.inr ?_; refine Or.inr ?_; refine Or.inr ?_; refine Or.inr ?_; refine Or.inr ?_; refine Or.inr ?_; refine Or.inr ?_; refine Or.inr ?_; refine Or.inl ?_; exact ⟨by unfold Hid stepD; simp only []; (repeat (first | rw [if_pos (by omega)] | rw [if_neg (by omega)])); (try simp only [*]); (try rfl), h4⟩
  by_cases h5 : (b.toNat : Int) ≤ 57
  · refine Or.inr ?_; refine Or.inr ?_; refine Or.inr ?_; refine Or.inl ?_; exact ⟨by unfold Hid stepD; simp only []; (repeat (first | rw [if_pos (by omega)] | rw [if_neg (by omega)])); (try simp only [*]); (try rfl), by omega, h5⟩
  by_cases h6 : (b.toNat : Int) < 65
  · refine Or.inr ?_; refine Or.inr ?_; refine Or.inr ?_; refine Or.inr ?_; refine Or.inr ?_; refine Or.inr ?_; refine Or.inr ?_; refine Or.inr ?_; refine Or.inr ?_; refine Or.inr ?_; refine Or.inr ?_; refine Or.inr ?_; refine Or.inr ?_; refine Or.inl ?_; exact ⟨by unfold Hid stepD; simp only []; (repeat (first | rw [if_pos (by omega)] | rw [if_neg (by omega)])); (try simp only [*]); (try rfl), by omega, h6, by rw [beq_eq_false_iff_ne]; omega⟩
  by_cases h7 : (b.toNat : Int) ≤ 90
  · refine Or.inr ?_; refine Or.inl ?_; exact ⟨by unfold Hid stepD; simp only []; (repeat (first | rw [if_pos (by omega)] | rw [if_neg (by omega)])); (try simp only [*]); (try rfl), by omega, h7⟩
  by_cases h8 : (b.toNat : Int) < 95
  · refine Or.inr ?_; refine Or.inr ?_; refine Or.inr ?_; refine Or.inr ?_; refine Or.inr ?_; refine Or.inr ?_; refine Or.inr ?_; refine Or.inr ?_; refine Or.inr ?_; refine Or.inr ?_; refine Or.inr ?_; refine Or.inr ?_; refine Or.inr ?_; refine Or.inr ?_; refine Or.inl ?_; exact ⟨by unfold Hid stepD; simp only []; (repeat (first | rw [if_pos (by omega)] | rw [if_neg (by omega)])); (try simp only [*]); (try rfl), by omega, h8, by rw [beq_eq_false_iff_ne]; omega⟩
  by_cases h9 : (b.toNat : Int) = 95
  · refine Or.inr ?_; refine Or.inr ?_; refine Or.inl ?_; exact ⟨by unfold Hid stepD; simp only []; (repeat (first | rw [if_pos (by omega)] | rw [if_neg (by omega)])); (try simp only [*]); (try rfl), h9⟩
  by_cases h10 : (b.toNat : Int) = 96
  · refine Or.inr ?_; refine Or.inr ?_; refine Or.inr ?_; refine Or.inr ?_; refine Or.inr ?_; refine Or.inr ?_; refine Or.inr ?_; refine Or.inr ?_; refine Or.inr ?_; refine Or.inr ?_; refine Or.inr ?_; refine Or.inr ?_; refine Or.inr ?_; refine Or.inr ?_; refine Or.inr ?_; refine Or.inl ?_; exact ⟨by unfold Hid stepD; simp only []; (repeat (first | rw [if_pos (by omega)] | rw [if_neg (by omega)])); (try simp only [*]); (try rfl), h10⟩
  by_cases h11 : (b.toNat : Int) ≤ 122
  · refine Or.inl ?_; exact ⟨by unfold Hid stepD; simp only []; (repeat (first | rw [if_pos (by omega)] | rw [if_neg (by omega)])); (try simp only [*]); (try rfl), by omega, h11⟩
  · refine Or.inr ?_; refine Or.inr ?_; refine Or.inr ?_; refine Or.inr ?_; refine Or.inr ?_; refine Or.inr ?_; refine Or.inr ?_; refine Or.inr ?_; refine Or.inr ?_; refine Or.inr ?_; refine Or.inr ?_; refine Or.inr ?_; refine Or.inr ?_; refine Or.inr ?_; refine Or.inr ?_; refine Or.inr ?_; exact ⟨by unfold Hid stepD; simp only []; (repeat (first | rw [if_pos (by omega)] | rw [if_neg (by omega)])); (try simp only [*]); (try rfl), by omega, by rw [beq_eq_false_iff_ne]; omega, by rw [beq_eq_false_iff_ne]; omega, by rw [beq_eq_false_iff_ne]; omega⟩

/-- the package's answer -/
def domB (l : List UInt8) : Bool :=
  if l = [46] then true
  else if l.length = 0 ∨ 254 < l.length ∨ (l.length = 254 ∧ l.getLast? ≠ some 46) then false
  else match runD l with
    | none => false
    | some st => if st.1 = 45 ∨ 63 < st.2.2 then false else st.2.1

theorem domB_dead (l : List UInt8) (h1 : l ≠ [46]) (h : runD l = none) : domB l = false := by
  unfold domB
  rw [if_neg h1, h]
  split <;> rfl

theorem fin_no (a : Int) (b : Bool) (q : Nat) (h : a = 45 ∨ 63 < q) : (if (a, b, q).1 = 45 ∨ 63 < (a, b, q).2.2 then false else (a, b, q).2.1) = false := if_pos h
theorem fin_yes (a : Int) (b : Bool) (q : Nat) (h : ¬ (a = 45 ∨ 63 < q)) : (if (a, b, q).1 = 45 ∨ 63 < (a, b, q).2.2 then false else (a, b, q).2.1) = b := if_neg h

end Go.Proofs.YtfkohahlpfejbaaDoor.pl

/- PlIsN: PLAIN: the reference's domain names. -/
namespace Go.Proofs.YtfkohahlpfejbaaDoor.pl

/-- a byte (made small) that makes a name one that is said of -/
def sdB (c : UInt8) : Bool := (decide (97 ≤ (c.toNat : Int)) && decide ((c.toNat : Int) ≤ 122)) || ((c.toNat : Int) == 45) || ((c.toNat : Int) == 95)
/-- a byte (made small) of a label -/
def nbB (c : UInt8) : Bool := (decide (97 ≤ (c.toNat : Int)) && decide ((c.toNat : Int) ≤ 122)) || (decide (48 ≤ (c.toNat : Int)) && decide ((c.toNat : Int) ≤ 57)) || ((c.toNat : Int) == 45) || ((c.toNat : Int) == 95)
def headB (l : List UInt8) : Bool := decide (1 ≤ l.length) && decide (l.length ≤ 63) && (l.head? != some 45) && (l.getLast? != some 45)
def okLab (l : List UInt8) : Bool := headB l && (l.map lowB).all nbB
def cutDot (l : List UInt8) : List UInt8 := if l.getLast? = some 46 then l.dropLast else l
def lenB (l : List UInt8) : Bool := decide (1 ≤ l.length) && decide (l.length ≤ 253)
def isN (l : List UInt8) : Bool := if l = [46] then true else lenB (cutDot l) && (split 46 (cutDot l)).all okLab
def saN (l : List UInt8) : Bool := if l = [46] then true else (split 46 (cutDot l)).any (fun p => (p.map lowB).any sdB) || !isN l

theorem strV_of (L : ByteArray) : strV L.data.toList = .string L := by
  obtain ⟨⟨l⟩⟩ := L
  rfl

theorem low_one (L : ByteArray) (k : Nat) (h : k < L.size) : low (L.extract k (k + 1)).data.toList = [lowB L[k]] := by
  have hl : L.data.toList.length = L.size := by simp
  rw [Lib.extract_data, low]
  have hd : L.data.toList.drop k = L[k] :: L.data.toList.drop (k + 1) := by
    rw [List.drop_eq_getElem_cons (by omega)]; rfl
  rw [hd, show k + 1 - k = 1 by omega]
  rfl

theorem all_take_succ (f : UInt8 → Bool) (L : ByteArray) (k : Nat) (h : k < L.size) : ((L.data.toList.take (k + 1)).map lowB).all f = (((L.data.toList.take k).map lowB).all f && f (lowB L[k])) := by
  rw [take_succ L k h]; simp
theorem any_take_succ (f : UInt8 → Bool) (L : ByteArray) (k : Nat) (h : k < L.size) : ((L.data.toList.take (k + 1)).map lowB).any f = (((L.data.toList.take k).map lowB).any f || f (lowB L[k])) := by
  rw [take_succ L k h]; simp

theorem headB_short (M : ByteArray) (h : M.size < 1) : headB M.data.toList = false := by
  have hl : M.data.toList.length = M.size := by simp
  unfold headB; rw [hl, decide_eq_false (by omega)]; rfl
theorem headB_long (M : ByteArray) (h : 63 < M.size) : headB M.data.toList = false := by
  have hl : M.data.toList.length = M.size := by simp
  unfold headB; rw [hl, decide_eq_false (p := M.size ≤ 63) (by omega)]; simp
theorem head_get (M : ByteArray) (h : 1 ≤ M.size) : M.data.toList.head? = some (M[0]) := by
  rw [List.head?_eq_getElem?]; exact getElem_data M 0 (by omega)
theorem some_ne (b : UInt8) : (some b != some (45 : UInt8)) = ((b.toNat : Int) != 45) := by
  rw [Bool.eq_iff_iff, bne_iff_ne, bne_iff_ne]
  constructor
  · intro h e
    apply h
    congr 1
    apply UInt8.toNat_inj.1
    have : (45 : UInt8).toNat = 45 := rfl
    omega
  · rintro h e
    injection e with e
    rw [e] at h
    exact h rfl
theorem headB_mid (M : ByteArray) (h : 1 ≤ M.size) (h2 : M.size ≤ 63) : headB M.data.toList = (((M[0].toNat : Int) != 45) && ((M[M.size - 1].toNat : Int) != 45)) := by
  have hl : M.data.toList.length = M.size := by simp
  unfold headB
  rw [hl, decide_eq_true h, decide_eq_true h2, head_get M h, last_get M h, some_ne, some_ne]
  rfl

open Go.RowKit in
theorem sd_cases (x : UInt8) : (Hid (sdB x = true) ∧ 97 ≤ (x.toNat : Int) ∧ (x.toNat : Int) ≤ 122) ∨ (Hid (sdB x = true) ∧ (x.toNat : Int) < 97 ∧ ((x.toNat : Int) == 45) = true) ∨ (Hid (sdB x = true) ∧ (x.toNat : Int) < 97 ∧ ((x.toNat : Int) == 45) = false ∧ ((x.toNat : Int) == 95) = true) ∨
    (Hid (sdB x = false) ∧ (x.toNat : Int) < 97 ∧ ((x.toNat : Int) == 45) = false ∧ ((x.toNat : Int) == 95) = false) ∨ (Hid (sdB x = false) ∧ 122 < (x.toNat : Int) ∧ ((x.toNat : Int) == 45) = false ∧ ((x.toNat : Int) == 95) = false) := by
  unfold Hid sdB
  by_cases h1 : 97 ≤ (x.toNat : Int)
  · by_cases h2 : (x.toNat : Int) ≤ 122
    · exact Or.inl ⟨by simp [h1, h2], h1, h2⟩
    · have e1 : ((x.toNat : Int) == 45) = false := by rw [beq_eq_false_iff_ne]; omega
      have e2 : ((x.toNat : Int) == 95) = false := by rw [beq_eq_false_iff_ne]; omega
      exact Or.inr (Or.inr (Or.inr (Or.inr ⟨by simp [e1, e2, h2], by omega, e1, e2⟩)))
  · have h3 : (x.toNat : Int) < 97 := by omega
    rcases e1 : ((x.toNat : Int) == 45) with _ | _
    · rcases e2 : ((x.toNat : Int) == 95) with _ | _
      · exact Or.inr (Or.inr (Or.inr (Or.inl ⟨by simp [h1], h3, rfl, rfl⟩)))
      · exact Or.inr (Or.inr (Or.inl ⟨by simp, h3, rfl, rfl⟩))
    · exact Or.inr (Or.inl ⟨by simp, h3, rfl⟩)

open Go.RowKit in
theorem nb_cases (x : UInt8) : (Hid (nbB x = true) ∧ 97 ≤ (x.toNat : Int) ∧ (x.toNat : Int) ≤ 122) ∨ (Hid (nbB x = true) ∧ 48 ≤ (x.toNat : Int) ∧ (x.toNat : Int) ≤ 57) ∨ (Hid (nbB x = true) ∧ (x.toNat : Int) < 48 ∧ ((x.toNat : Int) == 45) = true) ∨ (Hid (nbB x = true) ∧ 57 < (x.toNat : Int) ∧ (x.toNat : Int) < 97 ∧ ((x.toNat : Int) == 45) = false ∧ ((x.toNat : Int) == 95) = true) ∨
    (Hid (nbB x = false) ∧ (x.toNat : Int) < 48 ∧ ((x.toNat : Int) == 45) = false ∧ ((x.toNat : Int) == 95) = false) ∨ (Hid (nbB x = false) ∧ 57 < (x.toNat : Int) ∧ (x.toNat : Int) < 97 ∧ ((x.toNat : Int) == 45) = false ∧ ((x.toNat : Int) == 95) = false) ∨ (Hid (nbB x = false) ∧ 122 < (x.toNat : Int) ∧ ((x.toNat : Int) == 45) = false ∧ ((x.toNat : Int) == 95) = false) := by
  unfold Hid nbB
  by_cases h1 : 97 ≤ (x.toNat : Int)
  · by_cases h2 : (x.toNat : Int) ≤ 122
    · exact Or.inl ⟨by simp [h1, h2], h1, h2⟩
    · have e1 : ((x.toNat : Int) == 45) = false := by rw [beq_eq_false_iff_ne]; omega
      have e2 : ((x.toNat : Int) == 95) = false := by rw [beq_eq_false_iff_ne]; omega
      have e3 : ¬ (x.toNat : Int) ≤ 57 := by omega
      exact Or.inr (Or.inr (Or.inr (Or.inr (Or.inr (Or.inr ⟨by simp [e1, e2, e3, h2], by omega, e1, e2⟩)))))
  · by_cases h2 : (x.toNat : Int) < 48
    · have e2 : ((x.toNat : Int) == 95) = false := by rw [beq_eq_false_iff_ne]; omega
      have e3 : ¬ 48 ≤ (x.toNat : Int) := by omega
      rcases e1 : ((x.toNat : Int) == 45) with _ | _
      · exact Or.inr (Or.inr (Or.inr (Or.inr (Or.inl ⟨by simp [e2, e3, h1], h2, rfl, e2⟩))))
      · exact Or.inr (Or.inr (Or.inl ⟨by simp, h2, rfl⟩))
    · have e1 : ((x.toNat : Int) == 45) = false := by rw [beq_eq_false_iff_ne]; omega
      by_cases h3 : (x.toNat : Int) ≤ 57
      · exact Or.inr (Or.inl ⟨by simp [h3, show 48 ≤ (x.toNat : Int) by omega], by omega, h3⟩)
      · rcases e2 : ((x.toNat : Int) == 95) with _ | _
        · exact Or.inr (Or.inr (Or.inr (Or.inr (Or.inr (Or.inl ⟨by simp [e1, h1, h3], by omega, by omega, e1, rfl⟩)))))
        · exact Or.inr (Or.inr (Or.inr (Or.inl ⟨by simp, by omega, by omega, e1, rfl⟩)))

theorem take_snoc_of {α : Type} (l : List α) (k : Nat) (x : α) (h : l[k]? = some x) : l.take (k + 1) = l.take k ++ [x] := by
  obtain ⟨hk, e⟩ := List.getElem?_eq_some_iff.1 h
  rw [List.take_succ_eq_append_getElem hk, e]

theorem snoc_ind {α : Type} {P : List α → Prop} (h0 : P []) (hs : ∀ l b, P l → P (l ++ [b])) (l : List α) : P l := by
  have h : ∀ r : List α, P r.reverse := by
    intro r
    induction r with
    | nil => exact h0
    | cons b r ih => rw [List.reverse_cons]; exact hs _ _ ih
  simpa using h l.reverse

theorem runS_part (c : Int) (l : List UInt8) : (∀ p ∈ (runS c l).1, p.length ≤ l.length) ∧ (runS c l).2.length ≤ l.length := by
  refine snoc_ind (P := fun l => (∀ p ∈ (runS c l).1, p.length ≤ l.length) ∧ (runS c l).2.length ≤ l.length) (by simp [runS]) ?_ l
  · intro l b ih
    rw [runS_snoc, stepS]
    split
    · refine ⟨?_, by simp⟩
      intro p hp
      rw [List.mem_append, List.mem_singleton] at hp
      rcases hp with h | h
      · have := ih.1 p h; simp; omega
      · rw [h]; have := ih.2; simp; omega
    · refine ⟨fun p hp => by have := ih.1 p hp; simp; omega, by have := ih.2; simp; omega⟩

theorem split_part (c : Int) (l p : List UInt8) (h : p ∈ split c l) : p.length ≤ l.length := by
  rw [split, List.mem_append, List.mem_singleton] at h
  rcases h with h | h
  · exact (runS_part c l).1 p h
  · rw [h]; exact (runS_part c l).2

theorem split_len (c : Int) (L : ByteArray) : (split c L.data.toList).length ≤ L.size + 1 := by
  have := runS_len c L.data.toList
  have h2 : L.data.toList.length = L.size := by simp
  rw [split]
  simp only [List.length_append, List.length_singleton]
  omega

theorem split_size (c : Int) (L : ByteArray) (k : Nat) (M : ByteArray) (h : (split c L.data.toList)[k]? = some M.data.toList) : M.size ≤ L.size := by
  have := split_part c _ _ (List.mem_of_getElem? h)
  have h1 : M.data.toList.length = M.size := by simp
  have h2 : L.data.toList.length = L.size := by simp
  omega

end Go.Proofs.YtfkohahlpfejbaaDoor.pl

/- PlHost: PLAIN: the last place of a byte; hosts, ports and zones. -/
namespace Go.Proofs.YtfkohahlpfejbaaDoor.pl

/-- the last place of a byte, or -1 -/
def lidx (l : List UInt8) (c : Int) : Int :=
  match l.reverse.findIdx? (isB c) with
  | some j => (l.length : Int) - 1 - j
  | none => -1

theorem drop_cons (s : ByteArray) (k : Nat) (h : k < s.size) : s.data.toList.drop k = s[k] :: s.data.toList.drop (k + 1) := by
  have hl : s.data.toList.length = s.size := by simp
  rw [List.drop_eq_getElem_cons (by omega)]; rfl

theorem lidx_none (l : List UInt8) (c : Int) (h : ∀ x ∈ l, isB c x = false) : lidx l c = -1 := by
  have : l.reverse.findIdx? (isB c) = none := by
    rw [List.findIdx?_eq_none_iff]; intro x hx; exact h x (List.mem_reverse.1 hx)
  simp [lidx, this]

/-- a hit behind which there is none -/
theorem lidx_app (a b : List UInt8) (x : UInt8) (c : Int) (hx : isB c x = true) (hb : ∀ y ∈ b, isB c y = false) : lidx (a ++ x :: b) c = a.length := by
  have h : (a ++ x :: b).reverse.findIdx? (isB c) = some b.length := by
    rw [List.findIdx?_eq_some_iff_getElem]
    refine ⟨by simp, ?_, ?_⟩
    · simp [hx]
    · intro j hj
      have hjl : j < b.length := by omega
      have e : (a ++ x :: b).reverse[j]'(by simp; omega) = b.reverse[j]'(by simpa using hjl) := by
        simp only [List.reverse_append, List.reverse_cons, List.append_assoc]
        rw [List.getElem_append_left (by simpa using hjl)]
      rw [e]
      have := hb (b.reverse[j]'(by simpa using hjl)) (List.mem_reverse.1 (List.getElem_mem _))
      simpa using this
  unfold lidx
  rw [h]
  simp
  omega

theorem lidx_hit (s : ByteArray) (c : Int) (k : Nat) (h : k < s.size) (hk : ((s[k].toNat : Int) == c) = true) (hn : ∀ x ∈ s.data.toList.drop (k + 1), isB c x = false) : lidx s.data.toList c = k := by
  have hl : s.data.toList.length = s.size := by simp
  have e : s.data.toList = s.data.toList.take k ++ s[k] :: s.data.toList.drop (k + 1) := by
    rw [← drop_cons s k h, List.take_append_drop]
  rw [e, lidx_app _ _ _ _ hk hn, List.length_take]
  omega

theorem none_pred (s : ByteArray) (c : Int) (k : Nat) (h : k < s.size) (hn : ∀ x ∈ s.data.toList.drop (k + 1), isB c x = false) (hk : ((s[k].toNat : Int) == c) = false) : ∀ x ∈ s.data.toList.drop k, isB c x = false := by
  rw [drop_cons s k h]
  intro x hx
  rcases List.mem_cons.1 hx with rfl | hx
  · exact hk
  · exact hn x hx

/-- a text is cut at the last place of a byte -/
theorem lidx_parts (l : List UInt8) (c : UInt8) (h : 0 ≤ lidx l c.toNat) : ∃ a b, l = a ++ c :: b ∧ c ∉ b ∧ lidx l c.toNat = a.length := by
  refine snoc_ind (P := fun l => 0 ≤ lidx l c.toNat → ∃ a b, l = a ++ c :: b ∧ c ∉ b ∧ lidx l c.toNat = a.length) ?_ ?_ l h
  · intro h; simp [lidx] at h
  · intro l x ih h
    by_cases hx : x = c
    · subst hx
      exact ⟨l, [], rfl, by simp, by rw [lidx_app l [] x _ (by simp [isB]) (by simp)]⟩
    · by_cases hm : 0 ≤ lidx l c.toNat
      · obtain ⟨a, b, h1, h2, h3⟩ := ih hm
        have hnb : ∀ y ∈ b ++ [x], isB c.toNat y = false := by
          intro y hy
          unfold isB
          rw [beq_eq_false_iff_ne]
          intro e
          have : y = c := UInt8.toNat_inj.1 (by omega)
          subst this
          rcases List.mem_append.1 hy with hy | hy
          · exact h2 hy
          · exact hx (List.mem_singleton.1 hy).symm
        refine ⟨a, b ++ [x], by rw [h1]; simp, ?_, ?_⟩
        · intro hc
          have := hnb c hc
          simp [isB] at this
        · rw [h1]
          show lidx (a ++ c :: b ++ [x]) _ = _
          rw [List.append_assoc]
          exact lidx_app a (b ++ [x]) c _ (by simp [isB]) hnb
      · exfalso
        have hno : ∀ y ∈ l, isB c.toNat y = false := by
          intro y hy
          cases hb : isB c.toNat y with
          | false => rfl
          | true =>
            exfalso
            apply hm
            unfold lidx
            cases hf : l.reverse.findIdx? (isB c.toNat) with
            | none =>
              rw [List.findIdx?_eq_none_iff] at hf
              rw [hf y (List.mem_reverse.2 hy)] at hb
              cases hb
            | some j =>
              obtain ⟨hj, _⟩ := List.findIdx?_eq_some_iff_getElem.1 hf
              simp at hj
              simp
              omega
        have : lidx (l ++ [x]) c.toNat = -1 := by
          apply lidx_none
          intro y hy
          rcases List.mem_append.1 hy with hy | hy
          · exact hno y hy
          · rw [List.mem_singleton.1 hy]
            unfold isB
            rw [beq_eq_false_iff_ne]
            intro e
            exact hx (UInt8.toNat_inj.1 (by omega))
        omega

theorem lidx_neg (l : List UInt8) (c : UInt8) : lidx l c.toNat < 0 ↔ c ∉ l := by
  constructor
  · intro h hc
    have : ∀ y ∈ l.reverse, isB c.toNat y = false := by
      unfold lidx at h
      cases hf : l.reverse.findIdx? (isB c.toNat) with
      | none => rw [List.findIdx?_eq_none_iff] at hf; exact hf
      | some j =>
        rw [hf] at h
        obtain ⟨hj, _⟩ := List.findIdx?_eq_some_iff_getElem.1 hf
        simp at hj h
        omega
    have := this c (List.mem_reverse.2 hc)
    simp [isB] at this
  · intro h
    have hn : ∀ y ∈ l, isB c.toNat y = false := by
      intro y hy
      unfold isB
      rw [beq_eq_false_iff_ne]
      intro e
      apply h
      have : y = c := UInt8.toNat_inj.1 (by omega)
      rw [← this]; exact hy
    rw [lidx_none l _ hn]
    omega

theorem idx_neg (l : List UInt8) (c : UInt8) : idx l c.toNat < 0 ↔ c ∉ l := by
  rw [← idx_ge l c]; omega

/-- a text is cut at the first place of a byte -/
theorem idx_parts (l : List UInt8) (c : UInt8) (h : 0 ≤ idx l c.toNat) : ∃ a b, l = a ++ c :: b ∧ c ∉ a ∧ idx l c.toNat = a.length := by
  unfold idx at h ⊢
  cases hf : l.findIdx? (isB c.toNat) with
  | none => rw [hf] at h; simp at h
  | some i =>
    obtain ⟨hi, hp, hn⟩ := List.findIdx?_eq_some_iff_getElem.1 hf
    have hc : l[i] = c := by
      have := beq_iff_eq.1 hp
      exact UInt8.toNat_inj.1 (by omega)
    refine ⟨l.take i, l.drop (i + 1), ?_, ?_, ?_⟩
    · rw [← hc, ← List.drop_eq_getElem_cons hi, List.take_append_drop]
    · intro hm
      obtain ⟨j, hj, e⟩ := List.mem_take_iff_getElem.1 hm
      have := hn j (by omega)
      rw [e] at this
      simp [isB] at this
    · simp; omega

theorem idx_app (a b : List UInt8) (c : UInt8) (ha : c ∉ a) : idx (a ++ c :: b) c.toNat = a.length := by
  have : (a ++ c :: b).findIdx? (isB c.toNat) = some a.length := by
    rw [List.findIdx?_eq_some_iff_getElem]
    refine ⟨by simp, by simp [isB], ?_⟩
    intro j hj
    rw [List.getElem_append_left hj]
    have hne : a[j] ≠ c := by
      intro e; apply ha; rw [← e]; exact List.getElem_mem hj
    unfold isB
    simp only [beq_iff_eq]
    intro e
    exact hne (UInt8.toNat_inj.1 (by omega))
  simp [idx, this]

theorem idx_lt (l : List UInt8) (c : Int) : idx l c < l.length ∨ idx l c = -1 := by
  unfold idx
  cases hf : l.findIdx? (isB c) with
  | none => right; rfl
  | some i =>
    left
    obtain ⟨hi, _⟩ := List.findIdx?_eq_some_iff_getElem.1 hf
    simp; omega

theorem idx_ge_neg (l : List UInt8) (c : Int) : -1 ≤ idx l c := by
  unfold idx; split <;> omega

theorem lidx_lt (l : List UInt8) (c : Int) : lidx l c < l.length := by
  unfold lidx
  split <;> omega

theorem lidx_ge_neg (l : List UInt8) (c : Int) : -1 ≤ lidx l c := by
  unfold lidx
  split
  · rename_i j hf
    obtain ⟨hj, _⟩ := List.findIdx?_eq_some_iff_getElem.1 hf
    simp at hj
    omega
  · omega

theorem ext_take (s : ByteArray) (j : Nat) : s.extract 0 j = ⟨(s.data.toList.take j).toArray⟩ := by
  rw [Lib.extract_eq]; simp
theorem ext_drop (s : ByteArray) (j : Nat) : s.extract j s.size = ⟨(s.data.toList.drop j).toArray⟩ := by
  rw [Lib.extract_eq]
  congr 2
  have hl : s.data.toList.length = s.size := by simp
  exact List.take_of_length_le (by rw [List.length_drop]; omega)
theorem ext_mid (s : ByteArray) (i j : Nat) : s.extract i j = ⟨((s.data.toList.take j).drop i).toArray⟩ := by
  rw [Lib.extract_eq, List.drop_take]

theorem idx_at (s : ByteArray) (k : Nat) (c : Int) (h : idx s.data.toList c = (k : Int)) (hk : k < s.size) : (s[k].toNat : Int) = c := by
  have hl : s.data.toList.length = s.size := by simp
  unfold idx at h
  cases hf : s.data.toList.findIdx? (isB c) with
  | none => rw [hf] at h; simp at h
  | some i =>
    rw [hf] at h
    obtain ⟨hi, hp, _⟩ := List.findIdx?_eq_some_iff_getElem.1 hf
    have e : i = k := by simp at h; omega
    subst e
    exact beq_iff_eq.1 hp

/-- the package's host and port -/
def splitHP (l : List UInt8) : Option (List UInt8 × List UInt8) :=
  if lidx l 58 < 0 then none
  else if l.head? = some 91 then
    if idx l 93 < 0 then none
    else if idx l 93 + 1 = l.length then none
    else if idx l 93 + 1 ≠ lidx l 58 then none
    else if 0 ≤ idx (l.drop 1) 91 then none
    else if 0 ≤ idx (l.drop (idx l 93 + 1).toNat) 93 then none
    else some ((l.take (idx l 93).toNat).drop 1, l.drop (lidx l 58 + 1).toNat)
  else if 0 ≤ idx (l.take (lidx l 58).toNat) 58 then none
  else if 0 ≤ idx l 91 then none
  else if 0 ≤ idx l 93 then none
  else some (l.take (lidx l 58).toNat, l.drop (lidx l 58 + 1).toNat)

/-- the package's host and zone -/
def splitHZ (l : List UInt8) : List UInt8 × List UInt8 :=
  if 0 < lidx l 37 then (l.take (lidx l 37).toNat, l.drop (lidx l 37 + 1).toNat) else (l, [])

end Go.Proofs.YtfkohahlpfejbaaDoor.pl

/- PlHostLaw: PLAIN: the laws of zones, hosts and ports. -/
namespace Go.Proofs.YtfkohahlpfejbaaDoor.pl

theorem ne_empty (s : ByteArray) (h : s.size ≠ 0) : s.toList.isEmpty = false := by
  rw [Lib.toList_data]
  have hl : s.data.toList.length = s.size := by simp
  cases hc : s.data.toList with
  | nil => rw [hc] at hl; simp at hl; omega
  | cons a b => rfl
theorem data_ne (s : ByteArray) (h : s.size ≠ 0) : s.data.toList ≠ [] := by
  have hl : s.data.toList.length = s.size := by simp
  intro e
  rw [e] at hl
  simp at hl
  omega

theorem nil_of (s : ByteArray) (h : s.size = 0) : s.data.toList = [] := by
  have hl : s.data.toList.length = s.size := by simp
  exact List.eq_nil_of_length_eq_zero (by omega)
theorem emp_of (s : ByteArray) (h : s.size = 0) : s.toList.isEmpty = true := by
  rw [Lib.toList_data, nil_of s h]; rfl

theorem zone_law (a b : List UInt8) (ha : a ≠ []) (hb : (37 : UInt8) ∉ b) : splitHZ (a ++ [37] ++ b) = (a, b) := by
  have h : lidx (a ++ [37] ++ b) 37 = a.length := by
    rw [List.append_assoc]
    refine lidx_app a b 37 37 (by decide) ?_
    intro y hy
    unfold isB
    rw [beq_eq_false_iff_ne]
    intro e
    apply hb
    have : y = 37 := UInt8.toNat_inj.1 (by have : (37 : UInt8).toNat = 37 := rfl
                                           omega)
    rw [← this]; exact hy
  have hl := List.length_pos_iff.2 ha
  unfold splitHZ
  rw [h, if_pos (by omega)]
  have e1 : ((a.length : Int) + 1).toNat = (a ++ [37]).length := by simp
  rw [e1, List.drop_left]
  simp

/-- before and behind the first place of a byte -/
def cutS (l : List UInt8) (c : Int) : List UInt8 × List UInt8 × Bool := if idx l c < 0 then (l, [], false) else (l.take (idx l c).toNat, l.drop (idx l c + 1).toNat, true)

theorem cutS_hit (s : ByteArray) (c : Int) (k : Nat) (h : k < s.size) (hn : ∀ x ∈ s.data.toList.take k, isB c x = false) (hk : ((s[k].toNat : Int) == c) = true) :
    cutS s.data.toList c = (s.data.toList.take k, s.data.toList.drop (k + 1), true) := by
  rw [cutS, idx_hit s c k h hn hk, if_neg (by omega)]
  rfl
theorem cutS_miss (l : List UInt8) (c : Int) (hn : ∀ x ∈ l, isB c x = false) : cutS l c = (l, [], false) := by
  rw [cutS, idx_miss l c hn, if_pos (by omega)]

theorem cutS_size (l : List UInt8) (c : Int) : (cutS l c).1.length ≤ l.length ∧ (cutS l c).2.1.length ≤ l.length := by
  unfold cutS
  split
  · simp
  · simp; omega

theorem joined_len (h p : List UInt8) : (joined h p).length ≤ h.length + p.length + 3 := by
  unfold joined
  split <;> simp <;> omega

/-- the reference's host and port -/
def hostPort (l : List UInt8) : List UInt8 × List UInt8 × Bool :=
  if l.head? = some 91 then
    if (cutS (l.drop 1) 93).2.2 = false then ([], [], false)
    else if (cutS (l.drop 1) 93).2.1 = [] then ([], [], false)
    else if (cutS (l.drop 1) 93).2.1.head? ≠ some 58 then ([], [], false)
    else if has (cutS (l.drop 1) 93).1 [91] = true then ([], [], false)
    else if has ((cutS (l.drop 1) 93).2.1.drop 1) [58, 91, 93] = true then ([], [], false)
    else ((cutS (l.drop 1) 93).1, (cutS (l.drop 1) 93).2.1.drop 1, true)
  else ((cutS l 58).1, (cutS l 58).2.1, (cutS l 58).2.2 && !has (cutS l 58).1 [91, 93] && !has (cutS l 58).2.1 [58, 91, 93])

theorem cutS_no (l : List UInt8) (c : UInt8) (k : Int) (hk : (c.toNat : Int) = k) (h : c ∉ l) : cutS l k = (l, [], false) := by
  subst hk
  rw [cutS, if_pos ((idx_neg l c).2 h)]
theorem cutS_yes (a b : List UInt8) (c : UInt8) (k : Int) (hk : (c.toNat : Int) = k) (h : c ∉ a) : cutS (a ++ c :: b) k = (a, b, true) := by
  subst hk
  rw [cutS, idx_app a b c h, if_neg (by omega)]
  have e1 : ((a.length : Int) + 1).toNat = (a ++ [c]).length := by simp
  have e2 : a ++ c :: b = a ++ [c] ++ b := by simp
  rw [e1]
  conv => lhs; rw [e2]
  rw [List.drop_left, List.append_assoc]
  simp

theorem has2 (l : List UInt8) (a b : UInt8) : has l [a, b] = true ↔ a ∈ l ∨ b ∈ l := by
  rw [has, List.any_eq_true]
  constructor
  · rintro ⟨x, hx, h⟩
    simp at h
    rcases h with rfl | rfl
    · exact Or.inl hx
    · exact Or.inr hx
  · rintro (h | h)
    · exact ⟨_, h, by simp⟩
    · exact ⟨_, h, by simp⟩
theorem has3 (l : List UInt8) (a b c : UInt8) : has l [a, b, c] = true ↔ a ∈ l ∨ b ∈ l ∨ c ∈ l := by
  rw [has, List.any_eq_true]
  constructor
  · rintro ⟨x, hx, h⟩
    simp at h
    rcases h with rfl | rfl | rfl
    · exact Or.inl hx
    · exact Or.inr (Or.inl hx)
    · exact Or.inr (Or.inr hx)
  · rintro (h | h | h)
    · exact ⟨_, h, by simp⟩
    · exact ⟨_, h, by simp⟩
    · exact ⟨_, h, by simp⟩

theorem idxN (l : List UInt8) (c : UInt8) (k : Int) (hk : (c.toNat : Int) = k) : idx l k < 0 ↔ c ∉ l := by subst hk; exact idx_neg l c
theorem idxG (l : List UInt8) (c : UInt8) (k : Int) (hk : (c.toNat : Int) = k) : 0 ≤ idx l k ↔ c ∈ l := by subst hk; exact idx_ge l c
theorem lidxN (l : List UInt8) (c : UInt8) (k : Int) (hk : (c.toNat : Int) = k) : lidx l k < 0 ↔ c ∉ l := by subst hk; exact lidx_neg l c
theorem lidxG (l : List UInt8) (c : UInt8) (h : c ∈ l) : 0 ≤ lidx l c.toNat := by
  rcases Int.lt_or_le (lidx l c.toNat) 0 with h1 | h1
  · exact absurd h ((lidx_neg l c).1 h1)
  · exact h1
theorem lidxA (a b : List UInt8) (c : UInt8) (k : Int) (hk : (c.toNat : Int) = k) (h : c ∉ b) : lidx (a ++ c :: b) k = a.length := by
  subst hk
  refine lidx_app a b c _ (by simp [isB]) ?_
  intro y hy
  unfold isB
  rw [beq_eq_false_iff_ne]
  intro e
  apply h
  rw [← (UInt8.toNat_inj.1 (by omega) : y = c)]
  exact hy
theorem idxA (a b : List UInt8) (c : UInt8) (k : Int) (hk : (c.toNat : Int) = k) (h : c ∉ a) : idx (a ++ c :: b) k = a.length := by subst hk; exact idx_app a b c h

/-- a text without an opening bracket ahead -/
theorem plain_law (l : List UInt8) (h : l.head? ≠ some 91) : (splitHP l = none ∧ (hostPort l).2.2 = false) ∨ ∃ x, splitHP l = some x ∧ hostPort l = (x.1, x.2, true) := by
  by_cases h1 : (58 : UInt8) ∈ l
  · obtain ⟨a, b, rfl, ha, _⟩ := idx_parts l 58 ((idx_ge l 58).2 h1)
    have hc := cutS_yes a b 58 58 rfl ha
    have hl : ¬ lidx (a ++ 58 :: b) 58 < 0 := by rw [lidxN _ 58 58 rfl]; simp
    have hh : hostPort (a ++ 58 :: b) = (a, b, true && !has a [91, 93] && !has b [58, 91, 93]) := by
      unfold hostPort; rw [if_neg h, hc]
    by_cases h2 : (58 : UInt8) ∈ b
    · left
      refine ⟨?_, ?_⟩
      · unfold splitHP
        rw [if_neg hl, if_neg h, if_pos]
        rw [idxG _ 58 58 rfl]
        obtain ⟨c, d, rfl, hd, _⟩ := lidx_parts b 58 (lidxG b 58 h2)
        have e : a ++ 58 :: (c ++ 58 :: d) = (a ++ 58 :: c) ++ 58 :: d := by simp
        rw [e, lidxA _ d 58 58 rfl hd, Int.toNat_natCast, List.take_left]
        simp
      · rw [hh]
        have : has b [58, 91, 93] = true := (has3 b 58 91 93).2 (Or.inl h2)
        rw [this]; simp
    · have hli := lidxA a b 58 58 rfl h2
      by_cases h3 : (91 : UInt8) ∈ a ++ 58 :: b
      · left
        refine ⟨?_, ?_⟩
        · unfold splitHP
          rw [if_neg hl, if_neg h, hli, if_neg (by rw [idxG _ 58 58 rfl]; simpa using ha), if_pos ((idxG _ 91 91 rfl).2 h3)]
        · rw [hh]
          rcases List.mem_append.1 h3 with h3 | h3
          · rw [(has2 a 91 93).2 (Or.inl h3)]; simp
          · rw [(has3 b 58 91 93).2 (Or.inr (Or.inl (by simpa using h3)))]; simp
      by_cases h4 : (93 : UInt8) ∈ a ++ 58 :: b
      · left
        refine ⟨?_, ?_⟩
        · unfold splitHP
          rw [if_neg hl, if_neg h, hli, if_neg (by rw [idxG _ 58 58 rfl]; simpa using ha), if_neg (by rw [idxG _ 91 91 rfl]; exact h3), if_pos ((idxG _ 93 93 rfl).2 h4)]
        · rw [hh]
          rcases List.mem_append.1 h4 with h4 | h4
          · rw [(has2 a 91 93).2 (Or.inr h4)]; simp
          · rw [(has3 b 58 91 93).2 (Or.inr (Or.inr (by simpa using h4)))]; simp
      · right
        refine ⟨(a, b), ?_, ?_⟩
        · unfold splitHP
          rw [if_neg hl, if_neg h, hli, if_neg (by rw [idxG _ 58 58 rfl]; simpa using ha), if_neg (by rw [idxG _ 91 91 rfl]; exact h3), if_neg (by rw [idxG _ 93 93 rfl]; exact h4)]
          have e1 : ((a.length : Int) + 1).toNat = (a ++ [58]).length := by simp
          have e2 : a ++ (58 : UInt8) :: b = a ++ [58] ++ b := by simp
          rw [e1]
          conv => lhs; rw [e2]
          rw [List.drop_left, List.append_assoc]
          simp
        · rw [hh]
          have n1 : has a [91, 93] = false := by
            rw [Bool.eq_false_iff]; intro e
            rcases (has2 a 91 93).1 e with e | e
            · exact h3 (List.mem_append_left _ e)
            · exact h4 (List.mem_append_left _ e)
          have n2 : has b [58, 91, 93] = false := by
            rw [Bool.eq_false_iff]; intro e
            rcases (has3 b 58 91 93).1 e with e | e | e
            · exact h2 e
            · exact h3 (List.mem_append_right _ (List.mem_cons_of_mem _ e))
            · exact h4 (List.mem_append_right _ (List.mem_cons_of_mem _ e))
          rw [n1, n2]; rfl
  · left
    refine ⟨?_, ?_⟩
    · unfold splitHP
      rw [if_pos ((lidxN l 58 58 rfl).2 h1)]
    · unfold hostPort
      rw [if_neg h, cutS_no l 58 58 rfl h1]; rfl

/-- a text with an opening bracket ahead -/
theorem brack_law (m : List UInt8) : (splitHP (91 :: m) = none ∧ (hostPort (91 :: m)).2.2 = false) ∨ ∃ x, splitHP (91 :: m) = some x ∧ hostPort (91 :: m) = (x.1, x.2, true) := by
  have hh : (91 :: m).head? = some (91 : UInt8) := rfl
  have hdr : (91 :: m).drop 1 = m := rfl
  by_cases hl : lidx (91 :: m) 58 < 0
  · left
    refine ⟨by unfold splitHP; rw [if_pos hl], ?_⟩
    have hn := (lidxN _ 58 58 rfl).1 hl
    unfold hostPort
    rw [if_pos hh, hdr]
    by_cases h1 : (93 : UInt8) ∈ m
    · obtain ⟨a, b, rfl, ha, _⟩ := idx_parts m 93 ((idx_ge m 93).2 h1)
      rw [cutS_yes a b 93 93 rfl ha]
      have hb : b.head? ≠ some 58 := by
        intro e
        apply hn
        have := List.mem_of_head? e
        simp [this]
      by_cases hb0 : b = []
      · simp [hb0]
      · simp [hb0, hb]
    · rw [cutS_no m 93 93 rfl h1]; simp
  · by_cases h1 : (93 : UInt8) ∈ m
    · obtain ⟨a, b, rfl, ha, _⟩ := idx_parts m 93 ((idx_ge m 93).2 h1)
      have hq : idx (91 :: (a ++ 93 :: b)) 93 = (a.length : Int) + 1 := by
        have := idxA (91 :: a) b 93 93 rfl (by simp [ha])
        simpa using this
      have hc := cutS_yes a b 93 93 rfl ha
      have e1 : ((a.length : Int) + 1 + 1).toNat = (91 :: (a ++ [93])).length := by simp; omega
      have e2 : (91 : UInt8) :: (a ++ 93 :: b) = 91 :: (a ++ [93]) ++ b := by simp
      have hd : (91 :: (a ++ 93 :: b)).drop ((a.length : Int) + 1 + 1).toNat = b := by
        rw [e1]
        conv => lhs; rw [e2]
        rw [List.drop_left]
      rcases b with _ | ⟨r, b⟩
      · left
        refine ⟨?_, ?_⟩
        · unfold splitHP
          rw [if_neg hl, if_pos hh, hq, if_neg (by omega), if_pos (by simp)]
        · unfold hostPort
          rw [if_pos hh, hdr, hc]; simp
      · by_cases hr : r = 58
        · subst hr
          have hsp : splitHP (91 :: (a ++ 93 :: 58 :: b)) = if (a.length : Int) + 1 + 1 ≠ lidx (91 :: (a ++ 93 :: 58 :: b)) 58 then none else if 0 ≤ idx (a ++ 93 :: 58 :: b) 91 then none else if 0 ≤ idx (58 :: b) 93 then none else some (((91 :: (a ++ 93 :: 58 :: b)).take ((a.length : Int) + 1).toNat).drop 1, (91 :: (a ++ 93 :: 58 :: b)).drop (lidx (91 :: (a ++ 93 :: 58 :: b)) 58 + 1).toNat) := by
            unfold splitHP
            rw [if_neg hl, if_pos hh, hq, if_neg (by omega), if_neg (by simp; omega), hd]
            rfl
          have hho : hostPort (91 :: (a ++ 93 :: 58 :: b)) = if has a [91] = true then ([], [], false) else if has b [58, 91, 93] = true then ([], [], false) else (a, b, true) := by
            unfold hostPort
            rw [if_pos hh, hdr, hc]
            rfl
          have hin : (91 : UInt8) ∈ a ++ 93 :: 58 :: b ↔ 91 ∈ a ∨ 91 ∈ b := by simp
          by_cases g1 : (91 : UInt8) ∈ a
          · left
            refine ⟨?_, by rw [hho, if_pos ((has_one a 91).2 g1)]⟩
            rw [hsp]
            split
            · rfl
            · rw [if_pos ((idxG _ 91 91 rfl).2 (hin.2 (Or.inl g1)))]
          by_cases g2 : has b [58, 91, 93] = true
          · left
            refine ⟨?_, by rw [hho]; split <;> first | rfl | (rw [if_pos g2])⟩
            rw [hsp]
            split
            · rfl
            rename_i g3
            split
            · rfl
            rename_i g4
            rw [if_pos]
            rw [idxG _ 93 93 rfl]
            rcases (has3 b 58 91 93).1 g2 with g5 | g5 | g5
            · exfalso
              obtain ⟨c, d, rfl, hd2, _⟩ := lidx_parts b 58 (lidxG b 58 g5)
              have e : (91 : UInt8) :: (a ++ 93 :: 58 :: (c ++ 58 :: d)) = (91 :: (a ++ 93 :: 58 :: c)) ++ 58 :: d := by simp
              rw [e, lidxA _ d 58 58 rfl hd2] at g3
              simp at g3
              omega
            · exact absurd ((idxG _ 91 91 rfl).2 (hin.2 (Or.inr g5))) g4
            · exact List.mem_cons_of_mem _ g5
          · right
            have n58 : (58 : UInt8) ∉ b := fun e => g2 ((has3 b 58 91 93).2 (Or.inl e))
            have n91 : (91 : UInt8) ∉ b := fun e => g2 ((has3 b 58 91 93).2 (Or.inr (Or.inl e)))
            have n93 : (93 : UInt8) ∉ b := fun e => g2 ((has3 b 58 91 93).2 (Or.inr (Or.inr e)))
            have hli : lidx (91 :: (a ++ 93 :: 58 :: b)) 58 = (a.length : Int) + 1 + 1 := by
              have := lidxA (91 :: (a ++ [93])) b 58 58 rfl n58
              simpa using this
            refine ⟨(a, b), ?_, ?_⟩
            · rw [hsp, hli, if_neg (by simp), if_neg (by rw [idxG _ 91 91 rfl, hin]; rintro (e | e); exact g1 e; exact n91 e), if_neg (by rw [idxG _ 93 93 rfl]; simpa using n93)]
              have e3 : ((a.length : Int) + 1).toNat = a.length + 1 := by omega
              have e4 : ((a.length : Int) + 1 + 1 + 1).toNat = (91 :: (a ++ [93, 58])).length := by simp; omega
              have e5 : (91 : UInt8) :: (a ++ 93 :: 58 :: b) = 91 :: (a ++ [93, 58]) ++ b := by simp
              rw [e3, e4]
              congr 2
              · simp
              · conv => lhs; rw [e5]
                rw [List.drop_left]
            · rw [hho, if_neg (fun e => g1 ((has_one a 91).1 e)), if_neg g2]
        · left
          refine ⟨?_, ?_⟩
          · unfold splitHP
            rw [if_neg hl, if_pos hh, hq, if_neg (by omega), if_neg (by simp; omega), if_pos]
            intro e
            obtain ⟨c, d, hcd, _, hlc⟩ := lidx_parts (91 :: (a ++ 93 :: r :: b)) 58 (by have e : ((58 : UInt8).toNat : Int) = 58 := rfl; rw [e]; omega)
            have e6 : ((58 : UInt8).toNat : Int) = 58 := rfl
            rw [e6] at hlc
            have hlen : c.length = a.length + 2 := by omega
            have h3 : (91 :: (a ++ 93 :: r :: b))[a.length + 2]? = some r := by simp
            rw [hcd, ← hlen] at h3
            simp at h3
            exact hr h3.symm
          · unfold hostPort
            rw [if_pos hh, hdr, hc]
            simp [hr]
    · left
      refine ⟨?_, ?_⟩
      · unfold splitHP
        rw [if_neg hl, if_pos hh, if_pos ((idxN _ 93 93 rfl).2 (by simp [h1]))]
      · unfold hostPort
        rw [if_pos hh, hdr, cutS_no m 93 93 rfl h1]; rfl

theorem split_law (l : List UInt8) : (splitHP l = none ∧ (hostPort l).2.2 = false) ∨ ∃ x, splitHP l = some x ∧ hostPort l = (x.1, x.2, true) := by
  by_cases h : l.head? = some 91
  · cases l with
    | nil => simp at h
    | cons x m =>
      simp at h
      subst h
      exact brack_law m
  · exact plain_law l h

/-- a host and a port that are joined are split again -/
theorem join_law (h p : List UInt8) (hh : has h [91, 93] = false) (hp : has p [58, 91, 93] = false) : splitHP (joined h p) = some (h, p) := by
  have n91 : (91 : UInt8) ∉ h := fun e => by rw [(has2 h 91 93).2 (Or.inl e)] at hh; cases hh
  have n93 : (93 : UInt8) ∉ h := fun e => by rw [(has2 h 91 93).2 (Or.inr e)] at hh; cases hh
  cases hc : has h [58] with
  | true =>
    rw [joined_yes h p hc]
    have e : 91 :: h ++ [93, 58] ++ p = 91 :: (h ++ 93 :: 58 :: p) := by simp
    rw [e]
    have hho : hostPort (91 :: (h ++ 93 :: 58 :: p)) = (h, p, true) := by
      unfold hostPort
      have e2 : (91 :: (h ++ 93 :: 58 :: p)).drop 1 = h ++ 93 :: 58 :: p := rfl
      have e3 : (91 :: (h ++ 93 :: 58 :: p)).head? = some 91 := rfl
      rw [if_pos e3]
      rw [e2, cutS_yes h (58 :: p) 93 93 rfl n93]
      simp only [List.drop_succ_cons, List.drop_zero]
      rw [if_neg (by simp), if_neg (by simp), if_neg (by simp), if_neg (by rw [has_one]; exact n91), if_neg (by rw [hp]; simp)]
    rcases split_law (91 :: (h ++ 93 :: 58 :: p)) with ⟨_, h2⟩ | ⟨x, h1, h2⟩
    · rw [hho] at h2; cases h2
    · rw [hho] at h2
      rw [h1]
      injection h2 with a b
      injection b with b _
      rw [a, b]
  | false =>
    rw [joined_no h p hc]
    have n58 : (58 : UInt8) ∉ h := fun e => by rw [(has_one h 58).2 e] at hc; cases hc
    have e : h ++ [58] ++ p = h ++ 58 :: p := by simp
    rw [e]
    have hne : (h ++ 58 :: p).head? ≠ some 91 := by
      cases h with
      | nil => simp
      | cons x xs =>
        simp
        rintro rfl
        exact n91 (List.mem_cons_self ..)
    have hho : hostPort (h ++ 58 :: p) = (h, p, true) := by
      unfold hostPort
      rw [if_neg hne, cutS_yes h p 58 58 rfl n58, hh, hp]; rfl
    rcases split_law (h ++ 58 :: p) with ⟨_, h2⟩ | ⟨x, h1, h2⟩
    · rw [hho] at h2; cases h2
    · rw [hho] at h2
      rw [h1]
      injection h2 with a b
      injection b with b _
      rw [a, b]

end Go.Proofs.YtfkohahlpfejbaaDoor.pl

/- PlIp: PLAIN: addresses, as the reference reads them. -/
namespace Go.Proofs.YtfkohahlpfejbaaDoor.pl

/-- a number up to 255 without a nought ahead -/
def oct (p : List UInt8) : Option UInt8 :=
  match decimal p with
  | some n => if 255 < n ∨ (1 < p.length ∧ p.head? = some 48) then none else some (UInt8.ofNat n)
  | none => none
def octs : List (List UInt8) → Option (List UInt8)
  | [] => some []
  | p :: r => match oct p, octs r with
    | some a, some b => some (a :: b)
    | _, _ => none
/-- an address of IPv4 -/
def four (s : List UInt8) : Option (List UInt8) :=
  match octs (split 46 s) with
  | some l => if l.length = 4 then some l else none
  | none => none

theorem octs_len : ∀ (ps : List (List UInt8)) (l : List UInt8), octs ps = some l → l.length = ps.length
  | [], l, h => by injection h with h; subst h; rfl
  | p :: r, l, h => by
    unfold octs at h
    cases ho : oct p with
    | none => rw [ho] at h; cases h
    | some a =>
      cases hr : octs r with
      | none => rw [ho, hr] at h; cases h
      | some b => rw [ho, hr] at h; injection h with h; subst h; simp [octs_len r b hr]
theorem octs_bad (ps qs : List (List UInt8)) (p : List UInt8) (h : oct p = none) : octs (ps ++ p :: qs) = none := by
  induction ps with
  | nil => show octs (p :: qs) = none; unfold octs; rw [h]
  | cons x r ih =>
    show octs (x :: (r ++ p :: qs)) = none
    unfold octs
    rw [ih]
    cases oct x <;> rfl
theorem octs_snoc (ps : List (List UInt8)) (p : List UInt8) (l : List UInt8) (b : UInt8) (h : octs ps = some l) (hb : oct p = some b) : octs (ps ++ [p]) = some (l ++ [b]) := by
  induction ps generalizing l with
  | nil => injection h with h; subst h; show octs [p] = some [b]; unfold octs; rw [hb]; rfl
  | cons x r ih =>
    unfold octs at h
    cases ho : oct x with
    | none => rw [ho] at h; cases h
    | some a =>
      cases hr : octs r with
      | none => rw [ho, hr] at h; cases h
      | some m =>
        rw [ho, hr] at h
        injection h with h
        subst h
        show octs (x :: (r ++ [p])) = _
        unfold octs
        rw [ho, ih m hr]
        rfl

/-- what the walk finds of a part -/
theorem oct_cases (p : List UInt8) :
    (decimal p = none ∧ oct p = none) ∨ (∃ n, decimal p = some n ∧ 255 < n ∧ oct p = none) ∨ (∃ n, decimal p = some n ∧ n ≤ 255 ∧ 1 < p.length ∧ p.head? = some 48 ∧ oct p = none) ∨
    (∃ n, decimal p = some n ∧ n ≤ 255 ∧ (¬ 1 < p.length ∨ p.head? ≠ some 48) ∧ oct p = some (UInt8.ofNat n)) := by
  unfold oct
  cases hd : decimal p with
  | none => exact .inl ⟨rfl, rfl⟩
  | some n =>
    right
    by_cases h1 : 255 < n
    · exact .inl ⟨n, rfl, h1, by simp [h1]⟩
    · right
      by_cases h2 : 1 < p.length ∧ p.head? = some 48
      · exact .inl ⟨n, rfl, by omega, h2.1, h2.2, by simp [h2]⟩
      · refine .inr ⟨n, rfl, by omega, ?_, ?_⟩
        · by_cases h3 : 1 < p.length
          · exact .inr (fun h4 => h2 ⟨h3, h4⟩)
          · exact .inl h3
        · show (if _ then _ else _) = _
          rw [if_neg]
          rintro (h | h)
          · exact h1 h
          · exact h2 h

/-- one group of hexadecimal digits -/
def hexG (p : List UInt8) : Option (List UInt8) :=
  if p.all isHex = true ∧ 1 ≤ p.length ∧ p.length ≤ 4 then some [UInt8.ofNat (hexV 0 p / 256), UInt8.ofNat (hexV 0 p)] else none
def grps (last : Bool) : List (List UInt8) → Option (List UInt8)
  | [] => some []
  | [p] => match (if last = true then four p else none) with
    | some b => some b
    | none => hexG p
  | p :: q :: r => match hexG p, grps last (q :: r) with
    | some a, some b => some (a ++ b)
    | _, _ => none
def groups (s : List UInt8) (last : Bool) : Option (List UInt8) := if s = [] then some [] else grps last (split 58 s)

/-- groups, all of hexadecimal digits -/
def hexAll : List (List UInt8) → Option (List UInt8)
  | [] => some []
  | p :: r => match hexG p, hexAll r with
    | some a, some b => some (a ++ b)
    | _, _ => none

theorem hexAll_cons (p : List UInt8) (r : List (List UInt8)) : hexAll (p :: r) = (match hexG p, hexAll r with
    | some a, some b => some (a ++ b)
    | _, _ => none) := rfl

theorem hexAll_snoc (ps : List (List UInt8)) (p a b : List UInt8) (h : hexAll ps = some a) (hb : hexG p = some b) : hexAll (ps ++ [p]) = some (a ++ b) := by
  induction ps generalizing a with
  | nil => injection h with h; subst h; show hexAll [p] = some b; unfold hexAll; rw [hb]; simp [hexAll]
  | cons x r ih =>
    unfold hexAll at h
    cases ho : hexG x with
    | none => rw [ho] at h; cases h
    | some c =>
      cases hr : hexAll r with
      | none => rw [ho, hr] at h; cases h
      | some m =>
        rw [ho, hr] at h
        injection h with h
        subst h
        show hexAll (x :: (r ++ [p])) = _
        unfold hexAll
        rw [ho, ih m hr]
        simp

theorem grps_app (last : Bool) (ps : List (List UInt8)) (q : List UInt8) (r : List (List UInt8)) : grps last (ps ++ q :: r) = (match hexAll ps, grps last (q :: r) with
    | some a, some b => some (a ++ b)
    | _, _ => none) := by
  induction ps with
  | nil => show grps last (q :: r) = _; simp only [hexAll]; cases grps last (q :: r) <;> rfl
  | cons x t ih =>
    have e : grps last (x :: (t ++ q :: r)) = (match hexG x, grps last (t ++ q :: r) with
        | some a, some b => some (a ++ b)
        | _, _ => none) := by
      cases t with
      | nil => rfl
      | cons y t => rfl
    show grps last (x :: (t ++ q :: r)) = _
    rw [e, ih, hexAll_cons]
    cases hexG x with
    | none => rfl
    | some a =>
      cases hexAll t with
      | none => rfl
      | some b =>
        cases grps last (q :: r) with
        | none => rfl
        | some c => show some (a ++ (b ++ c)) = some (a ++ b ++ c); rw [List.append_assoc]

theorem at_split (L : List (List UInt8)) (k : Nat) (p : List UInt8) (hk : L[k]? = some p) : L = L.take k ++ p :: L.drop (k + 1) := by
  have hlt : k < L.length := (List.getElem?_eq_some_iff.1 hk).1
  have h1 := List.take_append_drop k L
  have h2 : L.drop k = p :: L.drop (k + 1) := by
    rw [List.drop_eq_getElem_cons hlt]
    congr 1
    exact (List.getElem?_eq_some_iff.1 hk).2
  rw [h2] at h1
  exact h1.symm

/-- the last part is an address of IPv4 -/
theorem grps_four (L : List (List UInt8)) (k : Nat) (p acc b : List UInt8) (hk : L[k]? = some p) (hl : k + 1 = L.length) (ha : hexAll (L.take k) = some acc) (hb : four p = some b) : grps true L = some (acc ++ b) := by
  have e := at_split L k p hk
  rw [List.drop_eq_nil_of_le (by omega)] at e
  rw [e, grps_app, ha]
  simp only [grps, if_pos, hb]
/-- a part that is neither -/
theorem grps_bad (last : Bool) (L : List (List UInt8)) (k : Nat) (p acc : List UInt8) (hk : L[k]? = some p) (ha : hexAll (L.take k) = some acc) (hg : hexG p = none) (hf : last = true → k + 1 = L.length → four p = none) : grps last L = none := by
  have e := at_split L k p hk
  have hlt : k < L.length := (List.getElem?_eq_some_iff.1 hk).1
  rw [e, grps_app, ha]
  cases hd : L.drop (k + 1) with
  | nil =>
    have hl : k + 1 = L.length := by
      have := congrArg List.length hd
      simp at this
      omega
    have h2 : (if last = true then four p else none) = none := by
      cases last with
      | false => rfl
      | true => rw [if_pos rfl]; exact hf rfl hl
    simp only [grps, h2, hg]
  | cons q r =>
    simp only [grps, hg]
/-- at the end -/
theorem grps_end (last : Bool) (L : List (List UInt8)) (k : Nat) (p acc b : List UInt8) (hk : L[k]? = some p) (hl : k + 1 = L.length) (ha : hexAll (L.take k) = some acc) (hg : hexG p = some b) (hf : last = true → four p = none) : grps last L = some (acc ++ b) := by
  have e := at_split L k p hk
  rw [List.drop_eq_nil_of_le (by omega)] at e
  rw [e, grps_app, ha]
  have h2 : (if last = true then four p else none) = none := by
    cases last with
    | false => rfl
    | true => rw [if_pos rfl]; exact hf rfl
  simp only [grps, h2, hg]
theorem hexAll_next (L : List (List UInt8)) (k : Nat) (p acc b : List UInt8) (hk : L[k]? = some p) (ha : hexAll (L.take k) = some acc) (hg : hexG p = some b) : hexAll (L.take (k + 1)) = some (acc ++ b) := by
  rw [List.take_add_one, hk]
  exact hexAll_snoc _ p acc b ha hg

/-- the first place of two colons -/
def dd : List UInt8 → Option Nat
  | [] => none
  | [_] => none
  | a :: b :: r => if a = 58 ∧ b = 58 then some 0 else (dd (b :: r)).map (· + 1)

def addr (s : List UInt8) : Option (List UInt8) :=
  match four s with
  | some b => some b
  | none =>
    match dd s with
    | some k => match groups (s.take k) false, groups (s.drop (k + 2)) true with
      | some a, some b => if 14 < a.length + b.length then none else some (a ++ List.replicate (16 - a.length - b.length) 0 ++ b)
      | _, _ => none
    | none => match groups s true with
      | some b => if b.length = 16 then some b else none
      | none => none

end Go.Proofs.YtfkohahlpfejbaaDoor.pl
