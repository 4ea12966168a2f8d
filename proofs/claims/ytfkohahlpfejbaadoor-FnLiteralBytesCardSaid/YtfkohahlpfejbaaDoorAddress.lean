/-
  WALK: the reference's Address.
-/
import Derived.Test.YtfkohahlpfejbaaDoorGroups
import Derived.Laws.CopyOwn
namespace Go.Proofs.YtfkohahlpfejbaaDoor
open Go.RowKit

theorem pl.dd_step (s : ByteArray) (i : Nat) (h : i + 2 ≤ s.size) (hi : pl.dd s.data.toList = (pl.dd (s.data.toList.drop i)).map (· + i)) (hn : ¬ (s[i] = 58 ∧ s[i + 1] = 58)) :
    pl.dd s.data.toList = (pl.dd (s.data.toList.drop (i + 1))).map (· + (i + 1)) := by
  rw [hi, pl.drop_cons' s i (by omega), pl.drop_cons' s (i + 1) (by omega), pl.dd, if_neg hn, Option.map_map]
  congr 1
  funext x
  simp; omega
theorem pl.dd_hit (s : ByteArray) (i : Nat) (h : i + 2 ≤ s.size) (hi : pl.dd s.data.toList = (pl.dd (s.data.toList.drop i)).map (· + i)) (hn : s[i] = 58 ∧ s[i + 1] = 58) : pl.dd s.data.toList = some i := by
  rw [hi, pl.drop_cons' s i (by omega), pl.drop_cons' s (i + 1) (by omega), pl.dd, if_pos hn]
  simp
theorem pl.dd_last (s : ByteArray) (i : Nat) (h : s.size ≤ i + 1) (hi : pl.dd s.data.toList = (pl.dd (s.data.toList.drop i)).map (· + i)) : pl.dd s.data.toList = none := by
  have hl : s.data.toList.length = s.size := by simp
  have : (s.data.toList.drop i).length ≤ 1 := by rw [List.length_drop]; omega
  rw [hi]
  match hd : s.data.toList.drop i, this with
  | [], _ => rfl
  | [a], _ => rfl
  | a :: b :: r, h => simp at h

theorem pl.addr_four (s b : List UInt8) (h : pl.four s = some b) : pl.addr s = some b := by unfold pl.addr; rw [h]
theorem pl.addr_no (s : List UInt8) (h : pl.four s = none) (hd : pl.dd s = none) : pl.addr s = (match pl.groups s true with
    | some b => if b.length = 16 then some b else none
    | none => none) := by unfold pl.addr; rw [h, hd]; rfl
theorem pl.addr_dd (s : List UInt8) (k : Nat) (h : pl.four s = none) (hd : pl.dd s = some k) : pl.addr s = (match pl.groups (s.take k) false, pl.groups (s.drop (k + 2)) true with
      | some a, some b => if 14 < a.length + b.length then none else some (a ++ List.replicate (16 - a.length - b.length) 0 ++ b)
      | _, _ => none) := by unfold pl.addr; rw [h, hd]; rfl

theorem pl.ext2 (s : ByteArray) (i : Nat) (h : i + 2 ≤ s.size) : (s.extract i (i + 2)).toList = [s[i], s[i + 1]] := by
  rw [Lib.toList_data, Lib.extract_eq]
  show (List.take (i + 2 - i) (List.drop i s.data.toList)) = _
  rw [show i + 2 - i = 2 by omega, pl.drop_cons' s i (by omega), pl.drop_cons' s (i + 1) (by omega)]
  rfl

theorem pl.grps_len (last : Bool) : ∀ (ps : List (List UInt8)) (b : List UInt8), pl.grps last ps = some b → b.length ≤ 2 * ps.length + 2
  | [], b, h => by injection h with h; subst h; simp
  | [p], b, h => by
    simp only [pl.grps] at h
    split at h
    · rename_i c hc
      injection h with h
      subst h
      split at hc
      · have := pl.four_l4 _ _ hc; simp; omega
      · cases hc
    · unfold pl.hexG at h
      split at h
      · injection h with h; subst h; simp
      · cases h
  | p :: q :: r, b, h => by
    simp only [pl.grps] at h
    split at h
    · rename_i a c ha hc
      injection h with h
      subst h
      have h1 := pl.grps_len last (q :: r) c hc
      have h2 : a.length = 2 := by
        unfold pl.hexG at ha
        split at ha
        · injection ha with ha; subst ha; rfl
        · cases ha
      simp only [List.length_append, List.length_cons] at h1 ⊢
      omega
    · cases h

theorem pl.groups_len (s : ByteArray) (l b : List UInt8) (last : Bool) (hl : s.data.toList = l) (h : pl.groups l last = some b) : b.length ≤ 2 * s.size + 4 := by
  subst hl
  unfold pl.groups at h
  split at h
  · injection h with h; subst h; simp
  · have h1 := pl.grps_len last _ b h
    have h2 := pl.split_len 58 s
    omega

theorem groups_no (s : ByteArray) (last : Bool) (l : List UInt8) (w : World) (hl : s.data.toList = l) (hs : s.size ≤ 2147483648) (h : pl.groups l last = none) :
    Calls Tryd.prog 44 #[.string s, .bool last] w fun e w' => ∃ a n c, e = .returned (.tuple #[.slice a n c, .bool false]) ∧ Below w.heap.size w w' := by
  subst hl
  refine (groups_sp s last w hs).mono fun e w' hr => ?_
  rw [h] at hr
  obtain ⟨hb, ⟨v, l, h1, _⟩ | ⟨_, a, n, c, he⟩⟩ := hr
  · cases h1
  · exact ⟨a, n, c, he, hb⟩

theorem groups_yes (s : ByteArray) (last : Bool) (l b : List UInt8) (w : World) (hl : s.data.toList = l) (hs : s.size ≤ 2147483648) (h : pl.groups l last = some b) :
    Calls Tryd.prog 44 #[.string s, .bool last] w fun e w' => ∃ v, e = .returned (.tuple #[v, .bool true]) ∧ Byts w' w.heap.size v b ∧ Below w.heap.size w w' := by
  subst hl
  refine (groups_sp s last w hs).mono fun e w' hr => ?_
  rw [h] at hr
  obtain ⟨hb, ⟨v, l, h1, he, hY⟩ | ⟨h1, _⟩⟩ := hr
  · injection h1 with h1; subst h1; exact ⟨v, he, hY, hb⟩
  · cases h1

theorem Reads.cells' {w : World} {l : List UInt8} {a : Option Addr} {n c : Nat} (h : Reads w (.slice a n c) l) (h0 : 0 < l.length) : ∃ ad, a = some ad ∧ ∀ j v, (l.map pl.byteV)[j]? = some v → w.cell? (ad.add j) = some v := by
  obtain ⟨a', cap, hv, h1, h2, h3, h4⟩ := h
  injection hv with ha hn hc
  subst ha
  obtain ⟨g, o, rfl, _, _⟩ := h4 0 l[0] (List.getElem?_eq_getElem h0)
  refine ⟨_, rfl, fun j v hj => ?_⟩
  rw [List.getElem?_map, Option.map_eq_some_iff] at hj
  obtain ⟨b, hb, rfl⟩ := hj
  obtain ⟨g', o', he, _, hc⟩ := h4 j b hb
  injection he with he
  injection he with e1 e2
  subst e1 e2
  rw [Addr.add_lit]
  exact hc

theorem Byts.blk16 {w : World} {B g : Nat} (h : w.ownsRow B 5 1 (.slice (some ⟨g, 0, none⟩) 16 16) 16 (madeCells #[Value.int .u8 0] 16).toList) : w.heap[g]? = some (.cells (List.replicate 16 (Value.int .u8 0)).toArray 5 (0, 0)) := by
  rcases h.2 with ⟨h0, _⟩ | ⟨g', cap, cur, hv, _, hh, _, _, hs, ht⟩
  · cases h0
  · injection hv with h1 _ h3
    injection h1 with h1
    injection h1 with h1
    subst h1
    subst h3
    rw [hh]
    have e : cur.toList = List.replicate 16 (Value.int .u8 0) := by
      rw [← List.take_of_length_le (l := cur.toList) (i := 16 * 1) (by simp; omega), ht]
      exact toList_madeCells_one _ _
    rw [← e]

theorem pl.len16 (a b : List UInt8) (nb : Nat) (hb : b.length = nb) (h : a.length + nb ≤ 14) : (a ++ List.replicate (16 - a.length - b.length) 0 ++ b).length = 16 := by
  simp; omega
theorem pl.splice16 (a b : List UInt8) (nb : Nat) (XA XB : List Value) (hA : XA = a.map pl.byteV) (hB : XB = b.map pl.byteV) (hb : b.length = nb) (h : a.length + nb ≤ 14) :
    splice (splice (List.replicate 16 (Value.int .u8 0)) 0 XA) (16 - nb) XB = (a ++ List.replicate (16 - a.length - b.length) 0 ++ b).map pl.byteV := by
  subst hA hB hb
  unfold splice
  have e0 : (Value.int IntKind.u8 0) = pl.byteV 0 := rfl
  rw [e0]
  simp only [List.take_zero, List.nil_append, List.length_map, Nat.zero_add, List.drop_replicate]
  have e1 : 16 - b.length + b.length = 16 := by omega
  rw [e1, List.drop_eq_nil_of_le (by simp; omega), List.append_nil, List.take_append, List.length_map, List.take_of_length_le (by simp; omega), List.take_replicate]
  rw [List.map_append, List.map_append, List.map_replicate]
  congr 3
  omega
theorem Byts.of_blk16 {w : World} {g : Nat} {xs : List Value} {l : List UInt8} (h : w.heap[g]? = some (.cells xs.toArray 5 (0, 0))) (he : xs = l.map pl.byteV) (B : Nat) (hB : B ≤ g) (hl : l.length = 16) : Byts w B (.slice (some ⟨g, 0, none⟩) 16 16) l := by
  subst he
  unfold Byts
  rw [hl]
  exact ⟨by simp [hl], Or.inr ⟨g, 16, _, rfl, hB, h, Nat.le_refl _, by unfold maxLen; omega, by simp [hl], List.take_of_length_le (by simp [hl])⟩⟩

set_option maxRecDepth 100000 in
set_option maxHeartbeats 4000000 in
theorem addr_sp (s : ByteArray) (w : World) (hs : s.size ≤ 2147483648) :
    Calls Tryd.prog 15 #[.string s] w fun e w' => BytRes w w' e (pl.addr s.data.toList) := by
  rcases hF : pl.four s.data.toList with _ | b
  · have hno := pl.addr_no s.data.toList hF
    have hdd := fun k => pl.addr_dd s.data.toList k hF
    have hcase := fun W => four_no s W hs hF
    obtain ⟨A, hA⟩ : ∃ A, pl.addr s.data.toList = A := ⟨_, rfl⟩
    rw [hA] at hno hdd
    rw [hA]
    have HF := Lib.hid hcase
    have HNO := Lib.hid hno
    have HDD := Lib.hid hdd
    clear hno hdd hcase hA hF
    go_enter Tryd.func15, Tryd.ntmps15
    go_wp2_with (go_at_call 43; refine (HF.out _).mono ?_; rintro e w1 ⟨af, nf, cf, rfl, hb1⟩)
    go_loopw [23] (fun iv wr => ∃ i : Nat, i ≤ s.size ∧ iv = .int .i64 i ∧ wr = w1 ∧ Hid (pl.dd s.data.toList = (pl.dd (s.data.toList.drop i)).map (· + i))) (fun iv _ => s.size - (intOf iv).toNat)
    case atStart => exact ⟨0, Nat.zero_le _, rfl, rfl, Lib.hid (by simp)⟩
    case round =>
      obtain ⟨i, hi, rfl, rfl, HI⟩ := hrel
      by_cases hlt : i < s.size
      · by_cases h2 : i + 2 ≤ s.size
        · have hx := pl.ext2 s i h2
          by_cases hc : s[i] = 58 ∧ s[i + 1] = 58
          · have hx2 : ((s.extract i (i + 2)).toList == [58, 58]) = true := by rw [hx, hc.1, hc.2]; rfl
            have hA2 := HDD.out i (pl.dd_hit s i h2 HI.out hc)
            have e1 : (s.extract 0 i).data.toList = s.data.toList.take i := by rw [pl.ext_take]
            have e2 : (s.extract (i + 2) s.size).data.toList = s.data.toList.drop (i + 2) := by rw [pl.ext_drop]
            have s1 : (s.extract 0 i).size ≤ 2147483648 := by simp; omega
            have s2 : (s.extract (i + 2) s.size).size ≤ 2147483648 := by simp; omega
            obtain ⟨X, hX⟩ : ∃ X, s.data.toList.take i = X := ⟨_, rfl⟩
            obtain ⟨Y, hY⟩ : ∃ Y, s.data.toList.drop (i + 2) = Y := ⟨_, rfl⟩
            rw [hX] at hA2 e1
            rw [hY] at hA2 e2
            rcases hGA : pl.groups X false with _ | a
            · have HGA := Lib.hid (fun W => groups_no (s.extract 0 i) false X W e1 s1 hGA)
              rw [hGA] at hA2
              rcases hGB : pl.groups Y true with _ | b
              · have HGB := Lib.hid (fun W => groups_no (s.extract (i + 2) s.size) true Y W e2 s2 hGB)
                have HA2 := Lib.hid hA2
                clear hA2 hx hc e1 e2 hX hY hGA hGB s1 s2
                go_wp2_with (first | (go_at_call 44; ((with_reducible refine (HGA.out _).mono ?_); rintro e w2 ⟨ag, ng, cg, rfl, hb2⟩)) | (go_at_call 44; ((with_reducible refine (HGB.out _).mono ?_); rintro e w3 ⟨ah, nh, ch, rfl, hb3⟩)))
                go_ret2
                exact ⟨(hb1.trans (hb2.mono hb1.size)).trans (hb3.mono (Nat.le_trans hb1.size hb2.size)), .inr ⟨HA2.out, _, _, _, rfl⟩⟩
              · have HGB := Lib.hid (fun W => groups_yes (s.extract (i + 2) s.size) true Y b W e2 s2 hGB)
                have HA2 := Lib.hid hA2
                clear hA2 hx hc e1 e2 hX hY hGA hGB s1 s2
                go_wp2_with (first | (go_at_call 44; ((with_reducible refine (HGA.out _).mono ?_); rintro e w2 ⟨ag, ng, cg, rfl, hb2⟩)) | (go_at_call 44; ((with_reducible refine (HGB.out _).mono ?_); rintro e w3 ⟨vh, rfl, hYh, hb3⟩)))
                go_ret2
                exact ⟨(hb1.trans (hb2.mono hb1.size)).trans (hb3.mono (Nat.le_trans hb1.size hb2.size)), .inr ⟨HA2.out, _, _, _, rfl⟩⟩
            · have HGA := Lib.hid (fun W => groups_yes (s.extract 0 i) false X a W e1 s1 hGA)
              rw [hGA] at hA2
              rcases hGB : pl.groups Y true with _ | b
              · have HGB := Lib.hid (fun W => groups_no (s.extract (i + 2) s.size) true Y W e2 s2 hGB)
                rw [hGB] at hA2
                have HA2 := Lib.hid hA2
                clear hA2 hx hc e1 e2 hX hY hGA hGB s1 s2
                go_wp2_with (first | (go_at_call 44; ((with_reducible refine (HGA.out _).mono ?_); rintro e w2 ⟨vg, rfl, hYg, hb2⟩)) | (go_at_call 44; ((with_reducible refine (HGB.out _).mono ?_); rintro e w3 ⟨ah, nh, ch, rfl, hb3⟩)))
                go_ret2
                exact ⟨(hb1.trans (hb2.mono hb1.size)).trans (hb3.mono (Nat.le_trans hb1.size hb2.size)), .inr ⟨HA2.out, _, _, _, rfl⟩⟩
              · have HGB := Lib.hid (fun W => groups_yes (s.extract (i + 2) s.size) true Y b W e2 s2 hGB)
                rw [hGB] at hA2
                have hla := pl.groups_len _ _ a _ e1 hGA
                have hlb := pl.groups_len _ _ b _ e2 hGB
                have hla' : a.length ≤ 5000000000 := by omega
                have hlb' : b.length ≤ 5000000000 := by omega
                clear hla hlb
                by_cases h14 : 14 < a.length + b.length
                · have hA3 : A = none := hA2.trans (if_pos h14)
                  have HA2 := Lib.hid hA3
                  have h14' : (14 : Int) < (a.length : Int) + (b.length : Int) := by omega
                  clear hA2 hA3 hx hc e1 e2 hX hY hGA hGB s1 s2
                  go_wp2_with (first | (go_at_call 44; ((with_reducible refine (HGA.out _).mono ?_); rintro e w2 ⟨vg, rfl, hYg, hb2⟩; obtain ⟨ag, cg, rfl, _, hcg, _⟩ := hYg.reads)) | (go_at_call 44; ((with_reducible refine (HGB.out _).mono ?_); rintro e w3 ⟨vh, rfl, hYh, hb3⟩; obtain ⟨ah, ch, rfl, _, hch, _⟩ := hYh.reads)))
                  go_ret2
                  exact ⟨(hb1.trans (hb2.mono hb1.size)).trans (hb3.mono (Nat.le_trans hb1.size hb2.size)), .inr ⟨HA2.out, _, _, _, rfl⟩⟩
                · have hA3 := hA2.trans (if_neg h14)
                  have HA2 := Lib.hid hA3
                  have h14' : ¬ (14 : Int) < (a.length : Int) + (b.length : Int) := by omega
                  clear hA2 hA3 hx hc e1 e2 hX hY hGA hGB s1 s2
                  obtain ⟨i0, hi0, hz0, hz1, hz2⟩ := info_parts infoByte
                  go_wp2_with (first | (go_at_call 44; ((with_reducible refine (HGA.out _).mono ?_); rintro e w2 ⟨vg, rfl, hYg, hb2⟩; obtain ⟨ag, cg, rfl, hng⟩ := hYg.reads)) | (go_at_call 44; ((with_reducible refine (HGB.out _).mono ?_); rintro e w3 ⟨vh, rfl, hYh, hb3⟩; obtain ⟨ah, ch, rfl, hnh⟩ := hYh.reads)) | (at_make; refine wpList_make_full _ rfl _ _ 26 rfl w3.heap.size 5 i0 (.int .u8 0) 1 Tryd.underlying26 hi0 hz0 hz1 _ _ _ _ 16 rfl rfl rfl rfl (by rw [hz2]; omega) (by unfold maxLen; omega) (Nat.le_refl _) ?_))
                  intro w4 hown4 hg4
                  have hbel4 : Below w3.heap.size w3 w4 := (Below.refl _ _).grown hg4 (Nat.le_refl _) (fun k hk => by simp at hk)
                  have hblk := Byts.blk16 hown4
                  have hY2 := (hYg.below hb3).below hbel4
                  have hZ2 := hYh.below hbel4
                  obtain ⟨XA, hXA⟩ : ∃ X, X = a.map pl.byteV := ⟨_, rfl⟩
                  obtain ⟨XB, hXB⟩ : ∃ X, X = b.map pl.byteV := ⟨_, rfl⟩
                  have hXAl : XA.length = a.length := by rw [hXA, List.length_map]
                  have hXBl : XB.length = b.length := by rw [hXB, List.length_map]
                  have hXA1 : ∀ v ∈ XA, v.oneCell' = true := by
                    intro v hv
                    rw [hXA] at hv
                    obtain ⟨x, _, rfl⟩ := List.mem_map.1 hv
                    rfl
                  have hXB1 : ∀ v ∈ XB, v.oneCell' = true := by
                    intro v hv
                    rw [hXB] at hv
                    obtain ⟨x, _, rfl⟩ := List.mem_map.1 hv
                    rfl
                  have hsA : 0 < XA.length → ∃ ad, ag = some ad ∧ ∀ j v, XA[j]? = some v → w4.cell? (ad.add j) = some v := fun h => by
                    have := hY2.reads.cells' (by omega)
                    rw [hXA]; exact this
                  have HSA := Lib.hid hsA
                  have HXA1 := Lib.hid hXA1
                  have HXB1 := Lib.hid hXB1
                  have HXA := Lib.hid hXA
                  have HXB := Lib.hid hXB
                  clear hsA hXA1 hXB1 hXA hXB hown4 hg4
                  go_wp2_with (refine wpList_copy_splice rfl _ _ 26 26 rfl 5 Tryd.underlying26 (by kernel_rfl) _ _ 16 16 a.length cg rfl rfl w3.heap.size 0 (List.replicate 16 (Value.int .u8 0)) 5 hblk XA (by rw [hXAl]; simp [Nat.min_def]; omega) (fun h => ⟨rfl, HSA.out h⟩) (by rw [hXAl]; simp; omega) HXA1.out w3.heap.size w3 hbel4 (Nat.le_refl _) ?_)
                  intro w5 HG5 hb5
                  have hZ5 := hYh.below hb5
                  have hsB : 0 < XB.length → ∃ ad, ah = some ad ∧ ∀ j v, XB[j]? = some v → w5.cell? (ad.add j) = some v := fun h => by
                    have := hZ5.reads.cells' (by omega)
                    rw [HXB.out]; exact this
                  have HSB := Lib.hid hsB
                  have HZ5 := Lib.hid hZ5
                  have HY2 := Lib.hid hY2
                  have HXBl := Lib.hid hXBl
                  have HXAl := Lib.hid hXAl
                  have hbB : b.length ≤ 14 := by omega
                  have HBEL := Lib.hid hb5
                  have HB34 := Lib.hid hbel4
                  have HB2 := Lib.hid hb2
                  have HB3 := Lib.hid hb3
                  have hnb0 : (0 : Int) ≤ 16 - (b.length : Int) := by omega
                  have hnb1 : (16 : Int) - (b.length : Int) ≤ 16 := by omega
                  clear hsB hZ5 hY2 hXBl hXAl hb5 hbel4 hblk hYg hYh hZ2 hng hnh hb2 hb3
                  obtain ⟨nb, hnb⟩ : ∃ nb, b.length = nb := ⟨_, rfl⟩
                  rw [hnb] at HXBl hbB hnb0 hnb1 h14' HZ5
                  simp only [hnb]
                  have HNB := Lib.hid hnb
                  clear hnb hlb' h14
                  have h14n : a.length + nb ≤ 14 := by omega
                  rcases Nat.eq_zero_or_pos nb with rfl | hpos
                  · go_wp2_with (refine wpList_copy_splice rfl _ _ 26 26 rfl 5 Tryd.underlying26 (by kernel_rfl) _ _ _ _ 0 ch rfl rfl w3.heap.size 16 (splice (List.replicate 16 (Value.int .u8 0)) 0 XA) 5 HG5.out XB ?_ ?_ ?_ HXB1.out w3.heap.size w3 HBEL.out (Nat.le_refl _) ?_)
                    case refine_1 => rw [HXBl.out]; rfl
                    case refine_2 => intro h; rw [HXBl.out] at h; exact absurd h (by omega)
                    case refine_3 =>
                      rw [length_splice _ _ _ (by rw [HXAl.out]; simp; omega), HXBl.out]
                      simp
                      try omega
                    case refine_4 =>
                      intro w6 HG6 hb6
                      have hby := Byts.of_blk16 HG6.out (pl.splice16 a b 0 XA XB HXA.out HXB.out HNB.out h14n) w.heap.size (Nat.le_trans hb1.size (Nat.le_trans HB2.out.size HB3.out.size)) (pl.len16 a b 0 HNB.out h14n)
                      have HBY := Lib.hid hby
                      clear hby HG6
                      go_wp2_with fail
                      go_ret2
                      exact ⟨((hb1.trans (HB2.out.mono hb1.size)).trans (HB3.out.mono (Nat.le_trans hb1.size HB2.out.size))).trans (hb6.mono (Nat.le_trans hb1.size (Nat.le_trans HB2.out.size HB3.out.size))), .inl ⟨_, _, HA2.out, rfl, HBY.out⟩⟩
                  · have hne : ¬ (16 = 16 - nb) := by omega
                    go_wp2_with (refine wpList_copy_splice rfl _ _ 26 26 rfl 5 Tryd.underlying26 (by kernel_rfl) _ _ _ _ nb ch rfl rfl w3.heap.size (16 - nb) (splice (List.replicate 16 (Value.int .u8 0)) 0 XA) 5 HG5.out XB ?_ ?_ ?_ HXB1.out w3.heap.size w3 HBEL.out (Nat.le_refl _) ?_)
                    case refine_1 => rw [HXBl.out]; (show nb = Nat.min nb _; simp [Nat.min_def]; try omega)
                    case refine_2 => exact HSB.out
                    case refine_3 =>
                      rw [length_splice _ _ _ (by rw [HXAl.out]; simp; omega), HXBl.out]
                      simp
                      try omega
                    case refine_4 =>
                      intro w6 HG6 hb6
                      have hby := Byts.of_blk16 HG6.out (pl.splice16 a b nb XA XB HXA.out HXB.out HNB.out h14n) w.heap.size (Nat.le_trans hb1.size (Nat.le_trans HB2.out.size HB3.out.size)) (pl.len16 a b nb HNB.out h14n)
                      have HBY := Lib.hid hby
                      clear hby HG6
                      go_wp2_with fail
                      go_ret2
                      exact ⟨((hb1.trans (HB2.out.mono hb1.size)).trans (HB3.out.mono (Nat.le_trans hb1.size HB2.out.size))).trans (hb6.mono (Nat.le_trans hb1.size (Nat.le_trans HB2.out.size HB3.out.size))), .inl ⟨_, _, HA2.out, rfl, HBY.out⟩⟩
          · have hx2 : ((s.extract i (i + 2)).toList == [58, 58]) = false := by
              rw [hx, beq_eq_false_iff_ne]
              intro h
              injection h with h1 h
              injection h with h2 h
              exact hc ⟨h1, h2⟩
            have hst := pl.dd_step s i h2 HI.out hc
            have HST := Lib.hid hst
            clear hx hst hc
            go_wp2_with fail
            go_roundw
            case rel => exact ⟨i + 1, by omega, by go_num, by first | rfl | trivial, Lib.hid HST.out⟩
            case measure => simp [intOf]; omega
        · have hl := pl.dd_last s i (by omega) HI.out
          have HL := Lib.hid hl
          have h2' : (s.size : Int) < (i : Int) + 2 := by omega
          clear hl
          go_wp2_with fail
          go_roundw
          case rel =>
            refine ⟨i + 1, by omega, by go_num, by first | rfl | trivial, Lib.hid ?_⟩
            rw [HL.out, List.drop_eq_nil_of_le (by simp; omega)]
            rfl
          case measure => simp [intOf]; omega
      · have hl := pl.dd_last s i (by omega) HI.out
        have hA2 := HNO.out hl
        rcases hG : pl.groups s.data.toList true with _ | b
        · have HG := Lib.hid (fun W => groups_no s true s.data.toList W rfl hs hG)
          rw [hG] at hA2
          have HA2 := Lib.hid hA2
          clear hA2 hl hG
          go_wp2_with (go_at_call 44; refine (HG.out _).mono ?_; rintro e w2 ⟨ag, ng, cg, rfl, hb2⟩)
          go_ret2
          exact ⟨hb1.trans (hb2.mono hb1.size), .inr ⟨HA2.out, _, _, _, rfl⟩⟩
        · have HG := Lib.hid (fun W => groups_yes s true s.data.toList b W rfl hs hG)
          rw [hG] at hA2
          by_cases h16 : b.length = 16
          · have hA3 := hA2.trans (if_pos h16)
            have HA2 := Lib.hid hA3
            have h16' : ((b.length : Int) == 16) = true := by rw [h16]; rfl
            clear hA2 hA3 hl hG h16
            go_wp2_with (go_at_call 44; refine (HG.out _).mono ?_; rintro e w2 ⟨vg, rfl, hYg, hb2⟩; obtain ⟨ag, cg, rfl, hng⟩ := hYg.reads)
            go_ret2
            exact ⟨hb1.trans (hb2.mono hb1.size), .inl ⟨_, b, HA2.out, rfl, hYg.mono hb1.size⟩⟩
          · have hA3 := hA2.trans (if_neg h16)
            have HA2 := Lib.hid hA3
            have h16' : ((b.length : Int) == 16) = false := by rw [beq_eq_false_iff_ne]; omega
            clear hA2 hA3 hl hG h16
            go_wp2_with (go_at_call 44; refine (HG.out _).mono ?_; rintro e w2 ⟨vg, rfl, hYg, hb2⟩; obtain ⟨ag, cg, rfl, hng⟩ := hYg.reads)
            go_ret2
            exact ⟨hb1.trans (hb2.mono hb1.size), .inr ⟨HA2.out, _, _, _, rfl⟩⟩
  · rw [pl.addr_four _ b hF]
    have hcase := fun W => four_yes s W b hs hF
    have HF := Lib.hid hcase
    clear hcase hF
    go_enter Tryd.func15, Tryd.ntmps15
    go_wp2_with (go_at_call 43; refine (HF.out _).mono ?_; rintro e w1 ⟨vf, rfl, hY, hb1⟩)
    go_ret2
    exact ⟨hb1, .inl ⟨_, b, rfl, rfl, hY⟩⟩

end Go.Proofs.YtfkohahlpfejbaaDoor
