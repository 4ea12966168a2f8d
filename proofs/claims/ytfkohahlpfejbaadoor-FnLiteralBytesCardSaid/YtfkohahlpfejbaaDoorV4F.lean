/-
  WALK: the package's four numbers (parseIPv4Fields).
-/
import Derived.Test.YtfkohahlpfejbaaDoorPlRead
import Derived.Test.YtfkohahlpfejbaaDoorBlk
import Derived.Test.YtfkohahlpfejbaaDoorPlHostLaw
import Derived.Test.YtfkohahlpfejbaaDoorGroups
namespace Go.Proofs.YtfkohahlpfejbaaDoor
open Go.RowKit

/-- Block g holds these bytes. -/
def BBlk (w : World) (g : Nat) (l : List UInt8) (ty : TypeId) : Prop := Blk w g (l.map pl.byteV).toArray ty
theorem BBlk.set {w : World} {g : Nat} {l : List UInt8} {ty : TypeId} (h : BBlk w g l ty) (k : Nat) (b : UInt8) : BBlk (w.setCell ⟨g, k, none⟩ (pl.byteV b)) g (l.set k b) ty := by
  have := Blk.set h k (pl.byteV b)
  unfold BBlk
  rw [List.map_set, ← List.setIfInBounds_toArray]
  exact this
theorem BBlk.cell {w : World} {g : Nat} {l : List UInt8} {ty : TypeId} (h : BBlk w g l ty) (k : Nat) (hk : k < l.length) : w.cell? ⟨g, k, none⟩ = some (pl.byteV l[k]) := by
  rw [Blk.cell h k]
  simp [hk]
theorem BBlk.frozen {w : World} {g : Nat} {l : List UInt8} {ty : TypeId} (h : BBlk w g l ty) (k : Nat) : w.frozen? ⟨g, k, none⟩ = false := Blk.frozen h k

theorem pl.put_at (ip done : List UInt8) (o : Nat) (b : UInt8) (h : o + done.length < ip.length) :
    (ip.take o ++ done ++ ip.drop (o + done.length)).set (o + done.length) b = ip.take o ++ (done ++ [b]) ++ ip.drop (o + (done ++ [b]).length) := by
  have hl : (ip.take o ++ done).length = o + done.length := by rw [List.length_append, List.length_take]; omega
  rw [List.set_append_right _ _ (by omega), hl, Nat.sub_self, List.drop_eq_getElem_cons h, List.set_cons_zero]
  simp only [List.length_append, List.length_cons, List.length_nil, List.append_assoc, List.cons_append, List.nil_append]
  rfl

theorem byteV_small (m : Nat) (h : m < 256) : Value.int IntKind.u8 (m : Int) = pl.byteV (UInt8.ofNat m) := by
  unfold pl.byteV
  rw [UInt8.toNat_ofNat_of_lt' (by show m < 256; omega)]

def V4Res (w w' : World) (g : Nat) (ip : List UInt8) (o : Nat) (ty : TypeId) (e : Ending) (r : Option (List UInt8)) : Prop :=
  Below g w w' ∧ w'.heap.size = w.heap.size ∧ ((r = none ∧ ∃ t v, e = .returned (.iface t v)) ∨ (∃ l, r = some l ∧ e = .returned .nilIface ∧ BBlk w' g (ip.take o ++ l ++ ip.drop (o + l.length)) ty))

set_option maxRecDepth 100000 in
set_option maxHeartbeats 4000000 in
theorem v4f_sp (s : ByteArray) (off fin : Nat) (S : ByteArray) (hS : s.extract off fin = S) (w : World) (g o cap : Nat) (ip : List UInt8) (ty : TypeId) (hB : BBlk w g ip ty) (ho : o + 4 ≤ ip.length)
    (h1 : off ≤ fin) (h2 : fin ≤ s.size) (hs : s.size ≤ 2147483648) :
    Calls Tryd.prog 106 #[.string s, .int .i64 (off : Int), .int .i64 (fin : Int), .slice (some ⟨g, o, none⟩) 4 cap] w fun e w' => V4Res w w' g ip o ty e (pl.four S.data.toList) := by
  have hsz : S.size = fin - off := by rw [← hS]; simp; omega
  have hS31 : S.size ≤ 2147483648 := by omega
  clear hsz
  obtain ⟨F, hF⟩ : ∃ F, pl.four S.data.toList = F := ⟨_, rfl⟩
  rw [hF]
  have HF := Lib.hid hF
  have HSE := Lib.hid hS
  clear hF hS
  have hx0 : s.extract off fin = S := HSE.out
  have hip : (ip.take o ++ [] ++ ip.drop (o + 0)) = ip := by simp
  go_enter Tryd.func106, Tryd.ntmps106
  go_wp2_with fail

  clear hx0
  go_loopw [9, 10, 11, 13] (fun vv pv dv iv wr => ∃ (i m n d : Nat) (done cur : List UInt8), i ≤ S.size ∧ iv = .int .i64 i ∧ vv = .int .i64 m ∧ pv = .int .i64 n ∧ dv = .int .i64 d ∧ m ≤ 255 ∧ n ≤ 3 ∧ d ≤ i ∧ Hid (m = pl.decV 0 cur) ∧ Hid (done.length = n) ∧ Hid (cur.length = d)
    ∧ Hid (F = pl.rest4 done cur (S.data.toList.drop i)) ∧ Hid (cur.all pl.dg = true) ∧ Hid (1 < cur.length → cur.head? ≠ some 48) ∧ Hid (d = 0 → (i = 0 ∧ n = 0) ∨ i < S.size) ∧ Hid (∀ (h : i - 1 < S.size), 0 < i → (d = 0 ↔ S[i - 1] = 46))
    ∧ BBlk wr g (ip.take o ++ done ++ ip.drop (o + n)) ty ∧ Below g w wr ∧ Hid (wr.heap.size = w.heap.size)) (fun _ _ _ iv _ => S.size - (intOf iv).toNat)
  case atStart => exact ⟨0, 0, 0, 0, [], [], Nat.zero_le _, rfl, rfl, rfl, rfl, by omega, by omega, by omega, Lib.hid rfl, Lib.hid rfl, Lib.hid rfl, Lib.hid (by rw [List.drop_zero, pl.rest4_start, HF.out]), Lib.hid rfl, Lib.hid (by simp), Lib.hid (fun _ => .inl ⟨rfl, rfl⟩), Lib.hid (fun _ h => absurd h (by omega)), by rw [hip]; exact hB, Below.refl _ _, Lib.hid rfl⟩
  case round =>
    obtain ⟨i, m, n, d, done, cur, hi, rfl, rfl, rfl, rfl, hm, hn, hdi, HM, HDL, HCL, HR, HA, HZ, HE, HP, hblk, hbel, HSZ⟩ := hrel
    by_cases hlt : i < S.size
    · obtain ⟨x, hx⟩ : ∃ x, S[i] = x := ⟨_, rfl⟩
      have hr := HR.out
      rw [pl.drop_cons' S i hlt, hx] at hr
      by_cases hdg : pl.dg x = true
      · have hxd := (pl.dg_int x).1 hdg
        obtain ⟨hx1, hx2⟩ := hxd
        by_cases hz : d = 1 ∧ m = 0
        · obtain ⟨rfl, rfl⟩ := hz
          have hno : F = none := by
            have hc : cur = [48] := by
              have h1 := HCL.out
              match cur, h1 with
              | [c], _ =>
                have ha := HA.out
                have hv := HM.out
                simp [pl.decV] at ha hv
                have := (pl.dg_int c).1 ha
                rw [show c = 48 from UInt8.toNat_inj.1 (by show c.toNat = 48; omega)]
            rw [hr, hc]; exact pl.rest4_zero done _ x hdg
          have HNO := Lib.hid hno
          clear hr hno hdg
          go_wp2_with fail
          go_ret
          exact ⟨hbel, HSZ.out, .inl ⟨HNO.out, _, _, rfl⟩⟩
        · obtain ⟨m', hm'⟩ : ∃ m', pl.decV 0 (cur ++ [x]) = m' := ⟨_, rfl⟩
          have hmi : (m' : Int) = (m : Int) * 10 + (x.toNat : Int) - 48 := by
            rw [← hm', pl.decV_snoc, ← HM.out]; omega
          have hall : (cur ++ [x]).all pl.dg = true := by rw [List.all_append, HA.out]; simp [hdg]
          rw [pl.rest4_digit] at hr
          by_cases hbig : 255 < m'
          · have hno : F = none := by rw [hr]; exact pl.rest4_large done _ _ hall (by rw [hm']; exact hbig)
            have HNO := Lib.hid hno
            clear hr hno hdg hm' hall
            rcases Nat.lt_trichotomy d 1 with hd1 | hd1 | hd1
            · go_wp2_with fail
              go_ret
              exact ⟨hbel, HSZ.out, .inl ⟨HNO.out, _, _, rfl⟩⟩
            · have hm0 : m ≠ 0 := fun h => hz ⟨hd1, h⟩
              subst hd1
              clear hz
              go_wp2_with fail
              go_ret
              exact ⟨hbel, HSZ.out, .inl ⟨HNO.out, _, _, rfl⟩⟩
            · go_wp2_with fail
              go_ret
              exact ⟨hbel, HSZ.out, .inl ⟨HNO.out, _, _, rfl⟩⟩
          · have hnz : 1 < (cur ++ [x]).length → (cur ++ [x]).head? ≠ some 48 := by
              intro h
              match hc : cur with
              | [] => simp at h
              | [c] =>
                intro e
                simp at e
                subst e
                have h1 := HCL.out
                have h2 := HM.out
                simp [pl.decV] at h1 h2
                exact hz ⟨h1.symm, h2⟩
              | c :: c' :: r =>
                have := HZ.out (by simp)
                simpa using this
            have HR2 := Lib.hid hr
            have HA2 := Lib.hid hall
            have HM2 := Lib.hid hm'
            have HZ2 := Lib.hid hnz
            have hx46 : x ≠ 46 := by intro e; subst e; exact absurd hdg (by decide)
            have HP2 : Hid (∀ (h : i + 1 - 1 < S.size), 0 < i + 1 → (d + 1 = 0 ↔ S[i + 1 - 1] = 46)) := Lib.hid (fun h _ => ⟨fun h => by omega, fun h => by
              have e : S[i + 1 - 1] = x := hx
              rw [e] at h; exact absurd h hx46⟩)
            have HCL2 : Hid ((cur ++ [x]).length = d + 1) := Lib.hid (by rw [List.length_append, HCL.out]; rfl)
            clear hr hall hm' hnz hx46 hdg
            rcases Nat.lt_trichotomy d 1 with hd1 | hd1 | hd1
            · go_wp2_with fail
              go_roundw
              case rel => exact ⟨i + 1, m', n, d + 1, done, cur ++ [x], by omega, by go_num, by go_num, rfl, by go_num, by omega, hn, by omega, Lib.hid HM2.out.symm, HDL, HCL2, HR2, HA2, HZ2, Lib.hid (fun h => by omega), HP2, hblk, hbel, HSZ⟩
              case measure => simp [intOf]; omega
            · have hm0 : m ≠ 0 := fun h => hz ⟨hd1, h⟩
              subst hd1
              clear hz
              go_wp2_with fail
              go_roundw
              case rel => exact ⟨i + 1, m', n, 1 + 1, done, cur ++ [x], by omega, by go_num, by go_num, rfl, by go_num, by omega, hn, by omega, Lib.hid HM2.out.symm, HDL, HCL2, HR2, HA2, HZ2, Lib.hid (fun h => by omega), HP2, hblk, hbel, HSZ⟩
              case measure => simp [intOf]; omega
            · go_wp2_with fail
              go_roundw
              case rel => exact ⟨i + 1, m', n, d + 1, done, cur ++ [x], by omega, by go_num, by go_num, rfl, by go_num, by omega, hn, by omega, Lib.hid HM2.out.symm, HDL, HCL2, HR2, HA2, HZ2, Lib.hid (fun h => by omega), HP2, hblk, hbel, HSZ⟩
              case measure => simp [intOf]; omega
      · have hdf : pl.dg x = false := by simpa using hdg
        by_cases h46 : x = 46
        · subst h46
          have h1 : ((46 : UInt8).toNat : Int) = 46 := rfl
          clear hdg hdf
          rcases Nat.eq_zero_or_pos i with hi0 | hi0
          · have hno : F = none := by
              have : cur = [] := List.eq_nil_of_length_eq_zero (by rw [HCL.out]; omega)
              rw [hr, this]; exact pl.rest4_dot_empty _ _
            have HNO := Lib.hid hno
            clear hr hno
            subst hi0
            go_wp2_with fail
            go_ret
            exact ⟨hbel, HSZ.out, .inl ⟨HNO.out, _, _, rfl⟩⟩
          · by_cases hlast : i + 1 = S.size
            · have hno : F = none := by
                rw [hr, List.drop_eq_nil_of_le (by simp; omega)]; exact pl.rest4_dot_last _ _ HA.out
              have HNO := Lib.hid hno
              clear hr hno
              go_wp2_with fail
              go_ret
              exact ⟨hbel, HSZ.out, .inl ⟨HNO.out, _, _, rfl⟩⟩
            · obtain ⟨y, hy⟩ : ∃ y, S[i - 1] = y := ⟨_, rfl⟩
              have hp := HP.out (by omega) hi0
              rw [hy] at hp
              by_cases hd0 : d = 0
              · have hno : F = none := by
                  have : cur = [] := List.eq_nil_of_length_eq_zero (by rw [HCL.out]; omega)
                  rw [hr, this]; exact pl.rest4_dot_empty _ _
                have HNO := Lib.hid hno
                have hy46 := hp.1 hd0
                subst hy46
                clear hr hno hp
                go_wp2_with fail
                go_ret
                exact ⟨hbel, HSZ.out, .inl ⟨HNO.out, _, _, rfl⟩⟩
              · have hy46 : (y.toNat : Int) ≠ 46 := fun e => hd0 (hp.2 (UInt8.toNat_inj.1 (by show y.toNat = 46; omega)))
                clear hp
                have e1 : ((i : Int) == 0) = false := by rw [beq_eq_false_iff_ne]; omega
                have e2 : ((i : Int) == (S.size : Int) - 1) = false := by rw [beq_eq_false_iff_ne]; omega
                have e3 : ((y.toNat : Int) == 46) = false := by rw [beq_eq_false_iff_ne]; exact hy46
                by_cases hn3 : n = 3
                · have hno : F = none := by rw [hr]; exact pl.rest4_four done cur _ HA.out (by rw [HDL.out]; exact hn3)
                  have HNO := Lib.hid hno
                  clear hr hno
                  subst hn3
                  go_wp2_with fail
                  go_ret
                  exact ⟨hbel, HSZ.out, .inl ⟨HNO.out, _, _, rfl⟩⟩
                · have hcne : cur ≠ [] := by intro e; have h2 := HCL.out; rw [e] at h2; exact hd0 h2.symm
                  rw [pl.rest4_dot done cur _ HA.out, pl.oct_good cur hcne HA.out (by rw [← HM.out]; exact hm) HZ.out, ← HM.out] at hr
                  have HR2 := Lib.hid hr
                  have hset := hblk.set (o + n) (UInt8.ofNat m)
                  have hput := pl.put_at ip done o (UInt8.ofNat m) (by rw [HDL.out]; omega)
                  rw [HDL.out] at hput
                  rw [hput] at hset
                  have HSET := Lib.hid hset
                  have hcell := hblk.cell (o + n) (by have := HDL.out; simp only [List.length_append, List.length_take, List.length_drop]; omega)
                  have hfro := hblk.frozen (o + n)
                  have hval : Value.int IntKind.u8 (m : Int) = pl.byteV (UInt8.ofNat m) := byteV_small m (by omega)
                  have HVAL := Lib.hid hval
                  clear hval
                  have HP2 : Hid (∀ (h : i + 1 - 1 < S.size), 0 < i + 1 → (0 = 0 ↔ S[i + 1 - 1] = 46)) := Lib.hid (fun h _ => ⟨fun _ => hx, fun _ => rfl⟩)
                  clear hr hset hput hcne
                  have hn2 : n < 3 := by omega
                  go_wp2_with fail
                  go_roundw
                  case rel =>
                    rw [HVAL.out]
                    refine ⟨i + 1, 0, n + 1, 0, done ++ [UInt8.ofNat m], [], by omega, by go_num, rfl, by go_num, rfl, by omega, by omega, by omega, Lib.hid rfl, Lib.hid (by rw [List.length_append, HDL.out]; rfl), Lib.hid rfl, HR2, Lib.hid rfl, Lib.hid (by simp), Lib.hid (fun _ => .inr (by omega)), HP2, ?_, hbel.setCell (Nat.le_refl _) _, Lib.hid ?_⟩
                    · have := HSET.out; rw [List.length_append, HDL.out] at this; exact this
                    · rw [← HSZ.out]; simp [World.setCell]
                  case measure => simp [intOf]; omega
        · have hno : F = none := by rw [hr]; exact pl.rest4_char done cur _ x HA.out hdf h46
          have HNO := Lib.hid hno
          have hne : (x.toNat : Int) ≠ 46 := fun e => h46 (UInt8.toNat_inj.1 (by show x.toNat = 46; omega))
          have hnd : ¬ (48 ≤ (x.toNat : Int) ∧ (x.toNat : Int) ≤ 57) := fun h => hdg ((pl.dg_int x).2 h)
          clear hr hno hdg hdf h46
          rcases Int.lt_or_le (x.toNat : Int) 48 with hl | hl
          · go_wp2_with fail
            go_ret
            exact ⟨hbel, HSZ.out, .inl ⟨HNO.out, _, _, rfl⟩⟩
          · have hl2 : 57 < (x.toNat : Int) := by omega
            clear hnd
            go_wp2_with fail
            go_ret
            exact ⟨hbel, HSZ.out, .inl ⟨HNO.out, _, _, rfl⟩⟩
    · have hr := HR.out
      rw [List.drop_eq_nil_of_le (by simp; omega)] at hr
      by_cases hn3 : n < 3
      · have hno : F = none := by rw [hr]; exact pl.rest4_short done cur HA.out (by rw [HDL.out]; exact hn3)
        have HNO := Lib.hid hno
        clear hr hno
        go_wp2_with fail
        go_ret
        exact ⟨hbel, HSZ.out, .inl ⟨HNO.out, _, _, rfl⟩⟩
      · have hd0 : d ≠ 0 := fun h => by rcases HE.out h with h | h <;> omega
        have hcne : cur ≠ [] := by intro e; have h2 := HCL.out; rw [e] at h2; exact hd0 h2.symm
        have hn3' : n = 3 := by omega
        subst hn3'
        rw [pl.rest4_end done cur HA.out, pl.oct_good cur hcne HA.out (by rw [← HM.out]; exact hm) HZ.out, ← HM.out] at hr
        have hr2 : F = some (done ++ [UInt8.ofNat m]) := by rw [hr]; exact if_pos HDL.out
        have HR2 := Lib.hid hr2
        have hset := hblk.set (o + 3) (UInt8.ofNat m)
        have hput := pl.put_at ip done o (UInt8.ofNat m) (by rw [HDL.out]; omega)
        rw [HDL.out] at hput
        rw [hput] at hset
        have HSET := Lib.hid hset
        have hcell := hblk.cell (o + 3) (by have := HDL.out; simp only [List.length_append, List.length_take, List.length_drop]; omega)
        have hfro := hblk.frozen (o + 3)
        have hval : Value.int IntKind.u8 (m : Int) = pl.byteV (UInt8.ofNat m) := byteV_small m (by omega)
        have HVAL := Lib.hid hval
        clear hval
        clear hr hr2 hset hput hcne
        go_wp2_with fail
        go_ret
        refine ⟨hbel.setCell (Nat.le_refl _) _, ?_, .inr ⟨_, HR2.out, rfl, ?_⟩⟩
        · rw [← HSZ.out]; simp [World.setCell]
        · rw [HVAL.out]; exact HSET.out

end Go.Proofs.YtfkohahlpfejbaaDoor
