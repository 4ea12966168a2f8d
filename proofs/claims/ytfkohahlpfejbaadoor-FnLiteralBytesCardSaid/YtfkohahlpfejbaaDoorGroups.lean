/-
  WALK: the reference's groups.
-/
import Derived.Test.YtfkohahlpfejbaaDoorFour
import Derived.Test.YtfkohahlpfejbaaDoorBytApp
import Derived.Test.YtfkohahlpfejbaaDoorHex
import Derived.Test.YtfkohahlpfejbaaDoorPlHostLaw
namespace Go.Proofs.YtfkohahlpfejbaaDoor
open Go.RowKit

/-- 'out = append(out, a, b)' of two bytes. -/
theorem app_two {ops : Array Oper} {rest : List Oper} {o : Oper} {a : Act} {Q : Exit → Act → World → Prop} {w wr : World} {v : Value} {l : List UInt8} {x y : Value} (b c : UInt8) (t : TypeId) (hu : Tryd.prog.underlying t = some (.slice 5))
    (hgd : o.guard = none) (s y' : Operand) (ho : o.op = .call { callee := .builtin .append, args := #[s, y'], argTypes := #[t, t] })
    (hs : a.eval s = v) (B : Nat) (hown : Byts wr B v l) (hy : a.eval y' = .slice (some ⟨wr.heap.size, 0, none⟩) 2 2) (hp : x = pl.byteV b) (hq : y = pl.byteV c) (hlen : l.length < 70368744177664) (hb : Below B w wr) (hB : B ≤ w.heap.size)
    (h : ∀ v' w', Byts w' B v' (l ++ [b, c]) → Below B w w' → wpList Tryd.prog ops Q rest (a.put o.dst v') w') : wpList Tryd.prog ops Q (o :: rest) a (wr.alloc (.cells #[x, y] 5)) := by
  obtain ⟨i0, hi, hz0, hz1, hz2⟩ := info_parts infoByte
  have hsz := hb.size
  refine wpList_append_own _ hgd s y' t ho B 5 i0 (.int .u8 0) 1 1 hu hi hz0 hz1 hz2 rfl (by decide) v l.length (l.map pl.byteV) hs (World.ownsRow.alloc hown _) ⟨wr.heap.size, 0, none⟩ 2 2 [x, y] hy rfl ?_ ?_ ?_ ?_ ?_ ?_
  · intro j u hj
    have hn : (wr.alloc (.cells #[x, y] 5)).heap[wr.heap.size]? = some (.cells #[x, y] 5 (0, 0)) := heap_alloc_new _ _
    rw [Addr.add_lit]
    show (wr.alloc (.cells #[x, y] 5)).cell? ⟨wr.heap.size, 0 + j, none⟩ = some u
    rw [Nat.zero_add, cell_of_row _ _ _ _ _ _ hn]
    simpa using hj
  · intro u hu
    rw [List.mem_cons, List.mem_singleton] at hu
    rcases hu with rfl | rfl
    · rw [hp]; rfl
    · rw [hq]; rfl
  · unfold maxLen; omega
  · omega
  · simp; omega
  · intro v' w' h1 h2 _
    refine h v' w' ?_ ?_
    · subst hp hq
      unfold Byts
      rw [List.length_append, List.map_append]
      exact h1
    · have hb2 : Below B w (wr.alloc (.cells #[x, y] 5)) := hb.alloc (by omega) _
      exact hb2.grown h2 (by simp; omega) (fun k hk => ((World.ownsRow.lt hown) k hk).1)

theorem four_no (P : ByteArray) (W : World) (hs : P.size ≤ 2147483648) (h : pl.four P.data.toList = none) :
    Calls Tryd.prog 43 #[.string P] W fun e w' => ∃ a n c, e = .returned (.tuple #[.slice a n c, .bool false]) ∧ Below W.heap.size W w' := by
  refine (four_sp P W hs).mono fun e w' hr => ?_
  rw [h] at hr
  obtain ⟨hb, ⟨v, l, h1, _⟩ | ⟨_, a, n, c, he⟩⟩ := hr
  · cases h1
  · exact ⟨a, n, c, he, hb⟩

theorem four_yes (P : ByteArray) (W : World) (b : List UInt8) (hs : P.size ≤ 2147483648) (h : pl.four P.data.toList = some b) :
    Calls Tryd.prog 43 #[.string P] W fun e w' => ∃ v, e = .returned (.tuple #[v, .bool true]) ∧ Byts w' W.heap.size v b ∧ Below W.heap.size W w' := by
  refine (four_sp P W hs).mono fun e w' hr => ?_
  rw [h] at hr
  obtain ⟨hb, ⟨v, l, h1, he, hY⟩ | ⟨h1, _⟩⟩ := hr
  · injection h1 with h1; subst h1; exact ⟨v, he, hY, hb⟩
  · cases h1

theorem pl.four_l4 (s b : List UInt8) (h : pl.four s = some b) : b.length = 4 := by
  unfold pl.four at h
  split at h
  · split at h
    · injection h with h; subst h; assumption
    · cases h
  · cases h

theorem pl.hexG_bad (P : ByteArray) (j : Nat) (hj : j < P.size) (h : pl.hexv P[j] = none) : pl.hexG P.data.toList = none := by
  unfold pl.hexG
  rw [if_neg]
  rintro ⟨h1, _⟩
  have := List.all_eq_true.1 h1 P[j] (List.mem_of_getElem? (pl.getElem_data P j hj))
  unfold pl.isHex at this
  rw [h] at this
  cases this

theorem pl.all_hex_succ (s : ByteArray) (k : Nat) (h : k < s.size) (hd : (s.data.toList.take k).all pl.isHex = true) (hb : pl.isHex s[k] = true) : (s.data.toList.take (k + 1)).all pl.isHex = true := by
  rw [pl.take_succ s k h, List.all_append, hd]; simp [hb]

theorem pl.hexV_le (l : List UInt8) (n : Nat) (h : l.length ≤ n) : pl.hexV 0 l < 16 ^ n :=
  Nat.lt_of_lt_of_le (pl.hexV_lt l) (Nat.pow_le_pow_right (by omega) h)

theorem pl.hexG_ok (P : ByteArray) (h : P.data.toList.all pl.isHex = true) (h1 : 1 ≤ P.size) (h4 : P.size ≤ 4) : pl.hexG P.data.toList = some [UInt8.ofNat (pl.hexV 0 P.data.toList / 256), UInt8.ofNat (pl.hexV 0 P.data.toList)] := by
  unfold pl.hexG
  rw [if_pos ⟨h, by simp; omega, by simp; omega⟩]
theorem pl.hexG_len (P : ByteArray) (h : ¬ (1 ≤ P.size ∧ P.size ≤ 4)) : pl.hexG P.data.toList = none := by
  unfold pl.hexG
  rw [if_neg]
  rintro ⟨_, h1, h2⟩
  have hl : P.data.toList.length = P.size := by simp
  exact h ⟨by omega, by omega⟩
theorem pl.byte_hi (m : Nat) (h : m < 65536) : Value.int IntKind.u8 ((m : Int) / 256) = pl.byteV (UInt8.ofNat (m / 256)) := by
  unfold pl.byteV
  rw [UInt8.toNat_ofNat_of_lt' (by show m / 256 < 256; omega)]
  rfl
theorem pl.byte_lo (m : Nat) : Value.int IntKind.u8 ((m : Int) % 256) = pl.byteV (UInt8.ofNat m) := by
  unfold pl.byteV
  have e : ((UInt8.ofNat m).toNat : Int) = (m : Int) % 256 := by simp
  rw [e]

set_option maxRecDepth 100000 in
set_option maxHeartbeats 4000000 in
theorem groups_sp (s : ByteArray) (last : Bool) (w : World) (hs : s.size ≤ 2147483648) :
    Calls Tryd.prog 44 #[.string s, .bool last] w fun e w' => BytRes w w' e (pl.groups s.data.toList last) := by
  by_cases h0 : s.size = 0
  · have he := pl.emp_of s h0
    have hn := pl.nil_of s h0
    have hg : pl.groups s.data.toList last = some [] := by unfold pl.groups; rw [if_pos hn]
    rw [hg]
    clear h0 hn hg
    go_enter Tryd.func44, Tryd.ntmps44
    go_wp2_with fail
    go_ret2
    exact ⟨Below.refl _ _, .inl ⟨_, [], rfl, rfl, Byts.nil _ _⟩⟩
  · have he := pl.ne_empty s h0
    have hg : pl.groups s.data.toList last = pl.grps last (pl.split 58 s.data.toList) := by unfold pl.groups; rw [if_neg (pl.data_ne s h0)]
    rw [hg]
    have hpl := pl.split_len 58 s
    have hpart := pl.split_size 58 s
    have hsp := split_sp s 58 w (by omega)
    obtain ⟨L, hL⟩ : ∃ L, pl.split 58 s.data.toList = L := ⟨_, rfl⟩
    rw [hL] at hpl hpart hsp
    rw [hL]
    obtain ⟨G, hG⟩ : ∃ G, pl.grps last L = G := ⟨_, rfl⟩
    rw [hG]
    have HG := Lib.hid hG
    have HP := Lib.hid hpart
    have HS := Lib.hid hsp
    clear hg hpart hsp hL hG h0
    go_enter Tryd.func44, Tryd.ntmps44
    go_wp2_with (go_at_call 61; refine HS.out.mono ?_; rintro e w1 ⟨vl, rfl, hS, hb1⟩; obtain ⟨a1, k1, rfl, hcell⟩ := hS.form)
    have HC := Lib.hid hcell
    clear hcell
    go_loopw [6, 22] (fun v iv wr => ∃ (k : Nat) (acc : List UInt8), k ≤ L.length ∧ iv = .int .i64 k ∧ Hid (pl.hexAll (L.take k) = some acc) ∧ Hid (acc.length ≤ 2 * k) ∧ Hid (k = L.length → G = some acc) ∧ Byts wr w1.heap.size v acc ∧ Below w1.heap.size w1 wr) (fun _ iv _ => L.length - (intOf iv).toNat)
    case atStart =>
      refine ⟨0, [], Nat.zero_le _, rfl, Lib.hid rfl, Lib.hid (Nat.le_refl _), Lib.hid (fun h => ?_), Byts.nil _ _, Below.refl _ _⟩
      have : L = [] := List.eq_nil_of_length_eq_zero h.symm
      rw [← HG.out, this]; rfl
    case round =>
      obtain ⟨k, acc, hk, rfl, HK, HAL, HE, hown, hbel⟩ := hrel
      by_cases hlt : k < L.length
      · obtain ⟨P, hp⟩ : ∃ P : ByteArray, L[k]? = some P.data.toList := ⟨⟨(L[k]).toArray⟩, by rw [List.getElem?_eq_getElem hlt]⟩
        obtain ⟨g, rfl, hg, hB, hc⟩ := HC.out k _ hp
        have hc' : wr.cell? ⟨g, k, none⟩ = some (.string P) := by rw [below_cell hbel _ _ hg]; exact hc
        have hps := HP.out k P hp
        have HP0 := Lib.hid hp
        have hal := HAL.out
        clear hc hp
        rcases hF : pl.four P.data.toList with _ | b
        · have hcase := fun W => four_no P W (by omega) hF
          have HF := Lib.hid hcase
          have hbad : pl.hexG P.data.toList = none → G = none := fun h => by rw [← HG.out]; exact pl.grps_bad last L k _ acc HP0.out HK.out h (fun _ _ => hF)
          have hend : ∀ b, pl.hexG P.data.toList = some b → k + 1 = L.length → G = some (acc ++ b) := fun b h hl => by rw [← HG.out]; exact pl.grps_end last L k _ acc b HP0.out hl HK.out h (fun _ => hF)
          have HBAD := Lib.hid hbad
          have HEND := Lib.hid hend
          clear hbad hend hF hcase
          go_wp2_with (go_at_call 43; refine (HF.out _).mono ?_; rintro e w2 ⟨af, nf, cf, rfl, hb2⟩)
          have hown2 := hown.below hb2
          have hbel2 := hbel.trans (hb2.mono hbel.size)
          go_loopw [12, 48] (fun nv jv wi => ∃ (j : Nat) (n : Int), j ≤ P.size ∧ jv = .int .i64 j ∧ nv = .int .i64 n ∧ Hid ((P.data.toList.take j).all pl.isHex = true) ∧ Hid (j ≤ 4 → n = pl.hexV 0 (P.data.toList.take j)) ∧ wi = w2) (fun _ jv _ => P.size - (intOf jv).toNat)
          case atStart => exact ⟨0, 0, Nat.zero_le _, rfl, rfl, Lib.hid (by simp), Lib.hid (fun _ => rfl), rfl⟩
          case round =>
            obtain ⟨j, n, hj, rfl, rfl, HA, HN, rfl⟩ := hrel
            by_cases hjl : j < P.size
            · obtain ⟨x, hx⟩ : ∃ x, P[j] = x := ⟨_, rfl⟩
              have hdg := dig_sp x
              rcases hh : pl.hexv x with _ | d
              · have hno := HBAD.out (pl.hexG_bad P j hjl (by rw [hx]; exact hh))
                rw [hh] at hdg
                have hdg' : ∀ W, Calls Tryd.prog 62 #[.int .u8 x.toNat] W fun e w' => e = .returned (.tuple #[.int .i64 0, .bool false]) ∧ W = w' := hdg
                have HD := Lib.hid hdg'
                have HNO := Lib.hid hno
                clear hdg hdg' hh hno
                go_wp2_with (go_at_call 62; refine (HD.out _).mono ?_; rintro e w' ⟨rfl, rfl⟩)
                go_ret2
                exact ⟨hb1.trans (hbel2.mono hb1.size), .inr ⟨HNO.out, _, _, _, rfl⟩⟩
              · have hd := pl.hexv_lt x d hh
                have hall := pl.all_hex_succ P j hjl HA.out (by rw [hx]; unfold pl.isHex; rw [hh]; rfl)
                rw [hh] at hdg
                have hdg' : ∀ W, Calls Tryd.prog 62 #[.int .u8 x.toNat] W fun e w' => e = .returned (.tuple #[.int .i64 (d : Int), .bool true]) ∧ W = w' := hdg
                have HD := Lib.hid hdg'
                have HALL := Lib.hid hall
                have HH := Lib.hid hh
                clear hdg hdg' hh hall
                by_cases hj4 : j ≤ 3
                · have hnn := HN.out (by omega)
                  have hbd := pl.hexV_le (P.data.toList.take j) 3 (by rw [List.length_take]; omega)
                  obtain ⟨m, hm⟩ : ∃ m, pl.hexV 0 (P.data.toList.take j) = m := ⟨_, rfl⟩
                  rw [hm] at hbd hnn
                  subst hnn
                  have HM := Lib.hid hm
                  clear hm HN
                  go_wp2_with (go_at_call 62; refine (HD.out _).mono ?_; rintro e w' ⟨rfl, rfl⟩)
                  go_roundw
                  case rel => exact ⟨j + 1, _, by omega, by go_num, rfl, HALL, Lib.hid (fun _ => by rw [pl.take_succ P j hjl, pl.hexV_snoc, HM.out, hx, HH.out]; simp), by first | rfl | trivial⟩
                  case measure => simp [intOf]; omega
                · go_wp2_with (go_at_call 62; refine (HD.out _).mono ?_; rintro e w' ⟨rfl, rfl⟩)
                  go_roundw
                  case rel => exact ⟨j + 1, _, by omega, by go_num, rfl, HALL, Lib.hid (fun h => absurd h (by omega)), by first | rfl | trivial⟩
                  case measure => simp [intOf]; omega
            · have ej := pl.take_all P j (by omega)
              rw [ej] at HA HN
              have hje : j = P.size := by omega
              clear ej
              by_cases h14 : 1 ≤ P.size ∧ P.size ≤ 4
              · obtain ⟨h1, h4⟩ := h14
                have hnn := HN.out (by omega)
                have hbd := pl.hexV_le P.data.toList 4 (by simp; omega)
                have hgx := pl.hexG_ok P HA.out h1 h4
                obtain ⟨m, hm⟩ : ∃ m, pl.hexV 0 P.data.toList = m := ⟨_, rfl⟩
                rw [hm] at hbd hnn hgx
                subst hnn
                have hnx := pl.hexAll_next L k _ acc _ HP0.out HK.out hgx
                have hen := HEND.out _ hgx
                have hu1 : Value.int IntKind.u8 ((m : Int) / 256) = pl.byteV (UInt8.ofNat (m / 256)) := pl.byte_hi m hbd
                have hu2 : Value.int IntKind.u8 ((m : Int) % 256) = pl.byteV (UInt8.ofNat m) := pl.byte_lo m
                have HNX := Lib.hid hnx
                have HEN := Lib.hid hen
                have HU1 := Lib.hid hu1
                have HU2 := Lib.hid hu2
                obtain ⟨U1, hU1⟩ : ∃ u, UInt8.ofNat (m / 256) = u := ⟨_, rfl⟩
                obtain ⟨U2, hU2⟩ : ∃ u, UInt8.ofNat m = u := ⟨_, rfl⟩
                rw [hU1] at HU1 HNX HEN
                rw [hU2] at HU2 HNX HEN
                clear hm HN HA hgx hnx hen hu1 hu2 hU1 hU2
                have hkb : acc.length < 70368744177664 := by omega
                go_wp2_with (at_builtin; refine app_two (w := w1) U1 U2 26 Tryd.underlying26 rfl _ _ rfl rfl w1.heap.size hown2 rfl HU1.out HU2.out hkb hbel2 (Nat.le_refl _) ?_)
                intro v1 w3 hown3 hbel3
                go_wp2_with fail
                go_roundw
                case rel => exact ⟨k + 1, _, by omega, by go_num, HNX, Lib.hid (by rw [List.length_append, List.length_cons, List.length_singleton]; omega), Lib.hid HEN.out, hown3, hbel3⟩
                case measure => simp [intOf]; omega
              · have hgx : pl.hexG P.data.toList = none := pl.hexG_len P h14
                have hno := HBAD.out hgx
                have HNO := Lib.hid hno
                clear hno hgx HN
                rcases (show ¬ (1 ≤ P.size) ∨ (1 ≤ P.size ∧ 4 < P.size) by omega) with h1 | ⟨h1, h4⟩
                · have h1' : (P.size : Int) < 1 := by omega
                  clear h14 h1
                  go_wp2_with fail
                  go_ret2
                  exact ⟨hb1.trans (hbel2.mono hb1.size), .inr ⟨HNO.out, _, _, _, rfl⟩⟩
                · have h1' : ¬ (P.size : Int) < 1 := by omega
                  have h4' : (4 : Int) < (P.size : Int) := by omega
                  clear h14 h1 h4
                  go_wp2_with fail
                  go_ret2
                  exact ⟨hb1.trans (hbel2.mono hb1.size), .inr ⟨HNO.out, _, _, _, rfl⟩⟩
        · have hcase := fun W => four_yes P W b (by omega) hF
          have HF := Lib.hid hcase
          by_cases hret : last = true ∧ k + 1 = L.length
          · obtain ⟨rfl, hkl⟩ := hret
            have hgr : G = some (acc ++ b) := by rw [← HG.out]; exact pl.grps_four L k _ acc b HP0.out hkl HK.out hF
            have hb4 := pl.four_l4 _ b hF
            have hkl' : ((k : Int) == (L.length : Int) - 1) = true := by rw [beq_iff_eq]; omega
            have HGR := Lib.hid hgr
            clear hgr hF hcase
            go_wp2_with (first | (go_at_call 43; refine (HF.out _).mono ?_; rintro e w2 ⟨vf, rfl, hYf, hb2⟩; have hown2 := hown.below hb2; have hbel2 := hbel.trans (hb2.mono hbel.size)) | (at_builtin; refine app_bytes (w := w1) 26 Tryd.underlying26 rfl _ _ rfl rfl w1.heap.size hown2 rfl hYf.reads (by omega) hbel2 (Nat.le_refl _) ?_))
            intro v1 w3 hown3 hbel3
            go_wp2_with fail
            go_ret2
            exact ⟨hb1.trans (hbel3.mono hb1.size), .inl ⟨_, _, HGR.out, rfl, hown3.mono hb1.size⟩⟩
          · have hbad : pl.hexG P.data.toList = none → G = none := fun h => by rw [← HG.out]; exact pl.grps_bad last L k _ acc HP0.out HK.out h (fun h1 h2 => absurd ⟨h1, h2⟩ hret)
            have hend : ∀ b, pl.hexG P.data.toList = some b → k + 1 = L.length → G = some (acc ++ b) := fun b h hl => by rw [← HG.out]; exact pl.grps_end last L k _ acc b HP0.out hl HK.out h (fun h1 => absurd ⟨h1, hl⟩ hret)
            have HBAD := Lib.hid hbad
            have HEND := Lib.hid hend
            clear hbad hend hF hcase
            rcases last with _ | _
            · clear hret
              go_wp2_with (go_at_call 43; refine (HF.out _).mono ?_; rintro e w2 ⟨vf, rfl, _, hb2⟩)
              have hown2 := hown.below hb2
              have hbel2 := hbel.trans (hb2.mono hbel.size)
              go_loopw [12, 48] (fun nv jv wi => ∃ (j : Nat) (n : Int), j ≤ P.size ∧ jv = .int .i64 j ∧ nv = .int .i64 n ∧ Hid ((P.data.toList.take j).all pl.isHex = true) ∧ Hid (j ≤ 4 → n = pl.hexV 0 (P.data.toList.take j)) ∧ wi = w2) (fun _ jv _ => P.size - (intOf jv).toNat)
              case atStart => exact ⟨0, 0, Nat.zero_le _, rfl, rfl, Lib.hid (by simp), Lib.hid (fun _ => rfl), rfl⟩
              case round =>
                obtain ⟨j, n, hj, rfl, rfl, HA, HN, rfl⟩ := hrel
                by_cases hjl : j < P.size
                · obtain ⟨x, hx⟩ : ∃ x, P[j] = x := ⟨_, rfl⟩
                  have hdg := dig_sp x
                  rcases hh : pl.hexv x with _ | d
                  · have hno := HBAD.out (pl.hexG_bad P j hjl (by rw [hx]; exact hh))
                    rw [hh] at hdg
                    have hdg' : ∀ W, Calls Tryd.prog 62 #[.int .u8 x.toNat] W fun e w' => e = .returned (.tuple #[.int .i64 0, .bool false]) ∧ W = w' := hdg
                    have HD := Lib.hid hdg'
                    have HNO := Lib.hid hno
                    clear hdg hdg' hh hno
                    go_wp2_with (go_at_call 62; refine (HD.out _).mono ?_; rintro e w' ⟨rfl, rfl⟩)
                    go_ret2
                    exact ⟨hb1.trans (hbel2.mono hb1.size), .inr ⟨HNO.out, _, _, _, rfl⟩⟩
                  · have hd := pl.hexv_lt x d hh
                    have hall := pl.all_hex_succ P j hjl HA.out (by rw [hx]; unfold pl.isHex; rw [hh]; rfl)
                    rw [hh] at hdg
                    have hdg' : ∀ W, Calls Tryd.prog 62 #[.int .u8 x.toNat] W fun e w' => e = .returned (.tuple #[.int .i64 (d : Int), .bool true]) ∧ W = w' := hdg
                    have HD := Lib.hid hdg'
                    have HALL := Lib.hid hall
                    have HH := Lib.hid hh
                    clear hdg hdg' hh hall
                    by_cases hj4 : j ≤ 3
                    · have hnn := HN.out (by omega)
                      have hbd := pl.hexV_le (P.data.toList.take j) 3 (by rw [List.length_take]; omega)
                      obtain ⟨m, hm⟩ : ∃ m, pl.hexV 0 (P.data.toList.take j) = m := ⟨_, rfl⟩
                      rw [hm] at hbd hnn
                      subst hnn
                      have HM := Lib.hid hm
                      clear hm HN
                      go_wp2_with (go_at_call 62; refine (HD.out _).mono ?_; rintro e w' ⟨rfl, rfl⟩)
                      go_roundw
                      case rel => exact ⟨j + 1, _, by omega, by go_num, rfl, HALL, Lib.hid (fun _ => by rw [pl.take_succ P j hjl, pl.hexV_snoc, HM.out, hx, HH.out]; simp), by first | rfl | trivial⟩
                      case measure => simp [intOf]; omega
                    · go_wp2_with (go_at_call 62; refine (HD.out _).mono ?_; rintro e w' ⟨rfl, rfl⟩)
                      go_roundw
                      case rel => exact ⟨j + 1, _, by omega, by go_num, rfl, HALL, Lib.hid (fun h => absurd h (by omega)), by first | rfl | trivial⟩
                      case measure => simp [intOf]; omega
                · have ej := pl.take_all P j (by omega)
                  rw [ej] at HA HN
                  have hje : j = P.size := by omega
                  clear ej
                  by_cases h14 : 1 ≤ P.size ∧ P.size ≤ 4
                  · obtain ⟨h1, h4⟩ := h14
                    have hnn := HN.out (by omega)
                    have hbd := pl.hexV_le P.data.toList 4 (by simp; omega)
                    have hgx := pl.hexG_ok P HA.out h1 h4
                    obtain ⟨m, hm⟩ : ∃ m, pl.hexV 0 P.data.toList = m := ⟨_, rfl⟩
                    rw [hm] at hbd hnn hgx
                    subst hnn
                    have hnx := pl.hexAll_next L k _ acc _ HP0.out HK.out hgx
                    have hen := HEND.out _ hgx
                    have hu1 : Value.int IntKind.u8 ((m : Int) / 256) = pl.byteV (UInt8.ofNat (m / 256)) := pl.byte_hi m hbd
                    have hu2 : Value.int IntKind.u8 ((m : Int) % 256) = pl.byteV (UInt8.ofNat m) := pl.byte_lo m
                    have HNX := Lib.hid hnx
                    have HEN := Lib.hid hen
                    have HU1 := Lib.hid hu1
                    have HU2 := Lib.hid hu2
                    obtain ⟨U1, hU1⟩ : ∃ u, UInt8.ofNat (m / 256) = u := ⟨_, rfl⟩
                    obtain ⟨U2, hU2⟩ : ∃ u, UInt8.ofNat m = u := ⟨_, rfl⟩
                    rw [hU1] at HU1 HNX HEN
                    rw [hU2] at HU2 HNX HEN
                    clear hm HN HA hgx hnx hen hu1 hu2 hU1 hU2
                    have hkb : acc.length < 70368744177664 := by omega
                    go_wp2_with (at_builtin; refine app_two (w := w1) U1 U2 26 Tryd.underlying26 rfl _ _ rfl rfl w1.heap.size hown2 rfl HU1.out HU2.out hkb hbel2 (Nat.le_refl _) ?_)
                    intro v1 w3 hown3 hbel3
                    go_wp2_with fail
                    go_roundw
                    case rel => exact ⟨k + 1, _, by omega, by go_num, HNX, Lib.hid (by rw [List.length_append, List.length_cons, List.length_singleton]; omega), Lib.hid HEN.out, hown3, hbel3⟩
                    case measure => simp [intOf]; omega
                  · have hgx : pl.hexG P.data.toList = none := pl.hexG_len P h14
                    have hno := HBAD.out hgx
                    have HNO := Lib.hid hno
                    clear hno hgx HN
                    rcases (show ¬ (1 ≤ P.size) ∨ (1 ≤ P.size ∧ 4 < P.size) by omega) with h1 | ⟨h1, h4⟩
                    · have h1' : (P.size : Int) < 1 := by omega
                      clear h14 h1
                      go_wp2_with fail
                      go_ret2
                      exact ⟨hb1.trans (hbel2.mono hb1.size), .inr ⟨HNO.out, _, _, _, rfl⟩⟩
                    · have h1' : ¬ (P.size : Int) < 1 := by omega
                      have h4' : (4 : Int) < (P.size : Int) := by omega
                      clear h14 h1 h4
                      go_wp2_with fail
                      go_ret2
                      exact ⟨hb1.trans (hbel2.mono hb1.size), .inr ⟨HNO.out, _, _, _, rfl⟩⟩
            · have hkl' : ((k : Int) == (L.length : Int) - 1) = false := by
                rw [beq_eq_false_iff_ne]
                intro h
                exact hret ⟨rfl, by omega⟩
              clear hret
              go_wp2_with (go_at_call 43; refine (HF.out _).mono ?_; rintro e w2 ⟨vf, rfl, _, hb2⟩)
              have hown2 := hown.below hb2
              have hbel2 := hbel.trans (hb2.mono hbel.size)
              go_loopw [12, 48] (fun nv jv wi => ∃ (j : Nat) (n : Int), j ≤ P.size ∧ jv = .int .i64 j ∧ nv = .int .i64 n ∧ Hid ((P.data.toList.take j).all pl.isHex = true) ∧ Hid (j ≤ 4 → n = pl.hexV 0 (P.data.toList.take j)) ∧ wi = w2) (fun _ jv _ => P.size - (intOf jv).toNat)
              case atStart => exact ⟨0, 0, Nat.zero_le _, rfl, rfl, Lib.hid (by simp), Lib.hid (fun _ => rfl), rfl⟩
              case round =>
                obtain ⟨j, n, hj, rfl, rfl, HA, HN, rfl⟩ := hrel
                by_cases hjl : j < P.size
                · obtain ⟨x, hx⟩ : ∃ x, P[j] = x := ⟨_, rfl⟩
                  have hdg := dig_sp x
                  rcases hh : pl.hexv x with _ | d
                  · have hno := HBAD.out (pl.hexG_bad P j hjl (by rw [hx]; exact hh))
                    rw [hh] at hdg
                    have hdg' : ∀ W, Calls Tryd.prog 62 #[.int .u8 x.toNat] W fun e w' => e = .returned (.tuple #[.int .i64 0, .bool false]) ∧ W = w' := hdg
                    have HD := Lib.hid hdg'
                    have HNO := Lib.hid hno
                    clear hdg hdg' hh hno
                    go_wp2_with (go_at_call 62; refine (HD.out _).mono ?_; rintro e w' ⟨rfl, rfl⟩)
                    go_ret2
                    exact ⟨hb1.trans (hbel2.mono hb1.size), .inr ⟨HNO.out, _, _, _, rfl⟩⟩
                  · have hd := pl.hexv_lt x d hh
                    have hall := pl.all_hex_succ P j hjl HA.out (by rw [hx]; unfold pl.isHex; rw [hh]; rfl)
                    rw [hh] at hdg
                    have hdg' : ∀ W, Calls Tryd.prog 62 #[.int .u8 x.toNat] W fun e w' => e = .returned (.tuple #[.int .i64 (d : Int), .bool true]) ∧ W = w' := hdg
                    have HD := Lib.hid hdg'
                    have HALL := Lib.hid hall
                    have HH := Lib.hid hh
                    clear hdg hdg' hh hall
                    by_cases hj4 : j ≤ 3
                    · have hnn := HN.out (by omega)
                      have hbd := pl.hexV_le (P.data.toList.take j) 3 (by rw [List.length_take]; omega)
                      obtain ⟨m, hm⟩ : ∃ m, pl.hexV 0 (P.data.toList.take j) = m := ⟨_, rfl⟩
                      rw [hm] at hbd hnn
                      subst hnn
                      have HM := Lib.hid hm
                      clear hm HN
                      go_wp2_with (go_at_call 62; refine (HD.out _).mono ?_; rintro e w' ⟨rfl, rfl⟩)
                      go_roundw
                      case rel => exact ⟨j + 1, _, by omega, by go_num, rfl, HALL, Lib.hid (fun _ => by rw [pl.take_succ P j hjl, pl.hexV_snoc, HM.out, hx, HH.out]; simp), by first | rfl | trivial⟩
                      case measure => simp [intOf]; omega
                    · go_wp2_with (go_at_call 62; refine (HD.out _).mono ?_; rintro e w' ⟨rfl, rfl⟩)
                      go_roundw
                      case rel => exact ⟨j + 1, _, by omega, by go_num, rfl, HALL, Lib.hid (fun h => absurd h (by omega)), by first | rfl | trivial⟩
                      case measure => simp [intOf]; omega
                · have ej := pl.take_all P j (by omega)
                  rw [ej] at HA HN
                  have hje : j = P.size := by omega
                  clear ej
                  by_cases h14 : 1 ≤ P.size ∧ P.size ≤ 4
                  · obtain ⟨h1, h4⟩ := h14
                    have hnn := HN.out (by omega)
                    have hbd := pl.hexV_le P.data.toList 4 (by simp; omega)
                    have hgx := pl.hexG_ok P HA.out h1 h4
                    obtain ⟨m, hm⟩ : ∃ m, pl.hexV 0 P.data.toList = m := ⟨_, rfl⟩
                    rw [hm] at hbd hnn hgx
                    subst hnn
                    have hnx := pl.hexAll_next L k _ acc _ HP0.out HK.out hgx
                    have hen := HEND.out _ hgx
                    have hu1 : Value.int IntKind.u8 ((m : Int) / 256) = pl.byteV (UInt8.ofNat (m / 256)) := pl.byte_hi m hbd
                    have hu2 : Value.int IntKind.u8 ((m : Int) % 256) = pl.byteV (UInt8.ofNat m) := pl.byte_lo m
                    have HNX := Lib.hid hnx
                    have HEN := Lib.hid hen
                    have HU1 := Lib.hid hu1
                    have HU2 := Lib.hid hu2
                    obtain ⟨U1, hU1⟩ : ∃ u, UInt8.ofNat (m / 256) = u := ⟨_, rfl⟩
                    obtain ⟨U2, hU2⟩ : ∃ u, UInt8.ofNat m = u := ⟨_, rfl⟩
                    rw [hU1] at HU1 HNX HEN
                    rw [hU2] at HU2 HNX HEN
                    clear hm HN HA hgx hnx hen hu1 hu2 hU1 hU2
                    have hkb : acc.length < 70368744177664 := by omega
                    go_wp2_with (at_builtin; refine app_two (w := w1) U1 U2 26 Tryd.underlying26 rfl _ _ rfl rfl w1.heap.size hown2 rfl HU1.out HU2.out hkb hbel2 (Nat.le_refl _) ?_)
                    intro v1 w3 hown3 hbel3
                    go_wp2_with fail
                    go_roundw
                    case rel => exact ⟨k + 1, _, by omega, by go_num, HNX, Lib.hid (by rw [List.length_append, List.length_cons, List.length_singleton]; omega), Lib.hid HEN.out, hown3, hbel3⟩
                    case measure => simp [intOf]; omega
                  · have hgx : pl.hexG P.data.toList = none := pl.hexG_len P h14
                    have hno := HBAD.out hgx
                    have HNO := Lib.hid hno
                    clear hno hgx HN
                    rcases (show ¬ (1 ≤ P.size) ∨ (1 ≤ P.size ∧ 4 < P.size) by omega) with h1 | ⟨h1, h4⟩
                    · have h1' : (P.size : Int) < 1 := by omega
                      clear h14 h1
                      go_wp2_with fail
                      go_ret2
                      exact ⟨hb1.trans (hbel2.mono hb1.size), .inr ⟨HNO.out, _, _, _, rfl⟩⟩
                    · have h1' : ¬ (P.size : Int) < 1 := by omega
                      have h4' : (4 : Int) < (P.size : Int) := by omega
                      clear h14 h1 h4
                      go_wp2_with fail
                      go_ret2
                      exact ⟨hb1.trans (hbel2.mono hb1.size), .inr ⟨HNO.out, _, _, _, rfl⟩⟩
      · have hke : k = L.length := by omega
        have hG2 := HE.out hke
        have HG2 := Lib.hid hG2
        clear hG2 hke
        obtain ⟨a2, k2, rfl, _⟩ := hown.reads
        go_wp2_with fail
        go_ret2
        exact ⟨hb1.trans (hbel.mono hb1.size), .inl ⟨_, acc, HG2.out, rfl, hown.mono hb1.size⟩⟩

end Go.Proofs.YtfkohahlpfejbaaDoor
