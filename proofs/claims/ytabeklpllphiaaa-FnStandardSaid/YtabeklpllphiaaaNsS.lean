/-
  WALK: net.Sources.
-/
import Derived.Test.YtabeklpllphiaaaNsO
import Derived.Test.YtabeklpllphiaaaNsP
import Derived.Deep.RegionHeld3
import Derived.Deep.CutRange
namespace Go.Proofs.Ytabeklpllphiaaa
open Go.RowKit

theorem app_row_g {ops : Array Oper} {rest : List Oper} {o : Oper} {a : Act} {Q : Exit → Act → World → Prop} {wr : World} {v : Value} {n : Nat} {xs : List Value} (ts t : TypeId) (z : Value) (size bytes : Nat)
    (hu : Try.prog.underlying ts = some (.slice t)) (hinfo : (Try.prog.info? t).map (fun i => (i.zero, i.size, i.bytes)) = some (some z, size, bytes)) (hz : z.cells.size = size) (hsz : 0 < size) (hby : bytes ≤ 100)
    (cs : Array Value) (hcs : cs.size = size) (h1 : ∀ u ∈ cs.toList, u.oneCell' = true)
    (hgd : o.guard = none) (s y : Operand) (ho : o.op = .call { callee := .builtin .append, args := #[s, y], argTypes := #[ts, ts] })
    (hs : a.eval s = v) (B : Nat) (hown : wr.ownsRow B t size v n xs) (gn : Nat) (hgn : wr.heap.size = gn) (hy : a.eval y = .slice (some ⟨gn, 0, none⟩) 1 1) (hlen : n < 1000000) (hB : B ≤ wr.heap.size)
    (h : ∀ v' w', w'.ownsRow B t size v' (n + 1) (xs ++ cs.toList) → (wr.alloc (.cells cs t)).grownBy w' v.ownBlock → wpList Try.prog ops Q rest (a.put o.dst v') w') : wpList Try.prog ops Q (o :: rest) a (wr.alloc (.cells cs t)) :=
  app_row ts t z size bytes hu hinfo hz hsz hby cs hcs h1 hgd s y ho hs B hown (by rw [hgn]; exact hy) hlen hB (fun v' w' h1 h2 _ => h v' w' h1 h2)
theorem far3 {w : World} {g g2 : Nat} {arr : Array Value} {ty : TypeId} (h : Blk w g2 arr ty) (hne : g ≠ g2) (a b c : Value) : Blk (((w.setCell ⟨g, 0, none⟩ a).setCell ⟨g, 1, none⟩ b).setCell ⟨g, 2, none⟩ c) g2 arr ty :=
  ((h.other g 0 a hne).other g 1 b hne).other g 2 c hne
theorem cs_step {V U UA w9 : World} {gx BB : Nat} {ts tc : TypeId} (hne : tc ≠ ts) {nmv bv vc v9 : Value} {l : List Crit} {c : Crit} {cs : List Value} (hX : Blk U gx #[nmv, vc, bv] ts) (hC : Crs U BB tc vc l) (hB : Below BB V U) (hgx : BB ≤ gx) (hal : Below U.heap.size U UA)
    (hv9 : w9.ownsRow BB tc 3 v9 (l.length + 1) (l.flatMap critCells ++ cs)) (hcs : cs = critCells c) (hg9 : UA.grownBy w9 vc.ownBlock) :
    Blk w9 gx #[nmv, vc, bv] ts ∧ Blk (w9.setCell ⟨gx, 1, none⟩ v9) gx #[nmv, v9, bv] ts ∧ Crs (w9.setCell ⟨gx, 1, none⟩ v9) BB tc v9 (l ++ [c]) ∧ Below BB V (w9.setCell ⟨gx, 1, none⟩ v9) := by
  have hA := Row.below hC hal
  have hX9 : Blk w9 gx #[nmv, vc, bv] ts := (hX.below hal hX.lt).keepT (KeepT.grown hA hg9) (fun e => hne e.symm)
  refine ⟨hX9, hX9.set 1 v9, ?_, ?_⟩
  · exact Crs.snoc (Row.keepT hv9 (KeepT.set hX9 1 v9) hne) hcs
  · have h1 := hX.lt
    have h2 := hal.size
    refine (Below.grown (hB.trans (hal.mono (by omega))) hg9 (by omega) (fun q hq => (World.ownsRow.lt hC q hq).1)).setCell (p := ⟨gx, 1, none⟩) hgx _
def NsRes (_db : List UInt8) (l : List Src) (ts tc : TypeId) (w : World) (e : Ending) (w' : World) : Prop :=
  ∃ v, e = .returned (.tuple #[v, .bool true]) ∧ Hid (SoR w' w.heap.size ts tc v (l.map pl.sB)) ∧ Hid (Below w.heap.size w w')

set_option maxRecDepth 100000 in
set_option maxHeartbeats 8000000 in
theorem nsrc_sp (db : List UInt8) (l : List Src) (w : World) (hok : pl.swOk db l = true) (hd : db.length ≤ 2147483647) (hf : ∀ s ∈ l, FitN s) :
    Calls Try.prog 33 #[.string ⟨(pl.swText db l).toArray⟩, .string ⟨db.toArray⟩] w (NsRes db l 83 84 w) := by
  obtain ⟨T, hT⟩ : ∃ T : ByteArray, (⟨(pl.swText db l).toArray⟩ : ByteArray) = T := ⟨_, rfl⟩
  obtain ⟨W1, hW1⟩ : ∃ W1, w.alloc (.cells #[.string T] 95) = W1 := ⟨_, rfl⟩
  have hB1 : Blk W1 w.heap.size #[.string ⟨(pl.ltext (pl.nsLs db l)).toArray⟩] 95 := by rw [← hW1, pl.nsText_ls, hT]; exact Blk.new w _ _
  have hb1 : Below w.heap.size w W1 := by rw [← hW1]; exact (Below.refl _ _).alloc (Nat.le_refl _) _
  have hnc := nc_sp db l w W1 hok hd hf hb1 hB1
  have h20 := (pl.swOk_parts db l hok).2.2.1
  have hso := (pl.swOk_parts db l hok).2.2.2
  have hc8 : ∀ s ∈ l, s.2.length ≤ 8 := fun s hs => (pl.srcOk_parts s (hso s hs)).2.1
  obtain ⟨DB, hDB⟩ : ∃ DB : ByteArray, (⟨db.toArray⟩ : ByteArray) = DB := ⟨_, rfl⟩
  have hDd : DB.data.toList = db := by rw [← hDB]
  have hDs : DB.size ≤ maxLen := by rw [← hDB]; show db.length ≤ _; unfold maxLen; omega
  rw [hT, hDB]
  have HNC := Lib.hid hnc
  have HDD := Lib.hid hDd
  have HDS := Lib.hid hDs
  have HC8 := Lib.hid hc8
  have H20 := Lib.hid h20
  clear hT hB1 hb1 hnc hso hc8 hDB hDd hDs hok hf hd h20
  go_enter Try.func33, Try.ntmps33
  go_wp2_with (first
    | (go_at_call 41; (try rw [hW1]); refine HNC.out.mono ?_; rintro e w2 ⟨gc, gm, n, f, rfl, HC2, HM2, HN2, HB2⟩; have c21 : w2.cell? ⟨gc, 1, none⟩ = some (.map (some gm)) := HC2.out.cell 1; obtain ⟨v, hv⟩ : ∃ v, (f db).getD (.slice none 0 0) = v := ⟨_, rfl⟩; rw [hv] at HN2; have HV := Lib.hid hv; clear hv; obtain ⟨av, cv, hav⟩ := HN2.out.shape; rw [List.length_map] at hav; subst hav)
    | (at_lookup; refine wpList_look_v _ rfl _ _ 103 rfl 9 102 Try.underlying9 Try.underlying103 gm n f (.slice none 0 0) (zero_ns _) rfl HM2.out DB HDS.out rfl db HDD.out (.slice av l.length cv) HV.out ?_))
  have hlc : l.length ≤ 20 := H20.out
  go_loopw [7, 24] (fun lv i wr => ∃ k : Nat, k ≤ l.length ∧ i = .int .i64 k ∧ Hid (SoR wr w.heap.size 83 84 lv ((l.take k).map pl.sB)) ∧ Hid (NsR wr w.heap.size (.slice av l.length cv) (l.map pl.lowS)) ∧ Hid (Blk wr gc #[.nilIface, .map (some gm)] 105) ∧ Hid (Below w.heap.size w wr)) (fun _ i _ => l.length - (intOf i).toNat)
  case atStart => exact ⟨0, Nat.zero_le _, rfl, Lib.hid (SoR.nil _ _ _ _), HN2, HC2, HB2⟩
  case round =>
    obtain ⟨k, hk, rfl, HS, HN, HC, HB⟩ := hrel
    by_cases hlt : k < l.length
    · obtain ⟨s0, hs0⟩ : ∃ s0, l[k]? = some s0 := ⟨_, List.getElem?_eq_getElem hlt⟩
      obtain ⟨g, cap, x, hav, _, hg, c0, c1, hcr⟩ := HN.out.at k (pl.lowS s0) (by rw [List.getElem?_map, hs0]; rfl)
      injection hav with hav e2 e3
      subst hav
      clear e2 e3
      have htk : (l.take (k + 1)).map pl.sB = (l.take k).map pl.sB ++ [pl.sB s0] := by rw [pl.take_at l k s0 hs0, List.map_append]; rfl
      have hc8 : (pl.lowS s0).2.length ≤ 8 := by
        have := HC8.out s0 (List.mem_of_getElem? hs0)
        show (s0.2.map pl.lowC).length ≤ 8
        rw [List.length_map]; exact this
      obtain ⟨nm, cs0⟩ := s0
      obtain ⟨cs, hcs⟩ : ∃ cs, cs0.map pl.lowC = cs := ⟨_, rfl⟩
      have hlow : pl.lowS (nm, cs0) = (nm, cs) := by rw [← hcs]; rfl
      rw [hlow] at c0 hcr hc8
      have htk2 : (l.take (k + 1)).map pl.sB = (l.take k).map pl.sB ++ [((nm, cs), pl.stdC cs)] := by rw [htk, ← hcs]; rfl
      have hcr' : Crs wr w.heap.size 110 x cs := hcr
      have hc8' : cs.length ≤ 8 := hc8
      obtain ⟨xa, xc, hxa⟩ := Row.shape hcr'
      subst hxa
      obtain ⟨NB, hNB⟩ : ∃ NB : ByteArray, (⟨nm.toArray⟩ : ByteArray) = NB := ⟨_, rfl⟩
      have hNV : pl.strV nm = .string NB := by rw [← hNB]; rfl
      have c0' : wr.cell? ⟨g, k * 2, none⟩ = some (.string NB) := by rw [← hNV]; exact c0
      obtain ⟨b, hb⟩ : ∃ b, pl.stdC cs = b := ⟨_, rfl⟩
      have hst := fun W (hW : Below wr.heap.size wr W) => std_sp nm (.slice xa cs.length xc) cs w.heap.size W (hcr'.below hW) (by omega)
      rw [hNV, hb] at hst
      rw [hb] at htk2
      obtain ⟨V, hV⟩ : ∃ V, wr.alloc (.cells #[.string NB, .slice xa cs.length xc] 108) = V := ⟨_, rfl⟩
      have hbV : Below wr.heap.size wr V := by rw [← hV]; exact (Below.refl _ _).alloc (Nat.le_refl _) _
      have hBs : Blk V wr.heap.size #[.string NB, .slice xa cs.length xc] 108 := by rw [← hV]; exact Blk.new wr _ _
      have hzV : V.heap.size = wr.heap.size + 1 := by rw [← hV]; simp
      obtain ⟨lva, lvc, hlv⟩ := HS.out.form
      rw [List.length_map, List.length_take, Nat.min_eq_left (Nat.le_of_lt hlt)] at hlv
      subst hlv
      have HST := Lib.hid hst
      have HTK := Lib.hid htk2
      have HCR := Lib.hid hcr'
      have HV := Lib.hid hV
      have HBV := Lib.hid hbV
      have HBS := Lib.hid hBs
      have HZV := Lib.hid hzV
      have HC8' := Lib.hid hc8'
      have HNV := Lib.hid hNV
      clear hst htk htk2 hcr hcr' hV hbV hBs hzV hc8 hc8' hNB hNV hb hcs hlow hs0 c0
      go_wp2_with fail
      refine wp_name (fun V2 hV2 => ?_)
      have hVV : V2 = V := by rw [hV2]; exact HV.out
      clear hV2
      subst hVV
      clear c0' c1
      obtain ⟨gs, hgs⟩ : ∃ gs, wr.heap.size = gs := ⟨_, rfl⟩
      rw [hgs]
      have hBs2 := HBS.out
      rw [hgs] at hBs2
      have s0d : V2.drew.cell? ⟨gs, 0, none⟩ = some (.string NB) := hBs2.cell 0
      have s1d : V2.drew.cell? ⟨gs, 1, none⟩ = some (.slice xa cs.length xc) := hBs2.cell 1
      have HGS := Lib.hid hgs
      have HBS2 := Lib.hid hBs2
      clear hBs2 hgs
      have hZ : Blk (V2.alloc (Obj.cells #[.string ⟨#[]⟩, .slice none 0 0, .bool false] 83)).drew V2.heap.size #[.string ⟨#[]⟩, .slice none 0 0, .bool false] 83 := Blk.new V2 _ _
      have halz : Below V2.heap.size V2 (V2.alloc (Obj.cells #[.string ⟨#[]⟩, .slice none 0 0, .bool false] 83)).drew := ((Below.refl V2.heap.size V2).alloc (Nat.le_refl _) _).drew
      have hBz := HBS2.out.below halz HBS2.out.lt
      have s0z : (V2.alloc (Obj.cells #[.string ⟨#[]⟩, .slice none 0 0, .bool false] 83)).drew.cell? ⟨gs, 0, none⟩ = some (.string NB) := hBz.cell 0
      have s1z : (V2.alloc (Obj.cells #[.string ⟨#[]⟩, .slice none 0 0, .bool false] 83)).drew.cell? ⟨gs, 1, none⟩ = some (.slice xa cs.length xc) := hBz.cell 1
      have hstA := HST.out (V2.alloc (Obj.cells #[.string ⟨#[]⟩, .slice none 0 0, .bool false] 83)).drew (HBV.out.trans (halz.mono HBV.out.size))
      have hstB := HST.out V2.drew HBV.out.drew
      have HSTA := Lib.hid hstA
      have HSTB := Lib.hid hstB
      have HZ := Lib.hid hZ
      have HALZ := Lib.hid halz
      clear hZ halz hBz hstA hstB
      go_cut [10] from 25 to 57 (fun c10 wx => ∃ gx, c10 = .pointer (some ⟨gx, 0, none⟩) ∧ Hid (Blk wx gx #[.string NB, .slice none 0 0, .bool b] 83) ∧ Hid (V2.heap.size ≤ gx) ∧ Hid (Below V2.heap.size V2 wx))
      case first =>
        go_region_held3 (fun w' => w'.cell? ⟨gs, 0, none⟩ = some (.string NB) ∧ w'.cell? ⟨gs, 1, none⟩ = some (.slice xa cs.length xc)) (first | exact ⟨s0d, s1d⟩ | exact ⟨s0z, s1z⟩ | exact ⟨t0, t1⟩ | exact ⟨u0 _ _ _, u1 _ _ _⟩ | exact ⟨v0 _, v1 _⟩)
          (first
            | (go_at_call 42; (with_reducible refine HSTA.out.mono ?_); rintro e w3 ⟨rfl, hb3⟩; have hz3 := HZ.out.below hb3 HZ.out.lt; have x30 := hz3.cell 0; have x31 := hz3.cell 1; have x32 := hz3.cell 2; have f3 := hz3.frozen; have hs3 := (HBS2.out.below HALZ.out HBS2.out.lt).below hb3 (Nat.lt_of_lt_of_le HBS2.out.lt HALZ.out.size); have t0 : w3.cell? ⟨gs, 0, none⟩ = some (.string NB) := hs3.cell 0; have t1 : w3.cell? ⟨gs, 1, none⟩ = some (.slice xa cs.length xc) := hs3.cell 1; simp at x30 x31 x32; have hsf := fun a b c => far3 hs3 (g := V2.heap.size) (Nat.ne_of_gt HBS2.out.lt) a b c; have u0 : ∀ a b c, (((w3.setCell ⟨V2.heap.size, 0, none⟩ a).setCell ⟨V2.heap.size, 1, none⟩ b).setCell ⟨V2.heap.size, 2, none⟩ c).cell? ⟨gs, 0, none⟩ = some (.string NB) := fun a b c => (hsf a b c).cell 0; have u1 : ∀ a b c, (((w3.setCell ⟨V2.heap.size, 0, none⟩ a).setCell ⟨V2.heap.size, 1, none⟩ b).setCell ⟨V2.heap.size, 2, none⟩ c).cell? ⟨gs, 1, none⟩ = some (.slice xa cs.length xc) := fun a b c => (hsf a b c).cell 1; clear hsf; have HZ3 := Lib.hid hz3; have HB3 := Lib.hid (HALZ.out.trans (hb3.mono HALZ.out.size)); clear hb3 hz3 hs3)
            | (go_at_call 42; (with_reducible refine HSTB.out.mono ?_); rintro e w3 ⟨rfl, hb3⟩; have hb4 : Below V2.heap.size V2 w3 := (Below.refl V2.heap.size V2).drew.trans hb3; have hs3 := HBS2.out.below hb4 HBS2.out.lt; have t0 : w3.cell? ⟨gs, 0, none⟩ = some (.string NB) := hs3.cell 0; have t1 : w3.cell? ⟨gs, 1, none⟩ = some (.slice xa cs.length xc) := hs3.cell 1; have v0 : ∀ o, (w3.alloc o).cell? ⟨gs, 0, none⟩ = some (.string NB) := fun o => (hs3.alloc o).cell 0; have v1 : ∀ o, (w3.alloc o).cell? ⟨gs, 1, none⟩ = some (.slice xa cs.length xc) := fun o => (hs3.alloc o).cell 1; have HB3 := Lib.hid hb4; clear hb3 hb4 hs3))
        · go_wp2_with fail
          go_meet
          exact ⟨w3.heap.size, rfl, Lib.hid (Blk.new w3 _ _), Lib.hid HB3.out.size, Lib.hid (HB3.out.alloc HB3.out.size _)⟩
        · go_wp2_with fail
          go_meet
          exact ⟨V2.heap.size, rfl, Lib.hid (((HZ3.out.set 0 _).set 1 _).set 2 _), Lib.hid (Nat.le_refl _), Lib.hid (((HB3.out.setCell (p := ⟨V2.heap.size, 0, none⟩) (Nat.le_refl _) _).setCell (p := ⟨V2.heap.size, 1, none⟩) (Nat.le_refl _) _).setCell (p := ⟨V2.heap.size, 2, none⟩) (Nat.le_refl _) _)⟩
      case rest =>
      obtain ⟨gx, rfl, HX, HGX, HBX⟩ := hcut
      clear s0z s1z s0d s1d HZ HALZ HSTA HSTB
      have hsx := HBS2.out.below HBX.out HBS2.out.lt
      have q1 : wc.cell? ⟨gs, 1, none⟩ = some (.slice xa cs.length xc) := hsx.cell 1
      clear hsx
      go_wp2_with fail
      clear q1
      obtain ⟨wo, rfl⟩ : ∃ wo : World, wo = wr := ⟨_, rfl⟩
      go_loopw [36] (fun i wq => ∃ (m : Nat) (vc : Value), m ≤ cs.length ∧ i = .int .i64 m ∧ Hid (Blk wq gx #[.string NB, vc, .bool b] 83) ∧ Hid (Crs wq V2.heap.size 84 vc (cs.take m)) ∧ Hid (Below V2.heap.size V2 wq)) (fun i _ => cs.length - (intOf i).toNat)
      case atStart => exact ⟨0, _, Nat.zero_le _, rfl, HX, Lib.hid (Crs.nil _ _ _), HBX⟩
      case round =>
        obtain ⟨m, vc, hm, rfl, HXq, HCq, HBq⟩ := hrel
        have hcb : cs.length ≤ 8 := HC8'.out
        have hbo : Below wo.heap.size wo wr := HBV.out.trans (HBq.out.mono HBV.out.size)
        by_cases hlm : m < cs.length
        · obtain ⟨c, hc⟩ : ∃ c, cs[m]? = some c := ⟨_, List.getElem?_eq_getElem hlm⟩
          obtain ⟨g2, cp2, hxe, _, hg2, d0, d1, d2⟩ := (HCR.out.below hbo).at m c hc
          injection hxe with hxe e2 e3
          subst hxe
          clear e2 e3
          obtain ⟨cn, cst, cac⟩ := c
          obtain ⟨SB, hSB⟩ : ∃ SB : ByteArray, (⟨cst.toArray⟩ : ByteArray) = SB := ⟨_, rfl⟩
          obtain ⟨AB, hAB⟩ : ∃ AB : ByteArray, (⟨cac.toArray⟩ : ByteArray) = AB := ⟨_, rfl⟩
          have hcc : ([.bool cn, .string SB, .string AB] : List Value) = critCells (cn, cst, cac) := by rw [← hSB, ← hAB]; rfl
          have d0' : wr.cell? ⟨g2, m * 3, none⟩ = some (.bool cn) := d0
          have d1' : wr.cell? ⟨g2, m * 3 + 1, none⟩ = some (.string SB) := by rw [d1, ← hSB]; rfl
          have d2' : wr.cell? ⟨g2, m * 3 + 2, none⟩ = some (.string AB) := by rw [d2, ← hAB]; rfl
          have htk3 := pl.take_at cs m (cn, cst, cac) hc
          obtain ⟨n0, hn0⟩ : ∃ n0, (cs.take m).length = n0 := ⟨_, rfl⟩
          have hown := HCq.out
          unfold Crs at hown
          rw [hn0] at hown
          have hn8 : n0 ≤ 8 := by rw [← hn0, List.length_take]; have := HC8'.out; omega
          obtain ⟨va, vcap, hva⟩ := Row.shape hown
          subst hva
          have halk : Below wr.heap.size wr (wr.alloc (Obj.cells #[.bool cn, .string SB, .string AB] 110)) := (Below.refl _ _).alloc (Nat.le_refl _) _
          have halr : Below wr.heap.size wr ((wr.alloc (Obj.cells #[.bool cn, .string SB, .string AB] 110)).alloc (Obj.cells #[.bool cn, .string SB, .string AB] 84)) := halk.alloc halk.size _
          have z1 : (wr.alloc (Obj.cells #[.bool cn, .string SB, .string AB] 110)).cell? ⟨gx, 1, none⟩ = some (.slice va n0 vcap) := (HXq.out.below halk HXq.out.lt).cell 1
          have HOWN := Lib.hid (Row.below hown halk)
          have HTK3 := Lib.hid htk3
          have HCC := Lib.hid hcc
          have HALR := Lib.hid halr
          have HALK := Lib.hid halk
          have HN0 := Lib.hid hn0
          clear hown htk3 hcc halr halk hn0 hSB hAB d0 d1 d2 hc hbo
          go_wp2_with (at_builtin; refine app_row_g 81 84 (.agg #[.bool false, .string ⟨#[]⟩, .string ⟨#[]⟩]) 3 40 Try.underlying81 infoPC rfl (by decide) (by decide) #[.bool cn, .string SB, .string AB] rfl (by simp [Value.oneCell']) rfl _ _ rfl rfl V2.heap.size HOWN.out (wr.heap.size + 1) (by simp) rfl (by omega) (Nat.le_trans HBq.out.size HALK.out.size) ?_; intro v9 w9 hv9 hg9; obtain ⟨a9, c9, hav9⟩ := Row.shape hv9; obtain ⟨n9, hn9⟩ : ∃ n9, n0 + 1 = n9 := ⟨_, rfl⟩; rw [hn9] at hav9 hv9; have HN9 := Lib.hid hn9; clear hn9; subst hav9; have hst := cs_step (c := (cn, cst, cac)) (by decide) HXq.out HCq.out HBq.out HGX.out HALR.out (by rw [HN0.out, HN9.out]; exact hv9) HCC.out hg9; have x91 : w9.cell? ⟨gx, 1, none⟩ = some (.slice va n0 vcap) := hst.1.cell 1; have f91 := hst.1.frozen 1; have HST9 := Lib.hid hst; clear hst hv9 hg9)
          go_roundw
          case rel => exact ⟨m + 1, _, by omega, by go_num, Lib.hid HST9.out.2.1, Lib.hid (by rw [HTK3.out]; exact HST9.out.2.2.1), Lib.hid HST9.out.2.2.2⟩
          case measure => simp [intOf]; omega
        · have hme : m = cs.length := by omega
          subst hme
          have hCq := HCq.out
          rw [List.take_length] at hCq
          have hSq := (HS.out.below hbo)
          have hNq := (HN.out.below hbo)
          have hKq := HC.out.below hbo HC.out.lt
          have hBw := HB.out.trans (hbo.mono HB.out.size)
          obtain ⟨vs, hvs, hown, hcrs⟩ := hSq
          have hlk : ((l.take k).map pl.sB).length = k := by rw [List.length_map, List.length_take, Nat.min_eq_left (Nat.le_of_lt hlt)]
          rw [hlk] at hown
          obtain ⟨va, vcap, hva⟩ := Row.shape hCq
          obtain ⟨nc, hnc⟩ : ∃ nc, cs.length = nc := ⟨_, rfl⟩
          rw [hnc] at hva
          subst hva
          have hal : Below wr.heap.size wr (wr.alloc (Obj.cells #[.string NB, .slice va nc vcap, .bool b] 83)) := (Below.refl _ _).alloc (Nat.le_refl _) _
          have x0 : wr.cell? ⟨gx, 0, none⟩ = some (.string NB) := HXq.out.cell 0
          have x1 : wr.cell? ⟨gx, 1, none⟩ = some (.slice va nc vcap) := HXq.out.cell 1
          have x2 : wr.cell? ⟨gx, 2, none⟩ = some (.bool b) := HXq.out.cell 2
          have hwl : w.heap.size ≤ V2.heap.size := by have h1 := HBV.out.size; have h2 := HB.out.size; omega
          have HCQ := Lib.hid (hCq.mono hwl)
          have HNQ := Lib.hid hNq
          have HKQ := Lib.hid hKq
          have HBW := Lib.hid hBw
          have HVS := Lib.hid hvs
          have HOWN := Lib.hid hown
          have HCRS := Lib.hid hcrs
          have HLK := Lib.hid hlk
          have HAL := Lib.hid hal
          clear hCq hNq hKq hBw hvs hown hcrs hlk hal hwl hnc hbo
          go_wp2_with (at_builtin; refine app_row_g 78 83 (.agg #[.string ⟨#[]⟩, .slice none 0 0, .bool false]) 3 48 Try.underlying78 infoPS rfl (by decide) (by decide) #[.string NB, .slice va nc vcap, .bool b] rfl (by simp [Value.oneCell']) rfl _ _ rfl rfl w.heap.size HOWN.out wr.heap.size rfl rfl (by omega) HBW.out.size ?_; intro v9 w9 hv9 hg9; obtain ⟨a9, c9, hav9⟩ := Row.shape hv9; obtain ⟨n9, hn9⟩ : ∃ n9, k + 1 = n9 := ⟨_, rfl⟩; rw [hn9] at hav9 hv9; have HN9 := Lib.hid hn9; clear hn9; subst hav9; have HV9 := Lib.hid hv9; have HG9 := Lib.hid hg9; clear hv9 hg9)
          have k1 : KeepT 83 wr w9 := (KeepT.of HAL.out).trans (KeepT.grown (Row.below HOWN.out HAL.out) HG9.out)
          have hS9 := SoR.push (tc := 84) (by decide) HVS.out HCRS.out k1 ((nm, cs), b) (.slice va nc vcap) HCQ.out [.string NB, .slice va nc vcap, .bool b] (by rw [← HNV.out]) (by rw [HLK.out, HN9.out]; exact HV9.out)
          have hb9 : Below w.heap.size w w9 := Below.grown (HBW.out.trans (HAL.out.mono HBW.out.size)) HG9.out (by have h1 := HBW.out.size; have h2 := HAL.out.size; omega) (fun q hq => (World.ownsRow.lt HOWN.out q hq).1)
          rw [← HTK.out] at hS9
          have HS9 := Lib.hid hS9
          have HB9 := Lib.hid hb9
          have HN10 := Lib.hid (HNQ.out.keepT k1 (by decide) (by decide))
          have HK10 := Lib.hid (HKQ.out.keepT k1 (by decide))
          clear k1 hS9 hb9
          go_roundw
          case rel => exact ⟨k + 1, by omega, by go_num, HS9, HN10, HK10, HB9⟩
          case measure => simp [intOf]; omega
    · have hke : k = l.length := by omega
      subst hke
      rw [List.take_length] at HS
      have e0 : wr.cell? ⟨gc, 0, none⟩ = some .nilIface := HC.out.cell 0
      have e0d : wr.drew.cell? ⟨gc, 0, none⟩ = some .nilIface := e0
      obtain ⟨lva, lvc, hlv⟩ := HS.out.form
      obtain ⟨nl, hnl⟩ : ∃ nl, (l.map pl.sB).length = nl := ⟨_, rfl⟩
      rw [hnl] at hlv
      clear hnl
      subst hlv
      go_wp2_with fail
      go_quiet (fail)
      go_wp2_with fail
      go_ret2
      exact ⟨_, rfl, Lib.hid (HS.out.below (below_drewN (Below.refl _ _) _)), Lib.hid (below_drewN HB.out _)⟩

end Go.Proofs.Ytabeklpllphiaaa
