/-
  WALKS: net/netip: appendDecimal, appendHex.
-/
import Derived.Test.YtfkohahlpfejbaaDoorFr
import Derived.Test.YtfkohahlpfejbaaDoorPlText
import Derived.Test.YtfkohahlpfejbaaDoorPlMac
namespace Go.Proofs.YtfkohahlpfejbaaDoor
open Go.RowKit

theorem pl.num10_1 (n : Nat) (h : n < 10) : pl.num 10 n = [pl.hx (n % 10)] := by
  rw [pl.num_step 10 n (by decide) (by omega), if_pos (by omega)]; rfl
theorem pl.num10_2 (n : Nat) (h : n < 100) (h1 : 10 ≤ n) : pl.num 10 n = [pl.hx (n / 10 % 10), pl.hx (n % 10)] := by
  rw [pl.num_step 10 n (by decide) (by omega), if_neg (by omega), pl.num10_1 (n / 10) (by omega)]; rfl
theorem pl.num10_3 (n : Nat) (h : n < 1000) (h1 : 100 ≤ n) : pl.num 10 n = [pl.hx (n / 100), pl.hx (n / 10 % 10), pl.hx (n % 10)] := by
  rw [pl.num_step 10 n (by decide) (by omega), if_neg (by omega), pl.num10_2 (n / 10) (by omega) (by omega), show n / 10 / 10 % 10 = n / 100 by omega]; rfl
theorem pl.num16_1 (n : Nat) (h : n < 16) : pl.num 16 n = [pl.hx (n % 16)] := by
  rw [pl.num_step 16 n (by decide) (by omega), if_pos (by omega)]; rfl
theorem pl.num16_2 (n : Nat) (h : n < 256) (h1 : 16 ≤ n) : pl.num 16 n = [pl.hx (n / 16 % 16), pl.hx (n % 16)] := by
  rw [pl.num_step 16 n (by decide) (by omega), if_neg (by omega), pl.num16_1 (n / 16) (by omega)]; rfl
theorem pl.num16_3 (n : Nat) (h : n < 4096) (h1 : 256 ≤ n) : pl.num 16 n = [pl.hx (n / 256 % 16), pl.hx (n / 16 % 16), pl.hx (n % 16)] := by
  rw [pl.num_step 16 n (by decide) (by omega), if_neg (by omega), pl.num16_2 (n / 16) (by omega) (by omega), show n / 16 / 16 % 16 = n / 256 % 16 by omega]; rfl
theorem pl.num16_4 (n : Nat) (h : n < 65536) (h1 : 4096 ≤ n) : pl.num 16 n = [pl.hx (n / 4096), pl.hx (n / 256 % 16), pl.hx (n / 16 % 16), pl.hx (n % 16)] := by
  rw [pl.num_step 16 n (by decide) (by omega), if_neg (by omega), pl.num16_3 (n / 16) (by omega) (by omega), show n / 16 / 256 % 16 = n / 4096 by omega, show n / 16 / 16 % 16 = n / 256 % 16 by omega]; rfl
theorem hxv_fr (n : Nat) (h : n < pl.hexd.size) : Value.int .u8 ((pl.hexd[n]'h).toNat : Int) = pl.byteV (pl.hx n) := by
  rw [pl.hx_at]; rfl

set_option maxRecDepth 100000 in
set_option maxHeartbeats 4000000 in
theorem apd_sp (v : Value) (l : List UInt8) (b : UInt8) (w : World) (B : Nat) (hv : Byts w B v l) (hB : B ≤ w.heap.size) (hl : l.length ≤ 1000) :
    Calls Tryd.prog 112 #[v, .int .u8 (b.toNat : Int)] w fun e w' => ∃ v', e = .returned v' ∧ Byts w' B v' (l ++ pl.num 10 b.toNat) ∧ Fr B w w' := by
  have hb256 := b.toNat_lt
  obtain ⟨n, hn⟩ : ∃ n, b.toNat = n := ⟨_, rfl⟩
  rw [hn] at hb256 ⊢
  clear hn
  have hf := Fr.refl B w
  by_cases h100 : 100 ≤ n
  · rw [pl.num10_3 n (by omega) h100]
    go_enter Tryd.func112, Tryd.ntmps112
    go_wp2_with (at_builtin; (refine app_byte_fr (w := w) (pl.hx (n / 100)) 26 Tryd.underlying26 rfl _ _ rfl rfl B hv rfl (hxv_fr _ _) (by omega) hf hB ?_))
    intro v1 w1 hv1 hf1
    go_wp2_with (at_builtin; (refine app_byte_fr (w := w) (pl.hx (n / 10 % 10)) 26 Tryd.underlying26 rfl _ _ rfl rfl B hv1 rfl (hxv_fr _ _) (by simp; omega) hf1 hB ?_))
    intro v2 w2 hv2 hf2
    go_wp2_with (at_builtin; (refine app_byte_fr (w := w) (pl.hx (n % 10)) 26 Tryd.underlying26 rfl _ _ rfl rfl B hv2 rfl (hxv_fr _ _) (by simp; omega) hf2 hB ?_))
    intro v3 w3 hv3 hf3
    go_wp2_with fail
    go_ret
    exact ⟨_, rfl, by simpa using hv3, hf3⟩
  · by_cases h10 : 10 ≤ n
    · rw [pl.num10_2 n (by omega) h10]
      go_enter Tryd.func112, Tryd.ntmps112
      go_wp2_with (at_builtin; (refine app_byte_fr (w := w) (pl.hx (n / 10 % 10)) 26 Tryd.underlying26 rfl _ _ rfl rfl B hv rfl (hxv_fr _ _) (by omega) hf hB ?_))
      intro v1 w1 hv1 hf1
      go_wp2_with (at_builtin; (refine app_byte_fr (w := w) (pl.hx (n % 10)) 26 Tryd.underlying26 rfl _ _ rfl rfl B hv1 rfl (hxv_fr _ _) (by simp; omega) hf1 hB ?_))
      intro v2 w2 hv2 hf2
      go_wp2_with fail
      go_ret
      exact ⟨_, rfl, by simpa using hv2, hf2⟩
    · rw [pl.num10_1 n (by omega)]
      go_enter Tryd.func112, Tryd.ntmps112
      go_wp2_with (at_builtin; (refine app_byte_fr (w := w) (pl.hx (n % 10)) 26 Tryd.underlying26 rfl _ _ rfl rfl B hv rfl (hxv_fr _ _) (by omega) hf hB ?_))
      intro v1 w1 hv1 hf1
      go_wp2_with fail
      go_ret
      exact ⟨_, rfl, by simpa using hv1, hf1⟩

theorem u16_and15 (x : Int) (h₀ : 0 ≤ x) (h₁ : x < 65536) : bits .and .u16 x 15 = x % 16 := bits_mask .u16 16 (by decide) wraps_u16 4 (by decide) x h₀ h₁

set_option maxRecDepth 100000 in
set_option maxHeartbeats 4000000 in
theorem aph_sp (v : Value) (l : List UInt8) (n : Nat) (hn : n < 65536) (w : World) (B : Nat) (hv : Byts w B v l) (hB : B ≤ w.heap.size) (hl : l.length ≤ 1000) :
    Calls Tryd.prog 117 #[v, .int .u16 (n : Int)] w fun e w' => ∃ v', e = .returned v' ∧ Byts w' B v' (l ++ pl.num 16 n) ∧ Fr B w w' := by
  have hf := Fr.refl B w
  have a1 : bits .and .u16 ((n : Int) / 256) 15 = ((n / 256 % 16 : Nat) : Int) := by rw [u16_and15 _ (by omega) (by omega)]; omega
  have a2 : bits .and .u16 ((n : Int) / 16) 15 = ((n / 16 % 16 : Nat) : Int) := by rw [u16_and15 _ (by omega) (by omega)]; omega
  have a3 : bits .and .u16 (n : Int) 15 = ((n % 16 : Nat) : Int) := by rw [u16_and15 _ (by omega) (by omega)]; omega
  by_cases h3 : 4096 ≤ n
  · rw [pl.num16_4 n hn h3]
    go_enter Tryd.func117, Tryd.ntmps117
    go_wp2_with (at_builtin; (refine app_byte_fr (w := w) (pl.hx (n / 4096)) 26 Tryd.underlying26 rfl _ _ rfl rfl B hv rfl (hxv_fr _ _) (by omega) hf hB ?_))
    intro v1 w1 hv1 hf1
    go_wp2_with (at_builtin; (refine app_byte_fr (w := w) (pl.hx (n / 256 % 16)) 26 Tryd.underlying26 rfl _ _ rfl rfl B hv1 rfl (hxv_fr _ _) (by simp; omega) hf1 hB ?_))
    intro v2 w2 hv2 hf2
    go_wp2_with (at_builtin; (refine app_byte_fr (w := w) (pl.hx (n / 16 % 16)) 26 Tryd.underlying26 rfl _ _ rfl rfl B hv2 rfl (hxv_fr _ _) (by simp; omega) hf2 hB ?_))
    intro v3 w3 hv3 hf3
    go_wp2_with (at_builtin; (refine app_byte_fr (w := w) (pl.hx (n % 16)) 26 Tryd.underlying26 rfl _ _ rfl rfl B hv3 rfl (hxv_fr _ _) (by simp; omega) hf3 hB ?_))
    intro v4 w4 hv4 hf4
    go_wp2_with fail
    go_ret
    exact ⟨_, rfl, by simpa using hv4, hf4⟩
  · by_cases h2 : 256 ≤ n
    · rw [pl.num16_3 n (by omega) h2]
      go_enter Tryd.func117, Tryd.ntmps117
      go_wp2_with (at_builtin; (refine app_byte_fr (w := w) (pl.hx (n / 256 % 16)) 26 Tryd.underlying26 rfl _ _ rfl rfl B hv rfl (hxv_fr _ _) (by omega) hf hB ?_))
      intro v1 w1 hv1 hf1
      go_wp2_with (at_builtin; (refine app_byte_fr (w := w) (pl.hx (n / 16 % 16)) 26 Tryd.underlying26 rfl _ _ rfl rfl B hv1 rfl (hxv_fr _ _) (by simp; omega) hf1 hB ?_))
      intro v2 w2 hv2 hf2
      go_wp2_with (at_builtin; (refine app_byte_fr (w := w) (pl.hx (n % 16)) 26 Tryd.underlying26 rfl _ _ rfl rfl B hv2 rfl (hxv_fr _ _) (by simp; omega) hf2 hB ?_))
      intro v3 w3 hv3 hf3
      go_wp2_with fail
      go_ret
      exact ⟨_, rfl, by simpa using hv3, hf3⟩
    · by_cases h1 : 16 ≤ n
      · rw [pl.num16_2 n (by omega) h1]
        go_enter Tryd.func117, Tryd.ntmps117
        go_wp2_with (at_builtin; (refine app_byte_fr (w := w) (pl.hx (n / 16 % 16)) 26 Tryd.underlying26 rfl _ _ rfl rfl B hv rfl (hxv_fr _ _) (by omega) hf hB ?_))
        intro v1 w1 hv1 hf1
        go_wp2_with (at_builtin; (refine app_byte_fr (w := w) (pl.hx (n % 16)) 26 Tryd.underlying26 rfl _ _ rfl rfl B hv1 rfl (hxv_fr _ _) (by simp; omega) hf1 hB ?_))
        intro v2 w2 hv2 hf2
        go_wp2_with fail
        go_ret
        exact ⟨_, rfl, by simpa using hv2, hf2⟩
      · rw [pl.num16_1 n (by omega)]
        go_enter Tryd.func117, Tryd.ntmps117
        go_wp2_with (at_builtin; (refine app_byte_fr (w := w) (pl.hx (n % 16)) 26 Tryd.underlying26 rfl _ _ rfl rfl B hv rfl (hxv_fr _ _) (by omega) hf hB ?_))
        intro v1 w1 hv1 hf1
        go_wp2_with fail
        go_ret
        exact ⟨_, rfl, by simpa using hv1, hf1⟩

end Go.Proofs.YtfkohahlpfejbaaDoor
