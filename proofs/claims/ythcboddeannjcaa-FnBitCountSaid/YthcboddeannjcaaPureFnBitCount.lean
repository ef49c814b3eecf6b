/- For all 32-bit words, the printed law FnBitCount answers true: both loops count the ones. No conditions. -/
import Derived.Test.YthcboddeannjcaaPFnBitCountx1
import Derived.Laws.BitsLemmas
namespace Go.Proofs.Ythcboddeannjcaa.Pure
open Go.RowKit Go.Proofs.Ythcboddeannjcaa.PFnBitCount Go.Proofs.YthcboddeannjcaaW.PrintWords Go.Proofs.YthcboddeannjcaaW.PrintLast

theorem bc_wf_u32 {x : Int} (h : (Lit.int .u32 x).wf = true) : 0 ≤ x ∧ x ≤ 4294967295 := by
  simp [Lit.wf, IntKind.min, IntKind.max, IntKind.signed, IntKind.bits] at h
  omega
theorem bc_wraps_u32 (n : Int) (h₀ : 0 ≤ n) (h₁ : n < 2 ^ 32) : IntKind.u32.wrap n = n := by rw [IntKind.wrap_u32]; omega
theorem bc_and1 (x : Int) (h₀ : 0 ≤ x) (h₁ : x ≤ 4294967295) : Go.bits .and .u32 x 1 = x % 2 := by
  have e := bits_mask .u32 32 (by decide) bc_wraps_u32 1 (by decide) x h₀ (by omega)
  rw [show (2 : Int) ^ 1 - 1 = 1 from rfl, show (2 : Int) ^ 1 = 2 from rfl] at e
  exact e

/-- The ones among the lowest n bits. -/
def pop : Nat → Int → Int
  | 0, _ => 0
  | n + 1, x => x % 2 + pop n (x / 2)

theorem pop_bd : ∀ (n : Nat) (x : Int), 0 ≤ pop n x ∧ pop n x ≤ n
  | 0, _ => by simp [pop]
  | n + 1, x => by
    have := pop_bd n (x / 2)
    simp only [pop]
    omega

theorem pop_zero : ∀ (n : Nat), pop n 0 = 0
  | 0 => rfl
  | n + 1 => by simp [pop, pop_zero n]

theorem code_counts : ∀ (n k : Nat) (x c : Int), n < k → 0 ≤ x → x < 2 ^ n → n ≤ 32 → 0 ≤ c → c + n ≤ 255 →
    arm64asm_bit_count.l0 k x c = some (c + pop n x)
  | n, 0, _, _, hk, _, _, _, _, _ => absurd hk (by omega)
  | 0, k + 1, x, c, _, h0, h1, _, _, _ => by
    have hx : x = 0 := by simp at h1; omega
    subst hx
    simp [arm64asm_bit_count.l0, pop]
  | n + 1, k + 1, x, c, hk, h0, h1, hn, hc0, hc => by
    have hp : (2 : Int) ^ (n + 1) = 2 ^ n * 2 := Int.pow_succ 2 n
    have hle : (2 : Int) ^ (n + 1) ≤ 2 ^ 32 := by exact_mod_cast Nat.pow_le_pow_right (by decide) hn
    have ih := code_counts n k (x / 2)
    simp only [arm64asm_bit_count.l0, pop]
    by_cases hx : x = 0
    · subst hx
      rw [if_neg (by omega)]
      simp [pop_zero]
    · rw [if_pos (by omega), bc_and1 x h0 (by omega)]
      by_cases hb : x % 2 = 1
      · rw [if_pos hb, Int.emod_eq_of_lt (a := c + 1) (by omega) (by omega), ih (c + 1) (by omega) (by omega) (by omega) (by omega) (by omega) (by omega), hb]
        congr 1
        omega
      · rw [if_neg hb, ih c (by omega) (by omega) (by omega) (by omega) (by omega) (by omega), show x % 2 = 0 by omega]
        congr 1
        omega

theorem wrap_small (n : Int) (h0 : 0 ≤ n) (h1 : n ≤ 4294967295) : wrap64 n = n := by unfold wrap64; omega

theorem spec_counts (x : Int) (h0 : 0 ≤ x) (h1 : x ≤ 4294967295) : ∀ (n k : Nat) (c i : Int), n < k → n ≤ 32 → i = ((32 - n : Nat) : Int) → 0 ≤ c → c + n ≤ 255 →
    spec_Ones.l0 k x c i = some (c + pop n (x / 2 ^ (32 - n)))
  | n, 0, _, _, hk, _, _, _, _ => absurd hk (by omega)
  | 0, k + 1, c, i, _, _, hi, _, _ => by
    subst hi
    simp [spec_Ones.l0, pop]
  | n + 1, k + 1, c, i, hk, hn, hi, hc0, hc => by
    have hi' : i.toNat = 32 - (n + 1) := by omega
    have hs : shr .u32 x i = x / 2 ^ (32 - (n + 1)) := by
      unfold shr
      rw [show IntKind.u32.bits = 32 from rfl, hi', Nat.min_eq_left (by omega)]
    have hd : x / 2 ^ (32 - (n + 1)) / 2 = x / 2 ^ (32 - n) := by
      have hp : (2 : Int) ^ (32 - n) = 2 ^ (32 - (n + 1)) * 2 := by
        rw [← Int.pow_succ]
        congr 1
        omega
      rw [hp, Int.ediv_ediv_of_nonneg (by exact_mod_cast Nat.zero_le _)]
    have hq : 0 ≤ x / 2 ^ (32 - (n + 1)) ∧ x / 2 ^ (32 - (n + 1)) ≤ x :=
      ⟨Int.ediv_nonneg h0 (by exact_mod_cast Nat.zero_le _), Int.ediv_le_self _ h0⟩
    have hw : wrap64 (x / 2 ^ (32 - (n + 1))) = x / 2 ^ (32 - (n + 1)) := wrap_small _ hq.1 (by omega)
    simp only [spec_Ones.l0, pop]
    rw [if_pos (by omega), if_pos (by omega), hs, hw, Int.tmod_eq_emod_of_nonneg hq.1, wrap_small (c + _) (by omega) (by omega), wrap_small (i + 1) (by omega) (by omega)]
    rw [spec_counts x h0 h1 n k _ _ (by omega) (by omega) (by omega) (by omega) (by omega), hd]
    congr 1
    omega

theorem FnBitCount : laws_FnBitCount.Pure := by
  intro x hx
  have ⟨h0, h1⟩ := bc_wf_u32 hx
  refine ⟨33, ?_⟩
  have hb := pop_bd 32 x
  simp only [laws_FnBitCount.f, impl_BitCount.f, arm64asm_ZZBitCount.f, arm64asm_bit_count.f, spec_Ones.f]
  rw [code_counts 32 33 x 0 (by omega) h0 (by omega) (by omega) (by omega) (by omega), spec_counts x h0 h1 32 33 0 0 (by omega) (by omega) (by omega) (by omega) (by omega)]
  simp only [Option.bind_some]
  rw [wrap_small _ (by omega) (by omega)]
  simp

end Go.Proofs.Ythcboddeannjcaa.Pure
