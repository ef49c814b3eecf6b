/- The word that FnBitmask asks of: its fields N, immr and imms are the law's, whatever its other bits. -/
import Derived.Laws.BitsLemmas
import Derived.RowKit
namespace Go.Proofs.Ythcboddeannjcaa.Hb
open Go.RowKit
theorem bw_wraps_u32 (n : Int) (h₀ : 0 ≤ n) (h₁ : n < 2 ^ 32) : IntKind.u32.wrap n = n := by rw [IntKind.wrap_u32]; omega
theorem bw_and (a b : Nat) (ha : a < 2 ^ 32) (hb : b < 2 ^ 32) : Go.bits .and .u32 a b = ((a &&& b : Nat) : Int) := (bits_nat .u32 32 (by decide) bw_wraps_u32 a b ha hb).1
theorem bw_or (a b : Nat) (ha : a < 2 ^ 32) (hb : b < 2 ^ 32) : Go.bits .or .u32 a b = ((a ||| b : Nat) : Int) := (bits_nat .u32 32 (by decide) bw_wraps_u32 a b ha hb).2
theorem bw_andNot (a b : Nat) (ha : a < 2 ^ 32) (hb : b < 2 ^ 32) : Go.bits .andNot .u32 a b = ((a &&& (2 ^ 32 - 1 - b) : Nat) : Int) := by
  have ha' : a % 2 ^ 32 = a := Nat.mod_eq_of_lt ha
  have hb' : b % 2 ^ 32 = b := Nat.mod_eq_of_lt hb
  have hlt : a &&& (2 ^ 32 - 1 - b) < 2 ^ 32 := Nat.and_lt_two_pow _ (by omega)
  simp only [bits, BitVec.ofInt_natCast, BitVec.toNat_and, BitVec.toNat_not, BitVec.toNat_ofNat, show IntKind.u32.bits = 32 from rfl, ha', hb']
  exact bw_wraps_u32 _ (Int.natCast_nonneg _) (by exact_mod_cast hlt)

/-- The word, in plain numbers. -/
def wordN (y n r s : Nat) : Nat := (((y &&& 4286579711) ||| n * 2 ^ 22) ||| r * 2 ^ 16) ||| s * 2 ^ 10
/-- The word, as the walk spells it. -/
def word (y n r s : Int) : Int :=
  Go.bits .or .u32 (Go.bits .or .u32 (Go.bits .or .u32 (Go.bits .andNot .u32 y 8387584) (n * 4194304)) (r * 65536)) (s * 1024)

theorem wordN_lt (y n r s : Nat) (hn : n < 2) (hr : r < 64) (hs : s < 64) : wordN y n r s < 2 ^ 32 := by
  unfold wordN
  refine Nat.or_lt_two_pow (Nat.or_lt_two_pow (Nat.or_lt_two_pow ?_ ?_) ?_) ?_
  · exact Nat.and_lt_two_pow _ (by omega)
  all_goals omega

theorem word_eq (y n r s : Nat) (hy : y < 2 ^ 32) (hn : n < 2) (hr : r < 64) (hs : s < 64) : word y n r s = ((wordN y n r s : Nat) : Int) := by
  unfold word wordN
  have h1 : (y &&& 4286579711) < 2 ^ 32 := Nat.and_lt_two_pow _ (by omega)
  have h2 : (y &&& 4286579711) ||| n * 2 ^ 22 < 2 ^ 32 := Nat.or_lt_two_pow h1 (by omega)
  have h3 : ((y &&& 4286579711) ||| n * 2 ^ 22) ||| r * 2 ^ 16 < 2 ^ 32 := Nat.or_lt_two_pow h2 (by omega)
  have e1 := bw_andNot y 8387584 hy (by omega)
  have e2 := bw_or (y &&& 4286579711) (n * 2 ^ 22) h1 (by omega)
  have e3 := bw_or ((y &&& 4286579711) ||| n * 2 ^ 22) (r * 2 ^ 16) h2 (by omega)
  have e4 := bw_or (((y &&& 4286579711) ||| n * 2 ^ 22) ||| r * 2 ^ 16) (s * 2 ^ 10) h3 (by omega)
  rw [show ((8387584 : Int)) = ((8387584 : Nat) : Int) from rfl, e1, show (n : Int) * 4194304 = ((n * 2 ^ 22 : Nat) : Int) by simp,
    show (r : Int) * 65536 = ((r * 2 ^ 16 : Nat) : Int) by simp, show (s : Int) * 1024 = ((s * 2 ^ 10 : Nat) : Int) by simp]
  rw [show (2 : Nat) ^ 32 - 1 - 8387584 = 4286579711 from rfl, e2, e3, e4]

theorem tb_small (x i k : Nat) (h : x < 2 ^ k) (hk : k ≤ i) : x.testBit i = false :=
  Nat.testBit_lt_two_pow (Nat.lt_of_lt_of_le h (Nat.pow_le_pow_right (by omega) hk))
theorem word_bit (y n r s j : Nat) : (wordN y n r s).testBit j =
    (((y.testBit j && Nat.testBit 4286579711 j || (decide (j ≥ 22) && n.testBit (j - 22))) || (decide (j ≥ 16) && r.testBit (j - 16))) || (decide (j ≥ 10) && s.testBit (j - 10))) := by
  simp only [wordN, Nat.testBit_or, Nat.testBit_and, Nat.testBit_mul_two_pow]

theorem field_n (y n r s : Nat) (hn : n < 2) (hr : r < 64) (hs : s < 64) : wordN y n r s / 2 ^ 22 % 2 ^ 1 = n := by
  apply Nat.eq_of_testBit_eq
  intro i
  simp only [Nat.testBit_mod_two_pow, Nat.testBit_div_two_pow, word_bit]
  by_cases hi : i < 1
  · obtain rfl : i = 0 := by omega
    simp [tb_small r 6 6 (by omega) (by omega), tb_small s 12 6 (by omega) (by omega), show Nat.testBit 4286579711 22 = false by decide]
  · simp [hi, tb_small n i 1 (by omega) (by omega)]

theorem field_r (y n r s : Nat) (hr : r < 64) (hs : s < 64) : wordN y n r s / 2 ^ 16 % 2 ^ 6 = r := by
  apply Nat.eq_of_testBit_eq
  intro i
  simp only [Nat.testBit_mod_two_pow, Nat.testBit_div_two_pow, word_bit]
  by_cases hi : i < 6
  · have hs' := tb_small s (6 + i) 6 (by omega) (by omega)
    rcases (by omega : i = 0 ∨ i = 1 ∨ i = 2 ∨ i = 3 ∨ i = 4 ∨ i = 5) with rfl | rfl | rfl | rfl | rfl | rfl
    all_goals
      simp at hs'
      simp [hs']
      intro _ h
      exact absurd h (by decide)
  · simp [hi, tb_small r i 6 (by omega) (by omega)]

theorem field_s (y n r s : Nat) (hs : s < 64) : wordN y n r s / 2 ^ 10 % 2 ^ 6 = s := by
  apply Nat.eq_of_testBit_eq
  intro i
  simp only [Nat.testBit_mod_two_pow, Nat.testBit_div_two_pow, word_bit]
  by_cases hi : i < 6
  · rcases (by omega : i = 0 ∨ i = 1 ∨ i = 2 ∨ i = 3 ∨ i = 4 ∨ i = 5) with rfl | rfl | rfl | rfl | rfl | rfl
    all_goals
      simp
      intro _ h
      exact absurd h (by decide)
  · simp [hi, tb_small s i 6 (by omega) (by omega)]

theorem and_mod (x j k : Nat) (hx : x < 2 ^ 32) (hk : k ≤ 32) : Go.bits .and .u32 ((x / 2 ^ j : Nat) : Int) ((2 ^ k - 1 : Nat) : Int) = ((x / 2 ^ j % 2 ^ k : Nat) : Int) := by
  rw [bw_and _ _ (Nat.lt_of_le_of_lt (Nat.div_le_self _ _) hx) (by have := Nat.pow_le_pow_right (n := 2) (by omega) hk; have := Nat.two_pow_pos k; omega), Nat.and_two_pow_sub_one_eq_mod]

/-- The word's fields, in the walk's spelling. -/
theorem word_fields (y n r s : Int) (y0 : 0 ≤ y) (y1 : y ≤ 4294967295) (n0 : 0 ≤ n) (n1 : n ≤ 1) (r0 : 0 ≤ r) (r1 : r ≤ 63) (s0 : 0 ≤ s) (s1 : s ≤ 63) :
    0 ≤ word y n r s ∧ word y n r s ≤ 4294967295 ∧ Go.bits .and .u32 (word y n r s / 4194304) 1 = n ∧ Go.bits .and .u32 (word y n r s / 1024) 63 = s ∧
      Go.bits .and .u32 (word y n r s / 65536) 63 = r := by
  obtain ⟨y, rfl⟩ := Int.eq_ofNat_of_zero_le y0
  obtain ⟨n, rfl⟩ := Int.eq_ofNat_of_zero_le n0
  obtain ⟨r, rfl⟩ := Int.eq_ofNat_of_zero_le r0
  obtain ⟨s, rfl⟩ := Int.eq_ofNat_of_zero_le s0
  have hlt := wordN_lt y n r s (by omega) (by omega) (by omega)
  rw [word_eq y n r s (by omega) (by omega) (by omega) (by omega)]
  refine ⟨by omega, by omega, ?_, ?_, ?_⟩
  · exact (and_mod (wordN y n r s) 22 1 hlt (by omega)).trans (by rw [field_n y n r s (by omega) (by omega) (by omega)])
  · exact (and_mod (wordN y n r s) 10 6 hlt (by omega)).trans (by rw [field_s y n r s (by omega)])
  · exact (and_mod (wordN y n r s) 16 6 hlt (by omega)).trans (by rw [field_r y n r s (by omega) (by omega)])
end Go.Proofs.Ythcboddeannjcaa.Hb
