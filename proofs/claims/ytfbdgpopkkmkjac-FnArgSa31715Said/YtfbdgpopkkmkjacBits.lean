/- Bits of a word in plain arithmetic: what the decoding's masks, shifts and signs come to. -/
import Derived.Laws.BitsLemmas
import Derived.RowKit
import Derived.Below
namespace Go.Proofs.Ytfbdgpopkkmkjac.Arg
open Go.RowKit
theorem hid {p : Prop} (h : p) : Hid p := h
theorem wraps_u32 (n : Int) (h₀ : 0 ≤ n) (h₁ : n < 2 ^ 32) : IntKind.u32.wrap n = n := by rw [IntKind.wrap_u32]; omega
theorem wrap_u16 (n : Int) : IntKind.u16.wrap n = n % 65536 := by simp [IntKind.wrap, IntKind.bits, IntKind.signed]
theorem wrap_i16 (n : Int) : IntKind.i16.wrap n = (n + 32768) % 65536 - 32768 := by
  simp [IntKind.wrap, IntKind.bits, IntKind.signed]
  split <;> omega
theorem and3 (x : Int) (h₀ : 0 ≤ x) (h₁ : x ≤ 4294967295) : Go.bits .and .u32 x 7 = x % 8 :=
  bits_mask .u32 32 (by decide) wraps_u32 3 (by decide) x h₀ (by omega)
theorem and5 (x : Int) (h₀ : 0 ≤ x) (h₁ : x ≤ 4294967295) : Go.bits .and .u32 x 31 = x % 32 :=
  bits_mask .u32 32 (by decide) wraps_u32 5 (by decide) x h₀ (by omega)
theorem and6 (x : Int) (h₀ : 0 ≤ x) (h₁ : x ≤ 4294967295) : Go.bits .and .u32 x 63 = x % 64 :=
  bits_mask .u32 32 (by decide) wraps_u32 6 (by decide) x h₀ (by omega)
theorem and8 (x : Int) (h₀ : 0 ≤ x) (h₁ : x ≤ 4294967295) : Go.bits .and .u32 x 255 = x % 256 :=
  bits_mask .u32 32 (by decide) wraps_u32 8 (by decide) x h₀ (by omega)
theorem and12 (x : Int) (h₀ : 0 ≤ x) (h₁ : x ≤ 4294967295) : Go.bits .and .u32 x 4095 = x % 4096 :=
  bits_mask .u32 32 (by decide) wraps_u32 12 (by decide) x h₀ (by omega)
theorem and14 (x : Int) (h₀ : 0 ≤ x) (h₁ : x ≤ 4294967295) : Go.bits .and .u32 x 16383 = x % 16384 :=
  bits_mask .u32 32 (by decide) wraps_u32 14 (by decide) x h₀ (by omega)
theorem and16 (x : Int) (h₀ : 0 ≤ x) (h₁ : x ≤ 4294967295) : Go.bits .and .u32 x 65535 = x % 65536 :=
  bits_mask .u32 32 (by decide) wraps_u32 16 (by decide) x h₀ (by omega)
theorem and20 (x : Int) (h₀ : 0 ≤ x) (h₁ : x ≤ 4294967295) : Go.bits .and .u32 x 1048575 = x % 1048576 :=
  bits_mask .u32 32 (by decide) wraps_u32 20 (by decide) x h₀ (by omega)
theorem orN (a b : Nat) (ha : a < 2 ^ 32) (hb : b < 2 ^ 32) : Go.bits .or .u32 a b = ((a ||| b : Nat) : Int) := (bits_nat .u32 32 (by decide) wraps_u32 a b ha hb).2
theorem andN (a b : Nat) (ha : a < 2 ^ 32) (hb : b < 2 ^ 32) : Go.bits .and .u32 a b = ((a &&& b : Nat) : Int) := (bits_nat .u32 32 (by decide) wraps_u32 a b ha hb).1
/-- 'y | h' where h is a multiple of 2^i and y lies below it. -/
theorem or_hi (i a : Nat) (y : Int) (h₀ : 0 ≤ y) (h₁ : y < 2 ^ i) (hs : 2 ^ i * a < 2 ^ 32) (hi : i ≤ 32) : Go.bits .or .u32 y ((2 ^ i * a : Nat) : Int) = y + ((2 ^ i * a : Nat) : Int) := by
  obtain ⟨y, rfl⟩ := Int.eq_ofNat_of_zero_le h₀
  have hy : y < 2 ^ i := by exact_mod_cast h₁
  have hp : 2 ^ i ≤ 2 ^ 32 := Nat.pow_le_pow_right (by decide) hi
  rw [orN y (2 ^ i * a) (by omega) hs, Nat.or_comm, ← Nat.two_pow_add_eq_or_of_lt hy]
  omega
/-- 'h | y', the same. -/
theorem or_lo (i : Nat) (h y : Int) (g₀ : 0 ≤ h) (g₁ : h ≤ 4294967295) (hm : h % 2 ^ i = 0) (h₀ : 0 ≤ y) (h₁ : y < 2 ^ i) (hi : i ≤ 32) : Go.bits .or .u32 h y = h + y := by
  obtain ⟨y, rfl⟩ := Int.eq_ofNat_of_zero_le h₀
  obtain ⟨h, rfl⟩ := Int.eq_ofNat_of_zero_le g₀
  have hy : y < 2 ^ i := by exact_mod_cast h₁
  have hp : 2 ^ i ≤ 2 ^ 32 := Nat.pow_le_pow_right (by decide) hi
  have hm' : h % 2 ^ i = 0 := by exact_mod_cast hm
  obtain ⟨a, rfl⟩ : ∃ a, h = 2 ^ i * a := ⟨h / 2 ^ i, by have := Nat.div_add_mod h (2 ^ i); omega⟩
  rw [orN _ y (by omega) (by omega), ← Nat.two_pow_add_eq_or_of_lt hy]
  omega
theorem and_pow (x k : Nat) : x &&& 2 ^ k = x / 2 ^ k % 2 * 2 ^ k := by
  apply Nat.eq_of_testBit_eq
  intro j
  rw [Nat.testBit_and, Nat.testBit_mul_two_pow, Nat.testBit_two_pow]
  by_cases h : k = j
  · subst h
    simp [Nat.testBit_eq_decide_div_mod_eq]
  · by_cases hj : k ≤ j
    · have e : (x / 2 ^ k % 2).testBit (j - k) = false :=
        Nat.testBit_lt_two_pow (Nat.lt_of_lt_of_le (Nat.mod_lt _ (by omega)) (Nat.pow_le_pow_right (n := 2) (i := 1) (by omega) (by omega)))
      simp [h, e]
    · simp [h, hj]
/-- The test of one bit. -/
theorem bit_is (k : Nat) (x : Int) (h₀ : 0 ≤ x) (h₁ : x ≤ 4294967295) (hk : k < 32) : Go.bits .and .u32 x ((2 ^ k : Nat) : Int) = x / ((2 ^ k : Nat) : Int) % 2 * ((2 ^ k : Nat) : Int) := by
  obtain ⟨x, rfl⟩ := Int.eq_ofNat_of_zero_le h₀
  have hp : 2 ^ k < 2 ^ 32 := Nat.pow_lt_pow_right (by decide) hk
  rw [andN x (2 ^ k) (by omega) hp, and_pow x k]
  exact_mod_cast rfl
/-- A number of so many bits whose highest is its sign (h: what that bit is worth). -/
def sg (h f : Int) : Int := if h ≤ f then f - 2 * h else f
theorem eq_ArgRd (x : Int) (x0 : 0 ≤ x) (x1 : x ≤ 4294967295) : IntKind.u16.wrap (IntKind.u16.wrap (Go.bits .and .u32 x 31)) = x % 32 := by
  rw [and5 x (by omega) (by omega)]
  rw [wrap_u16, wrap_u16]; omega
theorem eq_ArgRj (x : Int) (x0 : 0 ≤ x) (x1 : x ≤ 4294967295) : IntKind.u16.wrap (IntKind.u16.wrap (Go.bits .and .u32 (x / 32) 31)) = x / 32 % 32 := by
  rw [and5 (x / 32) (by omega) (by omega)]
  rw [wrap_u16, wrap_u16]; omega
theorem eq_ArgRk (x : Int) (x0 : 0 ≤ x) (x1 : x ≤ 4294967295) : IntKind.u16.wrap (IntKind.u16.wrap (Go.bits .and .u32 (x / 1024) 31)) = x / 1024 % 32 := by
  rw [and5 (x / 1024) (by omega) (by omega)]
  rw [wrap_u16, wrap_u16]; omega
theorem eq_ArgSa31715 (x : Int) (x0 : 0 ≤ x) (x1 : x ≤ 4294967295) : IntKind.i16.wrap (Go.bits .and .u32 (x / 32768) 7) = x / 32768 % 8 := by
  rw [and3 (x / 32768) (by omega) (by omega)]
  rw [wrap_i16]; omega
theorem eq_ArgSeq1710 (x : Int) (x0 : 0 ≤ x) (x1 : x ≤ 4294967295) : Go.bits .and .u32 (x / 1024) 255 = x / 1024 % 256 := by
  rw [and8 (x / 1024) (by omega) (by omega)]
theorem bit_ArgSi122110 (x : Int) (x0 : 0 ≤ x) (x1 : x ≤ 4294967295) : (Go.bits .and .u32 x 2097152 == 2097152) = decide (x / 2097152 % 2 = 1) := by
  have e := bit_is 21 x x0 x1 (by decide)
  rw [show (((2 ^ 21 : Nat)) : Int) = 2097152 from rfl] at e
  rw [e, Bool.eq_iff_iff]
  simp only [beq_iff_eq, decide_eq_true_eq]
  omega
theorem eq1_ArgSi122110 (x : Int) (x0 : 0 ≤ x) (x1 : x ≤ 4294967295) (hs : x / 2097152 % 2 = 1) : IntKind.i16.wrap (Go.bits .or .u32 (Go.bits .and .u32 (x / 1024) 4095) 61440) = sg 2048 (x / 1024 % 4096) := by
  rw [and12 (x / 1024) (by omega) (by omega)]
  rw [show (61440 : Int) = ((2 ^ 12 * 15 : Nat) : Int) from rfl, or_hi 12 15 (x / 1024 % 4096) (by omega) (by omega) (by decide) (by decide), show ((2 ^ 12 * 15 : Nat) : Int) = 61440 from rfl]
  unfold sg
  rw [if_pos (by omega)]
  rw [wrap_i16]
  omega
theorem eq0_ArgSi122110 (x : Int) (x0 : 0 ≤ x) (x1 : x ≤ 4294967295) (hs : x / 2097152 % 2 = 0) : IntKind.i16.wrap (Go.bits .or .u32 (Go.bits .and .u32 (x / 1024) 4095) 0) = sg 2048 (x / 1024 % 4096) := by
  rw [and12 (x / 1024) (by omega) (by omega)]
  rw [show (0 : Int) = ((2 ^ 12 * 0 : Nat) : Int) from rfl, or_hi 12 0 (x / 1024 % 4096) (by omega) (by omega) (by decide) (by decide), show ((2 ^ 12 * 0 : Nat) : Int) = 0 from rfl]
  unfold sg
  rw [if_neg (by omega)]
  rw [wrap_i16]
  omega
theorem bit_ArgSi142310 (x : Int) (x0 : 0 ≤ x) (x1 : x ≤ 4294967295) : (Go.bits .and .u32 x 8388608 == 8388608) = decide (x / 8388608 % 2 = 1) := by
  have e := bit_is 23 x x0 x1 (by decide)
  rw [show (((2 ^ 23 : Nat)) : Int) = 8388608 from rfl] at e
  rw [e, Bool.eq_iff_iff]
  simp only [beq_iff_eq, decide_eq_true_eq]
  omega
theorem eq1_ArgSi142310 (x : Int) (x0 : 0 ≤ x) (x1 : x ≤ 4294967295) (hs : x / 8388608 % 2 = 1) : wrap32 (Go.bits .or .u32 (Go.bits .and .u32 (x / 1024) 16383 * 4 % 4294967296) 4294901760) = 4 * sg 8192 (x / 1024 % 16384) := by
  rw [and14 (x / 1024) (by omega) (by omega)]
  rw [show (4294901760 : Int) = ((2 ^ 16 * 65535 : Nat) : Int) from rfl, or_hi 16 65535 (x / 1024 % 16384 * 4 % 4294967296) (by omega) (by omega) (by decide) (by decide), show ((2 ^ 16 * 65535 : Nat) : Int) = 4294901760 from rfl]
  unfold sg
  rw [if_pos (by omega)]
  unfold wrap32
  omega
theorem eq0_ArgSi142310 (x : Int) (x0 : 0 ≤ x) (x1 : x ≤ 4294967295) (hs : x / 8388608 % 2 = 0) : wrap32 (Go.bits .or .u32 (Go.bits .and .u32 (x / 1024) 16383 * 4 % 4294967296) 0) = 4 * sg 8192 (x / 1024 % 16384) := by
  rw [and14 (x / 1024) (by omega) (by omega)]
  rw [show (0 : Int) = ((2 ^ 16 * 0 : Nat) : Int) from rfl, or_hi 16 0 (x / 1024 % 16384 * 4 % 4294967296) (by omega) (by omega) (by decide) (by decide), show ((2 ^ 16 * 0 : Nat) : Int) = 0 from rfl]
  unfold sg
  rw [if_neg (by omega)]
  unfold wrap32
  omega
theorem bit_ArgSi162510 (x : Int) (x0 : 0 ≤ x) (x1 : x ≤ 4294967295) : (Go.bits .and .u32 x 33554432 == 33554432) = decide (x / 33554432 % 2 = 1) := by
  have e := bit_is 25 x x0 x1 (by decide)
  rw [show (((2 ^ 25 : Nat)) : Int) = 33554432 from rfl] at e
  rw [e, Bool.eq_iff_iff]
  simp only [beq_iff_eq, decide_eq_true_eq]
  omega
theorem eq1_ArgSi162510 (x : Int) (x0 : 0 ≤ x) (x1 : x ≤ 4294967295) (hs : x / 33554432 % 2 = 1) : wrap32 (Go.bits .or .u32 (Go.bits .and .u32 (x / 1024) 65535) 4294901760) = sg 32768 (x / 1024 % 65536) := by
  rw [and16 (x / 1024) (by omega) (by omega)]
  rw [show (4294901760 : Int) = ((2 ^ 16 * 65535 : Nat) : Int) from rfl, or_hi 16 65535 (x / 1024 % 65536) (by omega) (by omega) (by decide) (by decide), show ((2 ^ 16 * 65535 : Nat) : Int) = 4294901760 from rfl]
  unfold sg
  rw [if_pos (by omega)]
  unfold wrap32
  omega
theorem eq0_ArgSi162510 (x : Int) (x0 : 0 ≤ x) (x1 : x ≤ 4294967295) (hs : x / 33554432 % 2 = 0) : wrap32 (Go.bits .or .u32 (Go.bits .and .u32 (x / 1024) 65535) 0) = sg 32768 (x / 1024 % 65536) := by
  rw [and16 (x / 1024) (by omega) (by omega)]
  rw [show (0 : Int) = ((2 ^ 16 * 0 : Nat) : Int) from rfl, or_hi 16 0 (x / 1024 % 65536) (by omega) (by omega) (by decide) (by decide), show ((2 ^ 16 * 0 : Nat) : Int) = 0 from rfl]
  unfold sg
  rw [if_neg (by omega)]
  unfold wrap32
  omega
theorem bit_ArgSi20245 (x : Int) (x0 : 0 ≤ x) (x1 : x ≤ 4294967295) : (Go.bits .and .u32 x 16777216 == 16777216) = decide (x / 16777216 % 2 = 1) := by
  have e := bit_is 24 x x0 x1 (by decide)
  rw [show (((2 ^ 24 : Nat)) : Int) = 16777216 from rfl] at e
  rw [e, Bool.eq_iff_iff]
  simp only [beq_iff_eq, decide_eq_true_eq]
  omega
theorem eq1_ArgSi20245 (x : Int) (x0 : 0 ≤ x) (x1 : x ≤ 4294967295) (hs : x / 16777216 % 2 = 1) : wrap32 (Go.bits .or .u32 (Go.bits .and .u32 (x / 32) 1048575) 4293918720) = sg 524288 (x / 32 % 1048576) := by
  rw [and20 (x / 32) (by omega) (by omega)]
  rw [show (4293918720 : Int) = ((2 ^ 20 * 4095 : Nat) : Int) from rfl, or_hi 20 4095 (x / 32 % 1048576) (by omega) (by omega) (by decide) (by decide), show ((2 ^ 20 * 4095 : Nat) : Int) = 4293918720 from rfl]
  unfold sg
  rw [if_pos (by omega)]
  unfold wrap32
  omega
theorem eq0_ArgSi20245 (x : Int) (x0 : 0 ≤ x) (x1 : x ≤ 4294967295) (hs : x / 16777216 % 2 = 0) : wrap32 (Go.bits .or .u32 (Go.bits .and .u32 (x / 32) 1048575) 0) = sg 524288 (x / 32 % 1048576) := by
  rw [and20 (x / 32) (by omega) (by omega)]
  rw [show (0 : Int) = ((2 ^ 20 * 0 : Nat) : Int) from rfl, or_hi 20 0 (x / 32 % 1048576) (by omega) (by omega) (by decide) (by decide), show ((2 ^ 20 * 0 : Nat) : Int) = 0 from rfl]
  unfold sg
  rw [if_neg (by omega)]
  unfold wrap32
  omega
theorem eq_ArgUi122110 (x : Int) (x0 : 0 ≤ x) (x1 : x ≤ 4294967295) : Go.bits .and .u32 (Go.bits .and .u32 (x / 1024) 4095) 4095 = x / 1024 % 4096 := by
  rw [and12 (x / 1024) (by omega) (by omega)]
  rw [and12 _ (by omega) (by omega)]; omega
theorem eq_ArgUi51410 (x : Int) (x0 : 0 ≤ x) (x1 : x ≤ 4294967295) : Go.bits .and .u32 (x / 1024) 31 = x / 1024 % 32 := by
  rw [and5 (x / 1024) (by omega) (by omega)]
theorem eq_ArgUi61510 (x : Int) (x0 : 0 ≤ x) (x1 : x ≤ 4294967295) : Go.bits .and .u32 (x / 1024) 63 = x / 1024 % 64 := by
  rw [and6 (x / 1024) (by omega) (by omega)]
end Go.Proofs.Ytfbdgpopkkmkjac.Arg
