/- Bits of a word in plain arithmetic: what the decoding's masks, shifts and signs come to. -/
import Derived.Laws.BitsLemmas
import Derived.RowKit
import Derived.Below
namespace Go.Proofs.Ytfbdgpopkkmkjaa.Arg
open Go.RowKit
theorem hid {p : Prop} (h : p) : Hid p := h
theorem wraps_u32 (n : Int) (h₀ : 0 ≤ n) (h₁ : n < 2 ^ 32) : IntKind.u32.wrap n = n := by rw [IntKind.wrap_u32]; omega
theorem wrap_u16 (n : Int) : IntKind.u16.wrap n = n % 65536 := by simp [IntKind.wrap, IntKind.bits, IntKind.signed]
theorem wrap_i16 (n : Int) : IntKind.i16.wrap n = (n + 32768) % 65536 - 32768 := by
  simp [IntKind.wrap, IntKind.bits, IntKind.signed]
  split <;> omega
theorem and3 (x : Int) (h₀ : 0 ≤ x) (h₁ : x ≤ 4294967295) : Go.bits .and .u32 x 7 = x % 8 :=
  bits_mask .u32 32 (by decide) wraps_u32 3 (by decide) x h₀ (by omega)
theorem and5 (x : Int) (h₀ : 0 ≤ x) (h₁ : x ≤ 4294967295) : Go.bits .and .u32 x 31 = x % 32 :=
  bits_mask .u32 32 (by decide) wraps_u32 5 (by decide) x h₀ (by omega)
theorem and14 (x : Int) (h₀ : 0 ≤ x) (h₁ : x ≤ 4294967295) : Go.bits .and .u32 x 16383 = x % 16384 :=
  bits_mask .u32 32 (by decide) wraps_u32 14 (by decide) x h₀ (by omega)
theorem and15 (x : Int) (h₀ : 0 ≤ x) (h₁ : x ≤ 4294967295) : Go.bits .and .u32 x 32767 = x % 32768 :=
  bits_mask .u32 32 (by decide) wraps_u32 15 (by decide) x h₀ (by omega)
theorem orN (a b : Nat) (ha : a < 2 ^ 32) (hb : b < 2 ^ 32) : Go.bits .or .u32 a b = ((a ||| b : Nat) : Int) := (bits_nat .u32 32 (by decide) wraps_u32 a b ha hb).2
theorem andN (a b : Nat) (ha : a < 2 ^ 32) (hb : b < 2 ^ 32) : Go.bits .and .u32 a b = ((a &&& b : Nat) : Int) := (bits_nat .u32 32 (by decide) wraps_u32 a b ha hb).1
/-- 'y | h' where h is a multiple of 2^i and y lies below it. -/
theorem or_hi (i a : Nat) (y : Int) (h₀ : 0 ≤ y) (h₁ : y < 2 ^ i) (hs : 2 ^ i * a < 2 ^ 32) (hi : i ≤ 32) : Go.bits .or .u32 y ((2 ^ i * a : Nat) : Int) = y + ((2 ^ i * a : Nat) : Int) := by
  obtain ⟨y, rfl⟩ := Int.eq_ofNat_of_zero_le h₀
  have hy : y < 2 ^ i := by exact_mod_cast h₁
  have hp : 2 ^ i ≤ 2 ^ 32 := Nat.pow_le_pow_right (by decide) hi
  rw [orN y (2 ^ i * a) (by omega) hs, Nat.or_comm, ← Nat.two_pow_add_eq_or_of_lt hy]
  omega
/-- 'h | y', the same. -/
theorem or_lo (i : Nat) (h y : Int) (g₀ : 0 ≤ h) (g₁ : h ≤ 4294967295) (hm : h % 2 ^ i = 0) (h₀ : 0 ≤ y) (h₁ : y < 2 ^ i) (hi : i ≤ 32) : Go.bits .or .u32 h y = h + y := by
  obtain ⟨y, rfl⟩ := Int.eq_ofNat_of_zero_le h₀
  obtain ⟨h, rfl⟩ := Int.eq_ofNat_of_zero_le g₀
  have hy : y < 2 ^ i := by exact_mod_cast h₁
  have hp : 2 ^ i ≤ 2 ^ 32 := Nat.pow_le_pow_right (by decide) hi
  have hm' : h % 2 ^ i = 0 := by exact_mod_cast hm
  obtain ⟨a, rfl⟩ : ∃ a, h = 2 ^ i * a := ⟨h / 2 ^ i, by have := Nat.div_add_mod h (2 ^ i); omega⟩
  rw [orN _ y (by omega) (by omega), ← Nat.two_pow_add_eq_or_of_lt hy]
  omega
theorem and_pow (x k : Nat) : x &&& 2 ^ k = x / 2 ^ k % 2 * 2 ^ k := by
  apply Nat.eq_of_testBit_eq
  intro j
  rw [Nat.testBit_and, Nat.testBit_mul_two_pow, Nat.testBit_two_pow]
  by_cases h : k = j
  · subst h
    simp [Nat.testBit_eq_decide_div_mod_eq]
  · by_cases hj : k ≤ j
    · have e : (x / 2 ^ k % 2).testBit (j - k) = false :=
        Nat.testBit_lt_two_pow (Nat.lt_of_lt_of_le (Nat.mod_lt _ (by omega)) (Nat.pow_le_pow_right (n := 2) (i := 1) (by omega) (by omega)))
      simp [h, e]
    · simp [h, hj]
/-- The test of one bit. -/
theorem bit_is (k : Nat) (x : Int) (h₀ : 0 ≤ x) (h₁ : x ≤ 4294967295) (hk : k < 32) : Go.bits .and .u32 x ((2 ^ k : Nat) : Int) = x / ((2 ^ k : Nat) : Int) % 2 * ((2 ^ k : Nat) : Int) := by
  obtain ⟨x, rfl⟩ := Int.eq_ofNat_of_zero_le h₀
  have hp : 2 ^ k < 2 ^ 32 := Nat.pow_lt_pow_right (by decide) hk
  rw [andN x (2 ^ k) (by omega) hp, and_pow x k]
  exact_mod_cast rfl
/-- A number of so many bits whose highest is its sign (h: what that bit is worth). -/
def sg (h f : Int) : Int := if h ≤ f then f - 2 * h else f
theorem eq_ArgCa (x : Int) (x0 : 0 ≤ x) (x1 : x ≤ 4294967295) : Go.bits .and .u32 (x / 32768) 7 % 256 = x / 32768 % 8 := by
  rw [and3 (x / 32768) (by omega) (by omega)]
  omega
theorem eq_ArgCd (x : Int) (x0 : 0 ≤ x) (x1 : x ≤ 4294967295) : Go.bits .and .u32 x 7 % 256 = x % 8 := by
  rw [and3 x (by omega) (by omega)]
  omega
theorem eq_ArgCj (x : Int) (x0 : 0 ≤ x) (x1 : x ≤ 4294967295) : Go.bits .and .u32 (x / 32) 7 % 256 = x / 32 % 8 := by
  rw [and3 (x / 32) (by omega) (by omega)]
  omega
theorem eq_ArgCode140 (x : Int) (x0 : 0 ≤ x) (x1 : x ≤ 4294967295) : IntKind.i16.wrap (Go.bits .and .u32 x 32767) = x % 32768 := by
  rw [and15 x (by omega) (by omega)]
  rw [wrap_i16]; omega
theorem eq_ArgCode40 (x : Int) (x0 : 0 ≤ x) (x1 : x ≤ 4294967295) : IntKind.i16.wrap (Go.bits .and .u32 x 31) = x % 32 := by
  rw [and5 x (by omega) (by omega)]
  rw [wrap_i16]; omega
theorem eq_ArgCsr2310 (x : Int) (x0 : 0 ≤ x) (x1 : x ≤ 4294967295) : Go.bits .and .u32 (x / 1024) 16383 = x / 1024 % 16384 := by
  rw [and14 (x / 1024) (by omega) (by omega)]
theorem eq_ArgFa (x : Int) (x0 : 0 ≤ x) (x1 : x ≤ 4294967295) : IntKind.u16.wrap (32 + IntKind.u16.wrap (Go.bits .and .u32 (x / 32768) 31)) = 32 + x / 32768 % 32 := by
  rw [and5 (x / 32768) (by omega) (by omega)]
  rw [wrap_u16, wrap_u16]; omega
theorem eq_ArgFcsr40 (x : Int) (x0 : 0 ≤ x) (x1 : x ≤ 4294967295) : Go.bits .and .u32 x 31 % 256 = x % 32 := by
  rw [and5 x (by omega) (by omega)]
  omega
theorem eq_ArgFcsr95 (x : Int) (x0 : 0 ≤ x) (x1 : x ≤ 4294967295) : Go.bits .and .u32 (x / 32) 31 % 256 = x / 32 % 32 := by
  rw [and5 (x / 32) (by omega) (by omega)]
  omega
theorem eq_ArgFd (x : Int) (x0 : 0 ≤ x) (x1 : x ≤ 4294967295) : IntKind.u16.wrap (32 + IntKind.u16.wrap (Go.bits .and .u32 x 31)) = 32 + x % 32 := by
  rw [and5 x (by omega) (by omega)]
  rw [wrap_u16, wrap_u16]; omega
theorem eq_ArgFj (x : Int) (x0 : 0 ≤ x) (x1 : x ≤ 4294967295) : IntKind.u16.wrap (32 + IntKind.u16.wrap (Go.bits .and .u32 (x / 32) 31)) = 32 + x / 32 % 32 := by
  rw [and5 (x / 32) (by omega) (by omega)]
  rw [wrap_u16, wrap_u16]; omega
theorem eq_ArgFk (x : Int) (x0 : 0 ≤ x) (x1 : x ≤ 4294967295) : IntKind.u16.wrap (32 + IntKind.u16.wrap (Go.bits .and .u32 (x / 1024) 31)) = 32 + x / 1024 % 32 := by
  rw [and5 (x / 1024) (by omega) (by omega)]
  rw [wrap_u16, wrap_u16]; omega
end Go.Proofs.Ytfbdgpopkkmkjaa.Arg
