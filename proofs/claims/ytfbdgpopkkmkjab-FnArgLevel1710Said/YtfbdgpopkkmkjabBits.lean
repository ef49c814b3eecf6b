/- Bits of a word in plain arithmetic: what the decoding's masks, shifts and signs come to. -/
import Derived.Laws.BitsLemmas
import Derived.RowKit
import Derived.Below
namespace Go.Proofs.Ytfbdgpopkkmkjab.Arg
open Go.RowKit
theorem hid {p : Prop} (h : p) : Hid p := h
theorem wraps_u32 (n : Int) (h₀ : 0 ≤ n) (h₁ : n < 2 ^ 32) : IntKind.u32.wrap n = n := by rw [IntKind.wrap_u32]; omega
theorem wrap_u16 (n : Int) : IntKind.u16.wrap n = n % 65536 := by simp [IntKind.wrap, IntKind.bits, IntKind.signed]
theorem wrap_i16 (n : Int) : IntKind.i16.wrap n = (n + 32768) % 65536 - 32768 := by
  simp [IntKind.wrap, IntKind.bits, IntKind.signed]
  split <;> omega
theorem and5 (x : Int) (h₀ : 0 ≤ x) (h₁ : x ≤ 4294967295) : Go.bits .and .u32 x 31 = x % 32 :=
  bits_mask .u32 32 (by decide) wraps_u32 5 (by decide) x h₀ (by omega)
theorem and6 (x : Int) (h₀ : 0 ≤ x) (h₁ : x ≤ 4294967295) : Go.bits .and .u32 x 63 = x % 64 :=
  bits_mask .u32 32 (by decide) wraps_u32 6 (by decide) x h₀ (by omega)
theorem and8 (x : Int) (h₀ : 0 ≤ x) (h₁ : x ≤ 4294967295) : Go.bits .and .u32 x 255 = x % 256 :=
  bits_mask .u32 32 (by decide) wraps_u32 8 (by decide) x h₀ (by omega)
theorem and10 (x : Int) (h₀ : 0 ≤ x) (h₁ : x ≤ 4294967295) : Go.bits .and .u32 x 1023 = x % 1024 :=
  bits_mask .u32 32 (by decide) wraps_u32 10 (by decide) x h₀ (by omega)
theorem and15 (x : Int) (h₀ : 0 ≤ x) (h₁ : x ≤ 4294967295) : Go.bits .and .u32 x 32767 = x % 32768 :=
  bits_mask .u32 32 (by decide) wraps_u32 15 (by decide) x h₀ (by omega)
theorem and16 (x : Int) (h₀ : 0 ≤ x) (h₁ : x ≤ 4294967295) : Go.bits .and .u32 x 65535 = x % 65536 :=
  bits_mask .u32 32 (by decide) wraps_u32 16 (by decide) x h₀ (by omega)
theorem and21 (x : Int) (h₀ : 0 ≤ x) (h₁ : x ≤ 4294967295) : Go.bits .and .u32 x 2097151 = x % 2097152 :=
  bits_mask .u32 32 (by decide) wraps_u32 21 (by decide) x h₀ (by omega)
theorem and26 (x : Int) (h₀ : 0 ≤ x) (h₁ : x ≤ 4294967295) : Go.bits .and .u32 x 67108863 = x % 67108864 :=
  bits_mask .u32 32 (by decide) wraps_u32 26 (by decide) x h₀ (by omega)
theorem orN (a b : Nat) (ha : a < 2 ^ 32) (hb : b < 2 ^ 32) : Go.bits .or .u32 a b = ((a ||| b : Nat) : Int) := (bits_nat .u32 32 (by decide) wraps_u32 a b ha hb).2
theorem andN (a b : Nat) (ha : a < 2 ^ 32) (hb : b < 2 ^ 32) : Go.bits .and .u32 a b = ((a &&& b : Nat) : Int) := (bits_nat .u32 32 (by decide) wraps_u32 a b ha hb).1
/-- 'y | h' where h is a multiple of 2^i and y lies below it. -/
theorem or_hi (i a : Nat) (y : Int) (h₀ : 0 ≤ y) (h₁ : y < 2 ^ i) (hs : 2 ^ i * a < 2 ^ 32) (hi : i ≤ 32) : Go.bits .or .u32 y ((2 ^ i * a : Nat) : Int) = y + ((2 ^ i * a : Nat) : Int) := by
  obtain ⟨y, rfl⟩ := Int.eq_ofNat_of_zero_le h₀
  have hy : y < 2 ^ i := by exact_mod_cast h₁
  have hp : 2 ^ i ≤ 2 ^ 32 := Nat.pow_le_pow_right (by decide) hi
  rw [orN y (2 ^ i * a) (by omega) hs, Nat.or_comm, ← Nat.two_pow_add_eq_or_of_lt hy]
  omega
/-- 'h | y', the same. -/
theorem or_lo (i : Nat) (h y : Int) (g₀ : 0 ≤ h) (g₁ : h ≤ 4294967295) (hm : h % 2 ^ i = 0) (h₀ : 0 ≤ y) (h₁ : y < 2 ^ i) (hi : i ≤ 32) : Go.bits .or .u32 h y = h + y := by
  obtain ⟨y, rfl⟩ := Int.eq_ofNat_of_zero_le h₀
  obtain ⟨h, rfl⟩ := Int.eq_ofNat_of_zero_le g₀
  have hy : y < 2 ^ i := by exact_mod_cast h₁
  have hp : 2 ^ i ≤ 2 ^ 32 := Nat.pow_le_pow_right (by decide) hi
  have hm' : h % 2 ^ i = 0 := by exact_mod_cast hm
  obtain ⟨a, rfl⟩ : ∃ a, h = 2 ^ i * a := ⟨h / 2 ^ i, by have := Nat.div_add_mod h (2 ^ i); omega⟩
  rw [orN _ y (by omega) (by omega), ← Nat.two_pow_add_eq_or_of_lt hy]
  omega
theorem and_pow (x k : Nat) : x &&& 2 ^ k = x / 2 ^ k % 2 * 2 ^ k := by
  apply Nat.eq_of_testBit_eq
  intro j
  rw [Nat.testBit_and, Nat.testBit_mul_two_pow, Nat.testBit_two_pow]
  by_cases h : k = j
  · subst h
    simp [Nat.testBit_eq_decide_div_mod_eq]
  · by_cases hj : k ≤ j
    · have e : (x / 2 ^ k % 2).testBit (j - k) = false :=
        Nat.testBit_lt_two_pow (Nat.lt_of_lt_of_le (Nat.mod_lt _ (by omega)) (Nat.pow_le_pow_right (n := 2) (i := 1) (by omega) (by omega)))
      simp [h, e]
    · simp [h, hj]
/-- The test of one bit. -/
theorem bit_is (k : Nat) (x : Int) (h₀ : 0 ≤ x) (h₁ : x ≤ 4294967295) (hk : k < 32) : Go.bits .and .u32 x ((2 ^ k : Nat) : Int) = x / ((2 ^ k : Nat) : Int) % 2 * ((2 ^ k : Nat) : Int) := by
  obtain ⟨x, rfl⟩ := Int.eq_ofNat_of_zero_le h₀
  have hp : 2 ^ k < 2 ^ 32 := Nat.pow_lt_pow_right (by decide) hk
  rw [andN x (2 ^ k) (by omega) hp, and_pow x k]
  exact_mod_cast rfl
theorem shl16 (x : Int) : x * 65536 % 4294967296 = x % 65536 * 65536 := by omega
theorem join21 (x f : Int) (h0 : 0 ≤ f) (h1 : f < 65536) : (x * 65536 % 4294967296 + f) % 2097152 = x % 32 * 65536 + f := by rw [shl16]; omega
theorem join26 (x f : Int) (h0 : 0 ≤ f) (h1 : f < 65536) : (x * 65536 % 4294967296 + f) % 67108864 = x % 1024 * 65536 + f := by rw [shl16]; omega
/-- A number of so many bits whose highest is its sign (h: what that bit is worth). -/
def sg (h f : Int) : Int := if h ≤ f then f - 2 * h else f
theorem eq_ArgHint140 (x : Int) (x0 : 0 ≤ x) (x1 : x ≤ 4294967295) : Go.bits .and .u32 x 32767 = x % 32768 := by
  rw [and15 x (by omega) (by omega)]
theorem eq_ArgHint40 (x : Int) (x0 : 0 ≤ x) (x1 : x ≤ 4294967295) : Go.bits .and .u32 x 31 = x % 32 := by
  rw [and5 x (by omega) (by omega)]
theorem eq_ArgLevel140 (x : Int) (x0 : 0 ≤ x) (x1 : x ≤ 4294967295) : Go.bits .and .u32 x 32767 = x % 32768 := by
  rw [and15 x (by omega) (by omega)]
theorem eq_ArgLevel1710 (x : Int) (x0 : 0 ≤ x) (x1 : x ≤ 4294967295) : Go.bits .and .u32 (x / 1024) 255 = x / 1024 % 256 := by
  rw [and8 (x / 1024) (by omega) (by omega)]
theorem eq_ArgLsbd (x : Int) (x0 : 0 ≤ x) (x1 : x ≤ 4294967295) : Go.bits .and .u32 (x / 1024) 63 = x / 1024 % 64 := by
  rw [and6 (x / 1024) (by omega) (by omega)]
theorem eq_ArgLsbw (x : Int) (x0 : 0 ≤ x) (x1 : x ≤ 4294967295) : Go.bits .and .u32 (x / 1024) 31 = x / 1024 % 32 := by
  rw [and5 (x / 1024) (by omega) (by omega)]
theorem eq_ArgMsbd (x : Int) (x0 : 0 ≤ x) (x1 : x ≤ 4294967295) : Go.bits .and .u32 (x / 65536) 63 = x / 65536 % 64 := by
  rw [and6 (x / 65536) (by omega) (by omega)]
theorem eq_ArgMsbw (x : Int) (x0 : 0 ≤ x) (x1 : x ≤ 4294967295) : Go.bits .and .u32 (x / 65536) 31 = x / 65536 % 32 := by
  rw [and5 (x / 65536) (by omega) (by omega)]
theorem bit_ArgOffset150 (x : Int) (x0 : 0 ≤ x) (x1 : x ≤ 4294967295) : (Go.bits .and .u32 x 33554432 == 33554432) = decide (x / 33554432 % 2 = 1) := by
  have e := bit_is 25 x x0 x1 (by decide)
  rw [show (((2 ^ 25 : Nat)) : Int) = 33554432 from rfl] at e
  rw [e, Bool.eq_iff_iff]
  simp only [beq_iff_eq, decide_eq_true_eq]
  omega
theorem eq1_ArgOffset150 (x : Int) (x0 : 0 ≤ x) (x1 : x ≤ 4294967295) (hs : x / 33554432 % 2 = 1) : wrap32 (Go.bits .or .u32 (Go.bits .and .u32 (x / 1024) 65535 * 4 % 4294967296) 4294705152) = 4 * sg 32768 (x / 1024 % 65536) := by
  rw [and16 (x / 1024) (by omega) (by omega)]
  rw [show (4294705152 : Int) = ((2 ^ 18 * 16383 : Nat) : Int) from rfl, or_hi 18 16383 (x / 1024 % 65536 * 4 % 4294967296) (by omega) (by omega) (by decide) (by decide), show ((2 ^ 18 * 16383 : Nat) : Int) = 4294705152 from rfl]
  unfold sg
  rw [if_pos (by omega)]
  unfold wrap32
  omega
theorem eq0_ArgOffset150 (x : Int) (x0 : 0 ≤ x) (x1 : x ≤ 4294967295) (hs : x / 33554432 % 2 = 0) : wrap32 (Go.bits .or .u32 (Go.bits .and .u32 (x / 1024) 65535 * 4 % 4294967296) 0) = 4 * sg 32768 (x / 1024 % 65536) := by
  rw [and16 (x / 1024) (by omega) (by omega)]
  rw [show (0 : Int) = ((2 ^ 18 * 0 : Nat) : Int) from rfl, or_hi 18 0 (x / 1024 % 65536 * 4 % 4294967296) (by omega) (by omega) (by decide) (by decide), show ((2 ^ 18 * 0 : Nat) : Int) = 0 from rfl]
  unfold sg
  rw [if_neg (by omega)]
  unfold wrap32
  omega
theorem bit_ArgOffset200 (x : Int) (x0 : 0 ≤ x) (x1 : x ≤ 4294967295) : (Go.bits .and .u32 x 16 == 16) = decide (x / 16 % 2 = 1) := by
  have e := bit_is 4 x x0 x1 (by decide)
  rw [show (((2 ^ 4 : Nat)) : Int) = 16 from rfl] at e
  rw [e, Bool.eq_iff_iff]
  simp only [beq_iff_eq, decide_eq_true_eq]
  omega
theorem eq1_ArgOffset200 (x : Int) (x0 : 0 ≤ x) (x1 : x ≤ 4294967295) (hs : x / 16 % 2 = 1) : wrap32 (Go.bits .or .u32 (Go.bits .and .u32 (Go.bits .or .u32 (x * 65536 % 4294967296) (Go.bits .and .u32 (x / 1024) 65535)) 2097151 * 4 % 4294967296) 4286578688) = 4 * sg 1048576 (x % 32 * 65536 + x / 1024 % 65536) := by
  obtain ⟨p, hp⟩ : ∃ p, p = x % 32 := ⟨_, rfl⟩
  obtain ⟨q, hq⟩ : ∃ q, q = x / 1024 % 65536 := ⟨_, rfl⟩
  have p0 : 0 ≤ p := by omega
  have p1 : p ≤ 31 := by omega
  have q0 : 0 ≤ q := by omega
  have q1 : q ≤ 65535 := by omega
  have hsp : 16 ≤ p := by omega
  rw [and16 (x / 1024) (by omega) (by omega)]
  rw [or_lo 16 (x * 65536 % 4294967296) (x / 1024 % 65536) (by omega) (by omega) (by omega) (by omega) (by omega) (by decide)]
  rw [and21 _ (by omega) (by omega), join21 x _ (by omega) (by omega), ← hp, ← hq]
  clear hp hq hs x0 x1
  rw [show (4286578688 : Int) = ((2 ^ 23 * 511 : Nat) : Int) from rfl, or_hi 23 511 ((p * 65536 + q) * 4 % 4294967296) (by omega) (by omega) (by decide) (by decide), show ((2 ^ 23 * 511 : Nat) : Int) = 4286578688 from rfl]
  unfold sg
  rw [if_pos (by omega)]
  unfold wrap32
  omega
theorem eq0_ArgOffset200 (x : Int) (x0 : 0 ≤ x) (x1 : x ≤ 4294967295) (hs : x / 16 % 2 = 0) : wrap32 (Go.bits .and .u32 (Go.bits .or .u32 (x * 65536 % 4294967296) (Go.bits .and .u32 (x / 1024) 65535)) 2097151 * 4 % 4294967296) = 4 * sg 1048576 (x % 32 * 65536 + x / 1024 % 65536) := by
  obtain ⟨p, hp⟩ : ∃ p, p = x % 32 := ⟨_, rfl⟩
  obtain ⟨q, hq⟩ : ∃ q, q = x / 1024 % 65536 := ⟨_, rfl⟩
  have p0 : 0 ≤ p := by omega
  have p1 : p ≤ 31 := by omega
  have q0 : 0 ≤ q := by omega
  have q1 : q ≤ 65535 := by omega
  have hsp : p < 16 := by omega
  rw [and16 (x / 1024) (by omega) (by omega)]
  rw [or_lo 16 (x * 65536 % 4294967296) (x / 1024 % 65536) (by omega) (by omega) (by omega) (by omega) (by omega) (by decide)]
  rw [and21 _ (by omega) (by omega), join21 x _ (by omega) (by omega), ← hp, ← hq]
  clear hp hq hs x0 x1
  unfold sg
  rw [if_neg (by omega)]
  unfold wrap32
  omega
theorem bit_ArgOffset250 (x : Int) (x0 : 0 ≤ x) (x1 : x ≤ 4294967295) : (Go.bits .and .u32 x 512 == 512) = decide (x / 512 % 2 = 1) := by
  have e := bit_is 9 x x0 x1 (by decide)
  rw [show (((2 ^ 9 : Nat)) : Int) = 512 from rfl] at e
  rw [e, Bool.eq_iff_iff]
  simp only [beq_iff_eq, decide_eq_true_eq]
  omega
theorem eq1_ArgOffset250 (x : Int) (x0 : 0 ≤ x) (x1 : x ≤ 4294967295) (hs : x / 512 % 2 = 1) : wrap32 (Go.bits .or .u32 (Go.bits .and .u32 (Go.bits .or .u32 (x * 65536 % 4294967296) (Go.bits .and .u32 (x / 1024) 65535)) 67108863 * 4 % 4294967296) 4026531840) = 4 * sg 33554432 (x % 1024 * 65536 + x / 1024 % 65536) := by
  obtain ⟨p, hp⟩ : ∃ p, p = x % 1024 := ⟨_, rfl⟩
  obtain ⟨q, hq⟩ : ∃ q, q = x / 1024 % 65536 := ⟨_, rfl⟩
  have p0 : 0 ≤ p := by omega
  have p1 : p ≤ 1023 := by omega
  have q0 : 0 ≤ q := by omega
  have q1 : q ≤ 65535 := by omega
  have hsp : 512 ≤ p := by omega
  rw [and16 (x / 1024) (by omega) (by omega)]
  rw [or_lo 16 (x * 65536 % 4294967296) (x / 1024 % 65536) (by omega) (by omega) (by omega) (by omega) (by omega) (by decide)]
  rw [and26 _ (by omega) (by omega), join26 x _ (by omega) (by omega), ← hp, ← hq]
  clear hp hq hs x0 x1
  rw [show (4026531840 : Int) = ((2 ^ 28 * 15 : Nat) : Int) from rfl, or_hi 28 15 ((p * 65536 + q) * 4 % 4294967296) (by omega) (by omega) (by decide) (by decide), show ((2 ^ 28 * 15 : Nat) : Int) = 4026531840 from rfl]
  unfold sg
  rw [if_pos (by omega)]
  unfold wrap32
  omega
theorem eq0_ArgOffset250 (x : Int) (x0 : 0 ≤ x) (x1 : x ≤ 4294967295) (hs : x / 512 % 2 = 0) : wrap32 (Go.bits .or .u32 (Go.bits .and .u32 (Go.bits .or .u32 (x * 65536 % 4294967296) (Go.bits .and .u32 (x / 1024) 65535)) 67108863 * 4 % 4294967296) 0) = 4 * sg 33554432 (x % 1024 * 65536 + x / 1024 % 65536) := by
  obtain ⟨p, hp⟩ : ∃ p, p = x % 1024 := ⟨_, rfl⟩
  obtain ⟨q, hq⟩ : ∃ q, q = x / 1024 % 65536 := ⟨_, rfl⟩
  have p0 : 0 ≤ p := by omega
  have p1 : p ≤ 1023 := by omega
  have q0 : 0 ≤ q := by omega
  have q1 : q ≤ 65535 := by omega
  have hsp : p < 512 := by omega
  rw [and16 (x / 1024) (by omega) (by omega)]
  rw [or_lo 16 (x * 65536 % 4294967296) (x / 1024 % 65536) (by omega) (by omega) (by omega) (by omega) (by omega) (by decide)]
  rw [and26 _ (by omega) (by omega), join26 x _ (by omega) (by omega), ← hp, ← hq]
  clear hp hq hs x0 x1
  rw [show (0 : Int) = ((2 ^ 28 * 0 : Nat) : Int) from rfl, or_hi 28 0 ((p * 65536 + q) * 4 % 4294967296) (by omega) (by omega) (by decide) (by decide), show ((2 ^ 28 * 0 : Nat) : Int) = 0 from rfl]
  unfold sg
  rw [if_neg (by omega)]
  unfold wrap32
  omega
theorem eq_ArgOp40 (x : Int) (x0 : 0 ≤ x) (x1 : x ≤ 4294967295) : Go.bits .and .u32 x 31 = x % 32 := by
  rw [and5 x (by omega) (by omega)]
end Go.Proofs.Ytfbdgpopkkmkjab.Arg
