/- The walks of handle_bitmasks, ZZBitmask and Bitmask: what they answer, as a function 'hb' of n, imms, immr and the size. -/
import Derived.Test.YthcboddeannjcaaProg
import Derived.WalkKit
import Derived.KernelRfl
import Derived.Laws.BitsLemmas
import Derived.Below
namespace Go.Proofs.Ythcboddeannjcaa.Hb
open Go.RowKit
theorem ret_any {a b : Value} (h : a = b) : Ending.returned a = .returned b := by rw [h]

theorem hb_wraps_u8 (n : Int) (h₀ : 0 ≤ n) (h₁ : n < 2 ^ 8) : IntKind.u8.wrap n = n := by rw [IntKind.wrap_u8]; omega
theorem u8_and1 (x : Int) (h₀ : 0 ≤ x) (h₁ : x < 256) : Go.bits .and .u8 x 1 = x % 2 := bits_mask .u8 8 (by decide) hb_wraps_u8 1 (by decide) x h₀ h₁
theorem u8_and3 (x : Int) (h₀ : 0 ≤ x) (h₁ : x < 256) : Go.bits .and .u8 x 3 = x % 4 := bits_mask .u8 8 (by decide) hb_wraps_u8 2 (by decide) x h₀ h₁

/-- An element's ones. -/
def ones (E s : Int) : Int := IntKind.u64.wrap (IntKind.u64.wrap (2 ^ (s % E + 1).toNat) - 1)
/-- The element, turned down. -/
def ror (E : Int) (levels s r : Int) : Int :=
  Go.bits .and .u64 (Go.bits .or .u64 (ones E s / 2 ^ (r % E).toNat) (IntKind.u64.wrap (ones E s * 2 ^ (E - r % E).toNat))) levels
/-- The element so many times. -/
def rep (P q : Int) : Nat → Int
  | 0 => 0
  | j + 1 => Go.bits .or .u64 (IntKind.u64.wrap (rep P q j * P)) q

theorem hb32_0 (x n s r : Int) (w : World) (_x0 : 0 ≤ x) (_x1 : x ≤ 4294967295) (_s0 : 0 ≤ s) (_s1 : s ≤ 63) (_r0 : 0 ≤ r) (_r1 : r ≤ 63)
    (_hn : Go.bits .and .u32 (x / 4194304) 1 = n) (_hs : Go.bits .and .u32 (x / 1024) 63 = s) (_hr : Go.bits .and .u32 (x / 65536) 63 = r)
    (_c : (n != 0) = false) (_c5 : (Go.bits .and .u8 s 32 == 0) = false) (_c4 : (Go.bits .and .u8 s 16 == 0) = false) (_c3 : (Go.bits .and .u8 s 8 == 0) = false) (_c2 : (Go.bits .and .u8 s 4 == 0) = false) (_c1 : (Go.bits .and .u8 s 2 == 0) = false) :
    Calls Try.prog 31 #[.int .u32 x, .int .u8 32] w fun e w' => e = .returned .nilIface ∧ w' = w := by
  go_enter Try.func31, Try.ntmps31
  go_wp2
  go_ret
  exact ⟨rfl, rfl⟩

theorem hb32_1 (x n s r : Int) (w : World) (_x0 : 0 ≤ x) (_x1 : x ≤ 4294967295) (_s0 : 0 ≤ s) (_s1 : s ≤ 63) (_r0 : 0 ≤ r) (_r1 : r ≤ 63)
    (_hn : Go.bits .and .u32 (x / 4194304) 1 = n) (_hs : Go.bits .and .u32 (x / 1024) 63 = s) (_hr : Go.bits .and .u32 (x / 65536) 63 = r)
    (_c : (n != 0) = false) (_c5 : (Go.bits .and .u8 s 32 == 0) = false) (_c4 : (Go.bits .and .u8 s 16 == 0) = false) (_c3 : (Go.bits .and .u8 s 8 == 0) = false) (_c2 : (Go.bits .and .u8 s 4 == 0) = false) (_c1 : (Go.bits .and .u8 s 2 == 0) = true) :
    Calls Try.prog 31 #[.int .u32 x, .int .u8 32] w fun e w' => e = .returned (.iface 47 (.agg #[.int .u64 (rep 4 (ror 2 3 s r) 16), .bool false])) ∧ w' = w := by
  have _e1 := u8_and1 s (by omega) (by omega)
  have _e2 := u8_and1 r (by omega) (by omega)
  go_enter Try.func31, Try.ntmps31
  go_wp2
  go_loop [8, 10] (fun i m => ∃ j : Nat, j ≤ 16 ∧ i = .int .u8 ((j : Int) * 2) ∧ m = .int .u64 (rep 4 (ror 2 3 s r) j)) (fun i _ => 32 - (intOf i).toNat)
  case atStart => exact ⟨0, by omega, by simp, rfl⟩
  case round =>
    obtain ⟨j, hj, rfl, rfl⟩ := hrel
    by_cases hlt : j < 16
    · go_wp2
      go_round
      case rel => exact ⟨j + 1, by omega, by congr 1; omega, by simp only [rep]; rfl⟩
      case measure => simp [intOf]; omega
    · obtain rfl : j = 16 := by omega
      go_wp2
      go_ret
      exact ⟨rfl, rfl⟩

theorem hb32_2 (x n s r : Int) (w : World) (_x0 : 0 ≤ x) (_x1 : x ≤ 4294967295) (_s0 : 0 ≤ s) (_s1 : s ≤ 63) (_r0 : 0 ≤ r) (_r1 : r ≤ 63)
    (_hn : Go.bits .and .u32 (x / 4194304) 1 = n) (_hs : Go.bits .and .u32 (x / 1024) 63 = s) (_hr : Go.bits .and .u32 (x / 65536) 63 = r)
    (_c : (n != 0) = false) (_c5 : (Go.bits .and .u8 s 32 == 0) = false) (_c4 : (Go.bits .and .u8 s 16 == 0) = false) (_c3 : (Go.bits .and .u8 s 8 == 0) = false) (_c2 : (Go.bits .and .u8 s 4 == 0) = true) :
    Calls Try.prog 31 #[.int .u32 x, .int .u8 32] w fun e w' => e = .returned (.iface 47 (.agg #[.int .u64 (rep 16 (ror 4 15 s r) 8), .bool false])) ∧ w' = w := by
  have _e1 := u8_and3 s (by omega) (by omega)
  have _e2 := u8_and3 r (by omega) (by omega)
  go_enter Try.func31, Try.ntmps31
  go_wp2
  go_loop [8, 10] (fun i m => ∃ j : Nat, j ≤ 8 ∧ i = .int .u8 ((j : Int) * 4) ∧ m = .int .u64 (rep 16 (ror 4 15 s r) j)) (fun i _ => 32 - (intOf i).toNat)
  case atStart => exact ⟨0, by omega, by simp, rfl⟩
  case round =>
    obtain ⟨j, hj, rfl, rfl⟩ := hrel
    by_cases hlt : j < 8
    · go_wp2
      go_round
      case rel => exact ⟨j + 1, by omega, by congr 1; omega, by simp only [rep]; rfl⟩
      case measure => simp [intOf]; omega
    · obtain rfl : j = 8 := by omega
      go_wp2
      go_ret
      exact ⟨rfl, rfl⟩

theorem hb32_3 (x n s r : Int) (w : World) (_x0 : 0 ≤ x) (_x1 : x ≤ 4294967295) (_s0 : 0 ≤ s) (_s1 : s ≤ 63) (_r0 : 0 ≤ r) (_r1 : r ≤ 63)
    (_hn : Go.bits .and .u32 (x / 4194304) 1 = n) (_hs : Go.bits .and .u32 (x / 1024) 63 = s) (_hr : Go.bits .and .u32 (x / 65536) 63 = r)
    (_c : (n != 0) = false) (_c5 : (Go.bits .and .u8 s 32 == 0) = false) (_c4 : (Go.bits .and .u8 s 16 == 0) = false) (_c3 : (Go.bits .and .u8 s 8 == 0) = true) :
    Calls Try.prog 31 #[.int .u32 x, .int .u8 32] w fun e w' => e = .returned (.iface 47 (.agg #[.int .u64 (rep 256 (ror 8 255 s r) 4), .bool false])) ∧ w' = w := by
  go_enter Try.func31, Try.ntmps31
  go_wp2
  go_loop [8, 10] (fun i m => ∃ j : Nat, j ≤ 4 ∧ i = .int .u8 ((j : Int) * 8) ∧ m = .int .u64 (rep 256 (ror 8 255 s r) j)) (fun i _ => 32 - (intOf i).toNat)
  case atStart => exact ⟨0, by omega, by simp, rfl⟩
  case round =>
    obtain ⟨j, hj, rfl, rfl⟩ := hrel
    by_cases hlt : j < 4
    · go_wp2
      go_round
      case rel => exact ⟨j + 1, by omega, by congr 1; omega, by simp only [rep]; rfl⟩
      case measure => simp [intOf]; omega
    · obtain rfl : j = 4 := by omega
      go_wp2
      go_ret
      exact ⟨rfl, rfl⟩

theorem hb32_4 (x n s r : Int) (w : World) (_x0 : 0 ≤ x) (_x1 : x ≤ 4294967295) (_s0 : 0 ≤ s) (_s1 : s ≤ 63) (_r0 : 0 ≤ r) (_r1 : r ≤ 63)
    (_hn : Go.bits .and .u32 (x / 4194304) 1 = n) (_hs : Go.bits .and .u32 (x / 1024) 63 = s) (_hr : Go.bits .and .u32 (x / 65536) 63 = r)
    (_c : (n != 0) = false) (_c5 : (Go.bits .and .u8 s 32 == 0) = false) (_c4 : (Go.bits .and .u8 s 16 == 0) = true) :
    Calls Try.prog 31 #[.int .u32 x, .int .u8 32] w fun e w' => e = .returned (.iface 47 (.agg #[.int .u64 (rep 65536 (ror 16 65535 s r) 2), .bool false])) ∧ w' = w := by
  go_enter Try.func31, Try.ntmps31
  go_wp2
  go_loop [8, 10] (fun i m => ∃ j : Nat, j ≤ 2 ∧ i = .int .u8 ((j : Int) * 16) ∧ m = .int .u64 (rep 65536 (ror 16 65535 s r) j)) (fun i _ => 32 - (intOf i).toNat)
  case atStart => exact ⟨0, by omega, by simp, rfl⟩
  case round =>
    obtain ⟨j, hj, rfl, rfl⟩ := hrel
    by_cases hlt : j < 2
    · go_wp2
      go_round
      case rel => exact ⟨j + 1, by omega, by congr 1; omega, by simp only [rep]; rfl⟩
      case measure => simp [intOf]; omega
    · obtain rfl : j = 2 := by omega
      go_wp2
      go_ret
      exact ⟨rfl, rfl⟩

theorem hb32_5 (x n s r : Int) (w : World) (_x0 : 0 ≤ x) (_x1 : x ≤ 4294967295) (_s0 : 0 ≤ s) (_s1 : s ≤ 63) (_r0 : 0 ≤ r) (_r1 : r ≤ 63)
    (_hn : Go.bits .and .u32 (x / 4194304) 1 = n) (_hs : Go.bits .and .u32 (x / 1024) 63 = s) (_hr : Go.bits .and .u32 (x / 65536) 63 = r)
    (_c : (n != 0) = false) (_c5 : (Go.bits .and .u8 s 32 == 0) = true) :
    Calls Try.prog 31 #[.int .u32 x, .int .u8 32] w fun e w' => e = .returned (.iface 47 (.agg #[.int .u64 (rep 4294967296 (ror 32 4294967295 s r) 1), .bool false])) ∧ w' = w := by
  go_enter Try.func31, Try.ntmps31
  go_wp2
  go_loop [8, 10] (fun i m => ∃ j : Nat, j ≤ 1 ∧ i = .int .u8 ((j : Int) * 32) ∧ m = .int .u64 (rep 4294967296 (ror 32 4294967295 s r) j)) (fun i _ => 32 - (intOf i).toNat)
  case atStart => exact ⟨0, by omega, by simp, rfl⟩
  case round =>
    obtain ⟨j, hj, rfl, rfl⟩ := hrel
    by_cases hlt : j < 1
    · go_wp2
      go_round
      case rel => exact ⟨j + 1, by omega, by congr 1; omega, by simp only [rep]; rfl⟩
      case measure => simp [intOf]; omega
    · obtain rfl : j = 1 := by omega
      go_wp2
      go_ret
      exact ⟨rfl, rfl⟩

theorem hb32_6 (x n s r : Int) (w : World) (_x0 : 0 ≤ x) (_x1 : x ≤ 4294967295) (_s0 : 0 ≤ s) (_s1 : s ≤ 63) (_r0 : 0 ≤ r) (_r1 : r ≤ 63)
    (_hn : Go.bits .and .u32 (x / 4194304) 1 = n) (_hs : Go.bits .and .u32 (x / 1024) 63 = s) (_hr : Go.bits .and .u32 (x / 65536) 63 = r)
    (_c : (n != 0) = true) :
    Calls Try.prog 31 #[.int .u32 x, .int .u8 32] w fun e w' => e = .returned .nilIface ∧ w' = w := by
  go_enter Try.func31, Try.ntmps31
  go_wp2
  go_ret
  exact ⟨rfl, rfl⟩

theorem hb64_0 (x n s r : Int) (w : World) (_x0 : 0 ≤ x) (_x1 : x ≤ 4294967295) (_s0 : 0 ≤ s) (_s1 : s ≤ 63) (_r0 : 0 ≤ r) (_r1 : r ≤ 63)
    (_hn : Go.bits .and .u32 (x / 4194304) 1 = n) (_hs : Go.bits .and .u32 (x / 1024) 63 = s) (_hr : Go.bits .and .u32 (x / 65536) 63 = r)
    (_c : (n != 0) = false) (_c5 : (Go.bits .and .u8 s 32 == 0) = false) (_c4 : (Go.bits .and .u8 s 16 == 0) = false) (_c3 : (Go.bits .and .u8 s 8 == 0) = false) (_c2 : (Go.bits .and .u8 s 4 == 0) = false) (_c1 : (Go.bits .and .u8 s 2 == 0) = false) :
    Calls Try.prog 31 #[.int .u32 x, .int .u8 64] w fun e w' => e = .returned .nilIface ∧ w' = w := by
  go_enter Try.func31, Try.ntmps31
  go_wp2
  go_ret
  exact ⟨rfl, rfl⟩

theorem hb64_1 (x n s r : Int) (w : World) (_x0 : 0 ≤ x) (_x1 : x ≤ 4294967295) (_s0 : 0 ≤ s) (_s1 : s ≤ 63) (_r0 : 0 ≤ r) (_r1 : r ≤ 63)
    (_hn : Go.bits .and .u32 (x / 4194304) 1 = n) (_hs : Go.bits .and .u32 (x / 1024) 63 = s) (_hr : Go.bits .and .u32 (x / 65536) 63 = r)
    (_c : (n != 0) = false) (_c5 : (Go.bits .and .u8 s 32 == 0) = false) (_c4 : (Go.bits .and .u8 s 16 == 0) = false) (_c3 : (Go.bits .and .u8 s 8 == 0) = false) (_c2 : (Go.bits .and .u8 s 4 == 0) = false) (_c1 : (Go.bits .and .u8 s 2 == 0) = true) :
    Calls Try.prog 31 #[.int .u32 x, .int .u8 64] w fun e w' => e = .returned (.iface 47 (.agg #[.int .u64 (rep 4 (ror 2 3 s r) 32), .bool false])) ∧ w' = w := by
  have _e1 := u8_and1 s (by omega) (by omega)
  have _e2 := u8_and1 r (by omega) (by omega)
  go_enter Try.func31, Try.ntmps31
  go_wp2
  go_loop [8, 10] (fun i m => ∃ j : Nat, j ≤ 32 ∧ i = .int .u8 ((j : Int) * 2) ∧ m = .int .u64 (rep 4 (ror 2 3 s r) j)) (fun i _ => 64 - (intOf i).toNat)
  case atStart => exact ⟨0, by omega, by simp, rfl⟩
  case round =>
    obtain ⟨j, hj, rfl, rfl⟩ := hrel
    by_cases hlt : j < 32
    · go_wp2
      go_round
      case rel => exact ⟨j + 1, by omega, by congr 1; omega, by simp only [rep]; rfl⟩
      case measure => simp [intOf]; omega
    · obtain rfl : j = 32 := by omega
      go_wp2
      go_ret
      exact ⟨rfl, rfl⟩

theorem hb64_2 (x n s r : Int) (w : World) (_x0 : 0 ≤ x) (_x1 : x ≤ 4294967295) (_s0 : 0 ≤ s) (_s1 : s ≤ 63) (_r0 : 0 ≤ r) (_r1 : r ≤ 63)
    (_hn : Go.bits .and .u32 (x / 4194304) 1 = n) (_hs : Go.bits .and .u32 (x / 1024) 63 = s) (_hr : Go.bits .and .u32 (x / 65536) 63 = r)
    (_c : (n != 0) = false) (_c5 : (Go.bits .and .u8 s 32 == 0) = false) (_c4 : (Go.bits .and .u8 s 16 == 0) = false) (_c3 : (Go.bits .and .u8 s 8 == 0) = false) (_c2 : (Go.bits .and .u8 s 4 == 0) = true) :
    Calls Try.prog 31 #[.int .u32 x, .int .u8 64] w fun e w' => e = .returned (.iface 47 (.agg #[.int .u64 (rep 16 (ror 4 15 s r) 16), .bool false])) ∧ w' = w := by
  have _e1 := u8_and3 s (by omega) (by omega)
  have _e2 := u8_and3 r (by omega) (by omega)
  go_enter Try.func31, Try.ntmps31
  go_wp2
  go_loop [8, 10] (fun i m => ∃ j : Nat, j ≤ 16 ∧ i = .int .u8 ((j : Int) * 4) ∧ m = .int .u64 (rep 16 (ror 4 15 s r) j)) (fun i _ => 64 - (intOf i).toNat)
  case atStart => exact ⟨0, by omega, by simp, rfl⟩
  case round =>
    obtain ⟨j, hj, rfl, rfl⟩ := hrel
    by_cases hlt : j < 16
    · go_wp2
      go_round
      case rel => exact ⟨j + 1, by omega, by congr 1; omega, by simp only [rep]; rfl⟩
      case measure => simp [intOf]; omega
    · obtain rfl : j = 16 := by omega
      go_wp2
      go_ret
      exact ⟨rfl, rfl⟩

theorem hb64_3 (x n s r : Int) (w : World) (_x0 : 0 ≤ x) (_x1 : x ≤ 4294967295) (_s0 : 0 ≤ s) (_s1 : s ≤ 63) (_r0 : 0 ≤ r) (_r1 : r ≤ 63)
    (_hn : Go.bits .and .u32 (x / 4194304) 1 = n) (_hs : Go.bits .and .u32 (x / 1024) 63 = s) (_hr : Go.bits .and .u32 (x / 65536) 63 = r)
    (_c : (n != 0) = false) (_c5 : (Go.bits .and .u8 s 32 == 0) = false) (_c4 : (Go.bits .and .u8 s 16 == 0) = false) (_c3 : (Go.bits .and .u8 s 8 == 0) = true) :
    Calls Try.prog 31 #[.int .u32 x, .int .u8 64] w fun e w' => e = .returned (.iface 47 (.agg #[.int .u64 (rep 256 (ror 8 255 s r) 8), .bool false])) ∧ w' = w := by
  go_enter Try.func31, Try.ntmps31
  go_wp2
  go_loop [8, 10] (fun i m => ∃ j : Nat, j ≤ 8 ∧ i = .int .u8 ((j : Int) * 8) ∧ m = .int .u64 (rep 256 (ror 8 255 s r) j)) (fun i _ => 64 - (intOf i).toNat)
  case atStart => exact ⟨0, by omega, by simp, rfl⟩
  case round =>
    obtain ⟨j, hj, rfl, rfl⟩ := hrel
    by_cases hlt : j < 8
    · go_wp2
      go_round
      case rel => exact ⟨j + 1, by omega, by congr 1; omega, by simp only [rep]; rfl⟩
      case measure => simp [intOf]; omega
    · obtain rfl : j = 8 := by omega
      go_wp2
      go_ret
      exact ⟨rfl, rfl⟩

theorem hb64_4 (x n s r : Int) (w : World) (_x0 : 0 ≤ x) (_x1 : x ≤ 4294967295) (_s0 : 0 ≤ s) (_s1 : s ≤ 63) (_r0 : 0 ≤ r) (_r1 : r ≤ 63)
    (_hn : Go.bits .and .u32 (x / 4194304) 1 = n) (_hs : Go.bits .and .u32 (x / 1024) 63 = s) (_hr : Go.bits .and .u32 (x / 65536) 63 = r)
    (_c : (n != 0) = false) (_c5 : (Go.bits .and .u8 s 32 == 0) = false) (_c4 : (Go.bits .and .u8 s 16 == 0) = true) :
    Calls Try.prog 31 #[.int .u32 x, .int .u8 64] w fun e w' => e = .returned (.iface 47 (.agg #[.int .u64 (rep 65536 (ror 16 65535 s r) 4), .bool false])) ∧ w' = w := by
  go_enter Try.func31, Try.ntmps31
  go_wp2
  go_loop [8, 10] (fun i m => ∃ j : Nat, j ≤ 4 ∧ i = .int .u8 ((j : Int) * 16) ∧ m = .int .u64 (rep 65536 (ror 16 65535 s r) j)) (fun i _ => 64 - (intOf i).toNat)
  case atStart => exact ⟨0, by omega, by simp, rfl⟩
  case round =>
    obtain ⟨j, hj, rfl, rfl⟩ := hrel
    by_cases hlt : j < 4
    · go_wp2
      go_round
      case rel => exact ⟨j + 1, by omega, by congr 1; omega, by simp only [rep]; rfl⟩
      case measure => simp [intOf]; omega
    · obtain rfl : j = 4 := by omega
      go_wp2
      go_ret
      exact ⟨rfl, rfl⟩

theorem hb64_5 (x n s r : Int) (w : World) (_x0 : 0 ≤ x) (_x1 : x ≤ 4294967295) (_s0 : 0 ≤ s) (_s1 : s ≤ 63) (_r0 : 0 ≤ r) (_r1 : r ≤ 63)
    (_hn : Go.bits .and .u32 (x / 4194304) 1 = n) (_hs : Go.bits .and .u32 (x / 1024) 63 = s) (_hr : Go.bits .and .u32 (x / 65536) 63 = r)
    (_c : (n != 0) = false) (_c5 : (Go.bits .and .u8 s 32 == 0) = true) :
    Calls Try.prog 31 #[.int .u32 x, .int .u8 64] w fun e w' => e = .returned (.iface 47 (.agg #[.int .u64 (rep 4294967296 (ror 32 4294967295 s r) 2), .bool false])) ∧ w' = w := by
  go_enter Try.func31, Try.ntmps31
  go_wp2
  go_loop [8, 10] (fun i m => ∃ j : Nat, j ≤ 2 ∧ i = .int .u8 ((j : Int) * 32) ∧ m = .int .u64 (rep 4294967296 (ror 32 4294967295 s r) j)) (fun i _ => 64 - (intOf i).toNat)
  case atStart => exact ⟨0, by omega, by simp, rfl⟩
  case round =>
    obtain ⟨j, hj, rfl, rfl⟩ := hrel
    by_cases hlt : j < 2
    · go_wp2
      go_round
      case rel => exact ⟨j + 1, by omega, by congr 1; omega, by simp only [rep]; rfl⟩
      case measure => simp [intOf]; omega
    · obtain rfl : j = 2 := by omega
      go_wp2
      go_ret
      exact ⟨rfl, rfl⟩

theorem hb64_6 (x n s r : Int) (w : World) (_x0 : 0 ≤ x) (_x1 : x ≤ 4294967295) (_s0 : 0 ≤ s) (_s1 : s ≤ 63) (_r0 : 0 ≤ r) (_r1 : r ≤ 63)
    (_hn : Go.bits .and .u32 (x / 4194304) 1 = n) (_hs : Go.bits .and .u32 (x / 1024) 63 = s) (_hr : Go.bits .and .u32 (x / 65536) 63 = r)
    (_c : (n != 0) = true) :
    Calls Try.prog 31 #[.int .u32 x, .int .u8 64] w fun e w' => e = .returned (.iface 47 (.agg #[.int .u64 (rep 18446744073709551616 (ror 64 18446744073709551615 s r) 1), .bool false])) ∧ w' = w := by
  go_enter Try.func31, Try.ntmps31
  go_wp2
  go_loop [8, 10] (fun i m => ∃ j : Nat, j ≤ 1 ∧ i = .int .u8 ((j : Int) * 64) ∧ m = .int .u64 (rep 18446744073709551616 (ror 64 18446744073709551615 s r) j)) (fun i _ => 64 - (intOf i).toNat)
  case atStart => exact ⟨0, by omega, by simp, rfl⟩
  case round =>
    obtain ⟨j, hj, rfl, rfl⟩ := hrel
    by_cases hlt : j < 1
    · go_wp2
      go_round
      case rel => exact ⟨j + 1, by omega, by congr 1; omega, by simp only [rep]; rfl⟩
      case measure => simp [intOf]; omega
    · obtain rfl : j = 1 := by omega
      go_wp2
      go_ret
      exact ⟨rfl, rfl⟩

/-- What handle_bitmasks tells of n, imms, immr for so many bits, where it tells a number. -/
def hb (ds n s r : Int) : Option Int :=
  let len : Nat := if n != 0 then 6 else if Go.bits .and .u8 s 32 == 0 then 5 else if Go.bits .and .u8 s 16 == 0 then 4 else if Go.bits .and .u8 s 8 == 0 then 3
    else if Go.bits .and .u8 s 4 == 0 then 2 else if Go.bits .and .u8 s 2 == 0 then 1 else 0
  if len = 0 ∨ ds < 2 ^ len then none
  else some (rep (2 ^ 2 ^ len) (ror (2 ^ len) (2 ^ 2 ^ len - 1) s r) (ds.toNat / 2 ^ len))
def hbV : Option Int → Value
  | none => .nilIface
  | some m => .iface 47 (.agg #[.int .u64 m, .bool false])

theorem hb32 (x n s r : Int) (w : World) (_x0 : 0 ≤ x) (_x1 : x ≤ 4294967295) (_s0 : 0 ≤ s) (_s1 : s ≤ 63) (_r0 : 0 ≤ r) (_r1 : r ≤ 63)
    (_hn : Go.bits .and .u32 (x / 4194304) 1 = n) (_hs : Go.bits .and .u32 (x / 1024) 63 = s) (_hr : Go.bits .and .u32 (x / 65536) 63 = r) :
    Calls Try.prog 31 #[.int .u32 x, .int .u8 32] w fun e w' => e = .returned (hbV (hb 32 n s r)) ∧ w' = w := by
  have pick : ∀ v, v = hbV (hb 32 n s r) → Calls Try.prog 31 #[.int .u32 x, .int .u8 32] w (fun e w' => e = .returned v ∧ w' = w) → Calls Try.prog 31 #[.int .u32 x, .int .u8 32] w fun e w' => e = .returned (hbV (hb 32 n s r)) ∧ w' = w := fun v hv h => hv ▸ h
  cases c : (n != 0)
  · cases c5 : (Go.bits .and .u8 s 32 == 0)
    · cases c4 : (Go.bits .and .u8 s 16 == 0)
      · cases c3 : (Go.bits .and .u8 s 8 == 0)
        · cases c2 : (Go.bits .and .u8 s 4 == 0)
          · cases c1 : (Go.bits .and .u8 s 2 == 0)
            · exact (pick _ (by simp [hb, hbV, c, c5, c4, c3, c2, c1]) (hb32_0 x n s r w _x0 _x1 _s0 _s1 _r0 _r1 _hn _hs _hr c c5 c4 c3 c2 c1))
            · exact (pick _ (by simp [hb, hbV, c, c5, c4, c3, c2, c1]) (hb32_1 x n s r w _x0 _x1 _s0 _s1 _r0 _r1 _hn _hs _hr c c5 c4 c3 c2 c1))
          · exact (pick _ (by simp [hb, hbV, c, c5, c4, c3, c2]) (hb32_2 x n s r w _x0 _x1 _s0 _s1 _r0 _r1 _hn _hs _hr c c5 c4 c3 c2))
        · exact (pick _ (by simp [hb, hbV, c, c5, c4, c3]) (hb32_3 x n s r w _x0 _x1 _s0 _s1 _r0 _r1 _hn _hs _hr c c5 c4 c3))
      · exact (pick _ (by simp [hb, hbV, c, c5, c4]) (hb32_4 x n s r w _x0 _x1 _s0 _s1 _r0 _r1 _hn _hs _hr c c5 c4))
    · exact (pick _ (by simp [hb, hbV, c, c5]) (hb32_5 x n s r w _x0 _x1 _s0 _s1 _r0 _r1 _hn _hs _hr c c5))
  · exact (pick _ (by simp [hb, hbV, c]) (hb32_6 x n s r w _x0 _x1 _s0 _s1 _r0 _r1 _hn _hs _hr c))

theorem hb64 (x n s r : Int) (w : World) (_x0 : 0 ≤ x) (_x1 : x ≤ 4294967295) (_s0 : 0 ≤ s) (_s1 : s ≤ 63) (_r0 : 0 ≤ r) (_r1 : r ≤ 63)
    (_hn : Go.bits .and .u32 (x / 4194304) 1 = n) (_hs : Go.bits .and .u32 (x / 1024) 63 = s) (_hr : Go.bits .and .u32 (x / 65536) 63 = r) :
    Calls Try.prog 31 #[.int .u32 x, .int .u8 64] w fun e w' => e = .returned (hbV (hb 64 n s r)) ∧ w' = w := by
  have pick : ∀ v, v = hbV (hb 64 n s r) → Calls Try.prog 31 #[.int .u32 x, .int .u8 64] w (fun e w' => e = .returned v ∧ w' = w) → Calls Try.prog 31 #[.int .u32 x, .int .u8 64] w fun e w' => e = .returned (hbV (hb 64 n s r)) ∧ w' = w := fun v hv h => hv ▸ h
  cases c : (n != 0)
  · cases c5 : (Go.bits .and .u8 s 32 == 0)
    · cases c4 : (Go.bits .and .u8 s 16 == 0)
      · cases c3 : (Go.bits .and .u8 s 8 == 0)
        · cases c2 : (Go.bits .and .u8 s 4 == 0)
          · cases c1 : (Go.bits .and .u8 s 2 == 0)
            · exact (pick _ (by simp [hb, hbV, c, c5, c4, c3, c2, c1]) (hb64_0 x n s r w _x0 _x1 _s0 _s1 _r0 _r1 _hn _hs _hr c c5 c4 c3 c2 c1))
            · exact (pick _ (by simp [hb, hbV, c, c5, c4, c3, c2, c1]) (hb64_1 x n s r w _x0 _x1 _s0 _s1 _r0 _r1 _hn _hs _hr c c5 c4 c3 c2 c1))
          · exact (pick _ (by simp [hb, hbV, c, c5, c4, c3, c2]) (hb64_2 x n s r w _x0 _x1 _s0 _s1 _r0 _r1 _hn _hs _hr c c5 c4 c3 c2))
        · exact (pick _ (by simp [hb, hbV, c, c5, c4, c3]) (hb64_3 x n s r w _x0 _x1 _s0 _s1 _r0 _r1 _hn _hs _hr c c5 c4 c3))
      · exact (pick _ (by simp [hb, hbV, c, c5, c4]) (hb64_4 x n s r w _x0 _x1 _s0 _s1 _r0 _r1 _hn _hs _hr c c5 c4))
    · exact (pick _ (by simp [hb, hbV, c, c5]) (hb64_5 x n s r w _x0 _x1 _s0 _s1 _r0 _r1 _hn _hs _hr c c5))
  · exact (pick _ (by simp [hb, hbV, c]) (hb64_6 x n s r w _x0 _x1 _s0 _s1 _r0 _r1 _hn _hs _hr c))

end Go.Proofs.Ythcboddeannjcaa.Hb
