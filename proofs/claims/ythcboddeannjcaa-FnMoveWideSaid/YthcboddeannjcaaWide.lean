/- The walks of FnMoveWide's functions: within the law's bounds the code and the reference both answer 'wideB'. -/
import Derived.Test.YthcboddeannjcaaProg
import Derived.WalkKit
import Derived.KernelRfl
import Derived.Laws.BitsLemmas
import Derived.Outline
namespace Go.Proofs.Ythcboddeannjcaa.Wide
open Go.RowKit

theorem hidden {p : Prop} (h : p) : Hid p := h

def wideB (sf n s r : Int) : Bool :=
  decide ((sf = 1 ∧ n = 1 ∨ sf = 0 ∧ n = 0 ∧ s < 32) ∧ (s < 16 ∧ (64 - r) % 16 ≤ 15 - s ∨ 32 * sf + 17 ≤ s ∧ r % 16 ≤ s - (32 * sf + 17)))

theorem ret_bool {a b : Bool} (h : a = b) : Ending.returned (.bool a) = .returned (.bool b) := by rw [h]
theorem wd_wraps_u32 (n : Int) (h₀ : 0 ≤ n) (h₁ : n < 2 ^ 32) : IntKind.u32.wrap n = n := by rw [IntKind.wrap_u32]; omega
theorem wd_and1 (x : Int) (h₀ : 0 ≤ x) (h₁ : x ≤ 4294967295) : Go.bits .and .u32 x 1 = x % 2 := by
  have e := bits_mask .u32 32 (by decide) wd_wraps_u32 1 (by decide) x h₀ (by omega)
  rw [show (2 : Int) ^ 1 - 1 = 1 from rfl, show (2 : Int) ^ 1 = 2 from rfl] at e
  exact e

theorem code_any (sf n s r : Int) (w : World) (hsf : sf = 0 ∨ sf = 1) (hn : n = 0 ∨ n = 1) (s0 : 0 ≤ s) (s1 : s ≤ 63) (r0 : 0 ≤ r) (r1 : r ≤ 63) :
    Calls Try.prog 30 #[.int .u32 sf, .int .u32 n, .int .u32 s, .int .u32 r] w fun e w' => e = .returned (.bool (wideB sf n s r)) ∧ w' = w := by
  have hb := wd_and1 (s / 32) (by omega) (by omega)
  have hb0 : s < 32 → (Go.bits .and .u32 (s / 32) 1 == 0) = true := fun h => by rw [hb]; simp; omega
  have hb1 : 32 ≤ s → (Go.bits .and .u32 (s / 32) 1 == 0) = false := fun h => by rw [hb]; simp; omega
  clear hb
  rcases hsf with rfl | rfl <;> rcases hn with rfl | rfl <;> by_cases h32 : s < 32 <;> by_cases h16 : s < 16 <;> by_cases h17 : 17 ≤ s <;> by_cases h49 : 49 ≤ s <;> first
    | omega
    | (first | have hbt := hb0 h32 | have hbt := hb1 (by omega)
       clear hb0 hb1
       go_enter Try.func30, Try.ntmps30
       go_wp2
       all_goals (go_ret; (try rw [Int.tmod_eq_emod_of_nonneg r0]); exact ⟨ret_bool (by unfold wideB; first | exact (decide_eq_false (by omega)).symm | exact decide_eq_decide.2 (by constructor <;> omega)), rfl⟩))

theorem spec_any (sf n s r : Int) (w : World) (hsf : sf = 0 ∨ sf = 1) (hn : n = 0 ∨ n = 1) (s0 : 0 ≤ s) (s1 : s ≤ 63) (r0 : 0 ≤ r) (r1 : r ≤ 63) :
    Calls Try.prog 16 #[.int .i64 sf, .int .i64 n, .int .i64 s, .int .i64 r] w fun e w' => e = .returned (.bool (wideB sf n s r)) ∧ w' = w := by
  rcases hsf with rfl | rfl <;> rcases hn with rfl | rfl <;> by_cases h32 : s < 32 <;> by_cases h16 : s < 16 <;> by_cases h17 : 17 ≤ s <;> by_cases h49 : 49 ≤ s <;> first
    | omega
    | (go_enter Try.func16, Try.ntmps16
       go_wp2
       all_goals (go_ret; exact ⟨ret_bool (by unfold wideB; first | exact (decide_eq_false (by omega)).symm | exact decide_eq_decide.2 (by constructor <;> omega)), rfl⟩))

theorem law_in (sf n s r : Int) (w : World) (hsf : sf = 0 ∨ sf = 1) (hn : n = 0 ∨ n = 1) (s0 : 0 ≤ s) (s1 : s ≤ 63) (r0 : 0 ≤ r) (r1 : r ≤ 63) :
    Calls Try.prog 6 #[.int .i64 sf, .int .i64 n, .int .i64 s, .int .i64 r] w fun e w' => e = .returned (.bool true) ∧ w' = w := by
  have f0 : 0 ≤ sf := by omega
  have f1 : sf ≤ 1 := by omega
  have n0 : 0 ≤ n := by omega
  have n1 : n ≤ 1 := by omega
  have HF : Hid (sf = 0 ∨ sf = 1) := hidden hsf
  have HN : Hid (n = 0 ∨ n = 1) := hidden hn
  clear hsf hn
  go_enter Try.func6, Try.ntmps6
  go_wp2_with (first | (go_at_call 30; refine (code_any sf n s r _ HF.out HN.out s0 s1 r0 r1).mono ?_; rintro e w' ⟨rfl, rfl⟩) | (go_at_call 16; refine (spec_any sf n s r _ HF.out HN.out s0 s1 r0 r1).mono ?_; rintro e w' ⟨rfl, rfl⟩) | go_in)
  go_ret
  exact ⟨ret_bool (by simp), rfl⟩

theorem out0 (sf n s r : Int) (w : World)  (_ : sf < 0) :
    Calls Try.prog 6 #[.int .i64 sf, .int .i64 n, .int .i64 s, .int .i64 r] w fun e w' => e = .returned (.bool true) ∧ w' = w := by
  go_enter Try.func6, Try.ntmps6
  go_wp2
  go_ret
  exact ⟨rfl, rfl⟩

theorem out1 (sf n s r : Int) (w : World) (_ : 0 ≤ sf) (_ : 1 < sf) :
    Calls Try.prog 6 #[.int .i64 sf, .int .i64 n, .int .i64 s, .int .i64 r] w fun e w' => e = .returned (.bool true) ∧ w' = w := by
  go_enter Try.func6, Try.ntmps6
  go_wp2
  go_ret
  exact ⟨rfl, rfl⟩

theorem out2 (sf n s r : Int) (w : World) (_ : 0 ≤ sf) (_ : sf ≤ 1) (_ : n < 0) :
    Calls Try.prog 6 #[.int .i64 sf, .int .i64 n, .int .i64 s, .int .i64 r] w fun e w' => e = .returned (.bool true) ∧ w' = w := by
  go_enter Try.func6, Try.ntmps6
  go_wp2
  go_ret
  exact ⟨rfl, rfl⟩

theorem out3 (sf n s r : Int) (w : World) (_ : 0 ≤ sf) (_ : sf ≤ 1) (_ : 0 ≤ n) (_ : 1 < n) :
    Calls Try.prog 6 #[.int .i64 sf, .int .i64 n, .int .i64 s, .int .i64 r] w fun e w' => e = .returned (.bool true) ∧ w' = w := by
  go_enter Try.func6, Try.ntmps6
  go_wp2
  go_ret
  exact ⟨rfl, rfl⟩

theorem out4 (sf n s r : Int) (w : World) (_ : 0 ≤ sf) (_ : sf ≤ 1) (_ : 0 ≤ n) (_ : n ≤ 1) (_ : s < 0) :
    Calls Try.prog 6 #[.int .i64 sf, .int .i64 n, .int .i64 s, .int .i64 r] w fun e w' => e = .returned (.bool true) ∧ w' = w := by
  go_enter Try.func6, Try.ntmps6
  go_wp2
  go_ret
  exact ⟨rfl, rfl⟩

theorem out5 (sf n s r : Int) (w : World) (_ : 0 ≤ sf) (_ : sf ≤ 1) (_ : 0 ≤ n) (_ : n ≤ 1) (_ : 0 ≤ s) (_ : 63 < s) :
    Calls Try.prog 6 #[.int .i64 sf, .int .i64 n, .int .i64 s, .int .i64 r] w fun e w' => e = .returned (.bool true) ∧ w' = w := by
  go_enter Try.func6, Try.ntmps6
  go_wp2
  go_ret
  exact ⟨rfl, rfl⟩

theorem out6 (sf n s r : Int) (w : World) (_ : 0 ≤ sf) (_ : sf ≤ 1) (_ : 0 ≤ n) (_ : n ≤ 1) (_ : 0 ≤ s) (_ : s ≤ 63) (_ : r < 0) :
    Calls Try.prog 6 #[.int .i64 sf, .int .i64 n, .int .i64 s, .int .i64 r] w fun e w' => e = .returned (.bool true) ∧ w' = w := by
  go_enter Try.func6, Try.ntmps6
  go_wp2
  go_ret
  exact ⟨rfl, rfl⟩

theorem out7 (sf n s r : Int) (w : World) (_ : 0 ≤ sf) (_ : sf ≤ 1) (_ : 0 ≤ n) (_ : n ≤ 1) (_ : 0 ≤ s) (_ : s ≤ 63) (_ : 0 ≤ r) (_ : 63 < r) :
    Calls Try.prog 6 #[.int .i64 sf, .int .i64 n, .int .i64 s, .int .i64 r] w fun e w' => e = .returned (.bool true) ∧ w' = w := by
  go_enter Try.func6, Try.ntmps6
  go_wp2
  go_ret
  exact ⟨rfl, rfl⟩

theorem law_walk (sf n s r : Int) (w : World) :
    Calls Try.prog 6 #[.int .i64 sf, .int .i64 n, .int .i64 s, .int .i64 r] w fun e w' => e = .returned (.bool true) ∧ w' = w := by
  by_cases h0 : sf < 0
  · exact out0 sf n s r w  h0
  by_cases h1 : 1 < sf
  · exact out1 sf n s r w (by omega) h1
  by_cases h2 : n < 0
  · exact out2 sf n s r w (by omega) (by omega) h2
  by_cases h3 : 1 < n
  · exact out3 sf n s r w (by omega) (by omega) (by omega) h3
  by_cases h4 : s < 0
  · exact out4 sf n s r w (by omega) (by omega) (by omega) (by omega) h4
  by_cases h5 : 63 < s
  · exact out5 sf n s r w (by omega) (by omega) (by omega) (by omega) (by omega) h5
  by_cases h6 : r < 0
  · exact out6 sf n s r w (by omega) (by omega) (by omega) (by omega) (by omega) (by omega) h6
  by_cases h7 : 63 < r
  · exact out7 sf n s r w (by omega) (by omega) (by omega) (by omega) (by omega) (by omega) (by omega) h7
  exact law_in sf n s r w (by omega) (by omega) (by omega) (by omega) (by omega) (by omega)

end Go.Proofs.Ythcboddeannjcaa.Wide
