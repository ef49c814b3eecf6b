/- The walk of FnBitmaskHalf. -/
import Derived.Test.YthcboddeannjcaaBm
import Derived.Test.YthcboddeannjcaaBmDefs
import Derived.Test.YthcboddeannjcaaBmWord
import Derived.Test.YthcboddeannjcaaBmHalf
namespace Go.Proofs.Ythcboddeannjcaa.Hb
open Go.RowKit Go.Proofs.Ythcboddeannjcaa.PFnBitmask
theorem hidden {p : Prop} (h : p) : Hid p := h
theorem ret_bool {a b : Bool} (h : a = b) : Ending.returned (.bool a) = .returned (.bool b) := by rw [h]
/-- The word, as FnBitmaskHalf's walk spells it. -/
def wordH (y r s : Int) : Int := Go.bits .or .u32 (Go.bits .or .u32 (Go.bits .andNot .u32 y 8387584) (r * 65536)) (s * 1024)
theorem out8_0 (y r s : Int) (w : World)  (_ : r < 0) :
    Calls Try.prog 8 #[.int .u32 y, .int .i64 r, .int .i64 s] w fun e w' => e = .returned (.bool true) ∧ Below w.heap.size w w' := by
  go_enter Try.func8, Try.ntmps8
  go_wp2
  go_ret
  exact ⟨rfl, Below.refl _ _⟩
theorem out8_1 (y r s : Int) (w : World) (_ : 0 ≤ r) (_ : 63 < r) :
    Calls Try.prog 8 #[.int .u32 y, .int .i64 r, .int .i64 s] w fun e w' => e = .returned (.bool true) ∧ Below w.heap.size w w' := by
  go_enter Try.func8, Try.ntmps8
  go_wp2
  go_ret
  exact ⟨rfl, Below.refl _ _⟩
theorem out8_2 (y r s : Int) (w : World) (_ : 0 ≤ r) (_ : r ≤ 63) (_ : s < 0) :
    Calls Try.prog 8 #[.int .u32 y, .int .i64 r, .int .i64 s] w fun e w' => e = .returned (.bool true) ∧ Below w.heap.size w w' := by
  go_enter Try.func8, Try.ntmps8
  go_wp2
  go_ret
  exact ⟨rfl, Below.refl _ _⟩
theorem out8_3 (y r s : Int) (w : World) (_ : 0 ≤ r) (_ : r ≤ 63) (_ : 0 ≤ s) (_ : 63 < s) :
    Calls Try.prog 8 #[.int .u32 y, .int .i64 r, .int .i64 s] w fun e w' => e = .returned (.bool true) ∧ Below w.heap.size w w' := by
  go_enter Try.func8, Try.ntmps8
  go_wp2
  go_ret
  exact ⟨rfl, Below.refl _ _⟩
theorem full8 (y r s : Int) (w : World) (r0 : 0 ≤ r) (r1 : r ≤ 63) (s0 : 0 ≤ s) (s1 : s ≤ 63) (hf : spec_Full.f 7 0 s = some true) :
    Calls Try.prog 8 #[.int .u32 y, .int .i64 r, .int .i64 s] w fun e w' => e = .returned (.bool true) ∧ Below w.heap.size w w' := by
  have HF : Hid (spec_Full.f 7 0 s = some true) := hidden hf
  clear hf
  go_enter Try.func8, Try.ntmps8
  go_wp2_with (go_at_call 17; refine (spec_Full.calls 7 0 s _ _ HF.out).mono ?_; rintro e w' ⟨rfl, hb⟩)
  go_ret
  exact ⟨rfl, hb⟩
theorem none8 (y r s : Int) (m' : Int) (w : World) (_y0 : 0 ≤ y) (_y1 : y ≤ 4294967295) (r0 : 0 ≤ r) (r1 : r ≤ 63) (s0 : 0 ≤ s) (s1 : s ≤ 63) (hf : spec_Full.f 7 0 s = some false)
    (hc : ∀ w, Calls Try.prog 18 #[.int .u32 (Go.bits .or .u32 (Go.bits .or .u32 (Go.bits .andNot .u32 y 8387584) (r * 65536)) (s * 1024)), .int .i64 32] w fun e w' => e = .returned (.tuple #[.int .u64 0, .bool false]) ∧ Below w.heap.size w w') (hs : spec_Bitmask.f 80 0 r s = some (m', false)) :
    Calls Try.prog 8 #[.int .u32 y, .int .i64 r, .int .i64 s] w fun e w' => e = .returned (.bool true) ∧ Below w.heap.size w w' := by
  have HF : Hid (spec_Full.f 7 0 s = some false) := hidden hf
  have HC : Hid (∀ w, Calls Try.prog 18 #[.int .u32 (Go.bits .or .u32 (Go.bits .or .u32 (Go.bits .andNot .u32 y 8387584) (r * 65536)) (s * 1024)), .int .i64 32] w fun e w' => e = .returned (.tuple #[.int .u64 0, .bool false]) ∧ Below w.heap.size w w') := hidden hc
  have HS : Hid (spec_Bitmask.f 80 0 r s = some (m', false)) := hidden hs
  clear hf hc hs
  go_enter Try.func8, Try.ntmps8
  go_wp2_with (first | (go_at_call 17; refine (spec_Full.calls 7 0 s _ _ HF.out).mono ?_; rintro e w1 ⟨rfl, hb1⟩) | (go_at_call 18; refine (HC.out _).mono ?_; rintro e w2 ⟨rfl, hb2⟩) | (go_at_call 19; refine (spec_Bitmask.calls 80 0 r s _ _ _ HS.out).mono ?_; rintro e w3 ⟨rfl, hb3⟩))
  go_ret
  exact ⟨ret_bool (by simp), hb1.trans ((hb2.mono (hb1.size)).trans (hb3.mono (Nat.le_trans hb1.size hb2.size)))⟩
theorem some8 (y r s : Int) (m m' : Int) (w : World) (_y0 : 0 ≤ y) (_y1 : y ≤ 4294967295) (r0 : 0 ≤ r) (r1 : r ≤ 63) (s0 : 0 ≤ s) (s1 : s ≤ 63) (q0 : 0 ≤ m) (q0' : 0 ≤ m') (heq : (m % 4294967296 == m' % 4294967296) = true) (hf : spec_Full.f 7 0 s = some false)
    (hc : ∀ w, Calls Try.prog 18 #[.int .u32 (Go.bits .or .u32 (Go.bits .or .u32 (Go.bits .andNot .u32 y 8387584) (r * 65536)) (s * 1024)), .int .i64 32] w fun e w' => e = .returned (.tuple #[.int .u64 m, .bool true]) ∧ Below w.heap.size w w') (hs : spec_Bitmask.f 80 0 r s = some (m', true)) :
    Calls Try.prog 8 #[.int .u32 y, .int .i64 r, .int .i64 s] w fun e w' => e = .returned (.bool true) ∧ Below w.heap.size w w' := by
  have HF : Hid (spec_Full.f 7 0 s = some false) := hidden hf
  have HC : Hid (∀ w, Calls Try.prog 18 #[.int .u32 (Go.bits .or .u32 (Go.bits .or .u32 (Go.bits .andNot .u32 y 8387584) (r * 65536)) (s * 1024)), .int .i64 32] w fun e w' => e = .returned (.tuple #[.int .u64 m, .bool true]) ∧ Below w.heap.size w w') := hidden hc
  have HS : Hid (spec_Bitmask.f 80 0 r s = some (m', true)) := hidden hs
  clear hf hc hs
  go_enter Try.func8, Try.ntmps8
  go_wp2_with (first | (go_at_call 17; refine (spec_Full.calls 7 0 s _ _ HF.out).mono ?_; rintro e w1 ⟨rfl, hb1⟩) | (go_at_call 18; refine (HC.out _).mono ?_; rintro e w2 ⟨rfl, hb2⟩) | (go_at_call 19; refine (spec_Bitmask.calls 80 0 r s _ _ _ HS.out).mono ?_; rintro e w3 ⟨rfl, hb3⟩))
  go_ret
  exact ⟨ret_bool (by simp), hb1.trans ((hb2.mono (hb1.size)).trans (hb3.mono (Nat.le_trans hb1.size hb2.size)))⟩

theorem wordH_eq (y r s : Int) (y0 : 0 ≤ y) (y1 : y ≤ 4294967295) : wordH y r s = word y 0 r s := by
  obtain ⟨y, rfl⟩ := Int.eq_ofNat_of_zero_le y0
  unfold wordH word
  have h1 : (y &&& 4286579711) < 2 ^ 32 := Nat.and_lt_two_pow _ (by omega)
  have e1 := bw_andNot y 8387584 (by omega) (by omega)
  have e2 := bw_or (y &&& 4286579711) 0 h1 (by omega)
  rw [show ((8387584 : Int)) = ((8387584 : Nat) : Int) from rfl, e1, show (0 : Int) * 4194304 = ((0 : Nat) : Int) from rfl, show (2 : Nat) ^ 32 - 1 - 8387584 = 4286579711 from rfl, e2, Nat.or_zero]


theorem hc8 (y r s : Int) (y0 : 0 ≤ y) (y1 : y ≤ 4294967295) (r0 : 0 ≤ r) (r1 : r ≤ 63) (s0 : 0 ≤ s) (s1 : s ≤ 63) (w : World) :
    Calls Try.prog 18 #[.int .u32 (wordH y r s), .int .i64 32] w fun e w' => e = .returned (pairV (hb 32 0 s r)) ∧ Below w.heap.size w w' := by
  obtain ⟨f0, f1, fn, fs, fr⟩ := word_fields y 0 r s y0 y1 (by omega) (by omega) r0 r1 s0 s1
  rw [← wordH_eq y r s y0 y1] at f0 f1 fn fs fr
  exact bm_any _ 32 _ w (by omega) (by omega) (hb32 _ 0 s r w f0 f1 s0 s1 r0 r1 fn fs fr)

theorem same8 (r s : Int) (r0 : 0 ≤ r) (r1 : r ≤ 63) (s0 : 0 ≤ s) (s1 : s ≤ 63) : core (spec_Full.f 7 0 s) (hb 32 0 s r) (spec_Bitmask.f 80 0 r s) = true := by
  have h := sameHalf_all r.toNat s.toNat (by omega) (by omega)
  rw [sameHalf, Int.toNat_of_nonneg r0, Int.toNat_of_nonneg s0] at h
  exact h

theorem in8 (y r s : Int) (w : World) (y0 : 0 ≤ y) (y1 : y ≤ 4294967295) (r0 : 0 ≤ r) (r1 : r ≤ 63) (s0 : 0 ≤ s) (s1 : s ≤ 63) :
    Calls Try.prog 8 #[.int .u32 y, .int .i64 r, .int .i64 s] w fun e w' => e = .returned (.bool true) ∧ Below w.heap.size w w' := by
  have hc := hc8 y r s y0 y1 r0 r1 s0 s1
  rcases core_says _ _ _ (same8 r s r0 r1 s0 s1) with hf | ⟨hf, ⟨hb0, m', hs0⟩ | ⟨m, m', hb0, hs0, q0, q1, q2⟩⟩
  · exact full8 y r s w r0 r1 s0 s1 hf
  · rw [hb0] at hc
    exact none8 y r s m' w y0 y1 r0 r1 s0 s1 hf hc hs0
  · rw [hb0] at hc
    exact some8 y r s m m' w y0 y1 r0 r1 s0 s1 q0 q1 q2 hf hc hs0

theorem walk8 (y r s : Int) (w : World) (y0 : 0 ≤ y) (y1 : y ≤ 4294967295) :
    Calls Try.prog 8 #[.int .u32 y, .int .i64 r, .int .i64 s] w fun e w' => e = .returned (.bool true) ∧ Below w.heap.size w w' := by
  by_cases h0 : r < 0
  · exact out8_0 y r s w  h0
  by_cases h1 : 63 < r
  · exact out8_1 y r s w (by omega) h1
  by_cases h2 : s < 0
  · exact out8_2 y r s w (by omega) (by omega) h2
  by_cases h3 : 63 < s
  · exact out8_3 y r s w (by omega) (by omega) (by omega) h3
  exact in8 y r s w y0 y1 (by omega) (by omega) (by omega) (by omega)
end Go.Proofs.Ythcboddeannjcaa.Hb
