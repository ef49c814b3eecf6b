/- The walk of FnBitmask. -/
import Derived.Test.YthcboddeannjcaaBm
import Derived.Test.YthcboddeannjcaaBmDefs
import Derived.Test.YthcboddeannjcaaBmWord
import Derived.Test.YthcboddeannjcaaBmAll
namespace Go.Proofs.Ythcboddeannjcaa.Hb
open Go.RowKit Go.Proofs.Ythcboddeannjcaa.PFnBitmask
theorem hidden {p : Prop} (h : p) : Hid p := h
theorem ret_bool {a b : Bool} (h : a = b) : Ending.returned (.bool a) = .returned (.bool b) := by rw [h]
theorem out7_0 (y n r s : Int) (w : World)  (_ : n < 0) :
    Calls Try.prog 7 #[.int .u32 y, .int .i64 n, .int .i64 r, .int .i64 s] w fun e w' => e = .returned (.bool true) ∧ Below w.heap.size w w' := by
  go_enter Try.func7, Try.ntmps7
  go_wp2
  go_ret
  exact ⟨rfl, Below.refl _ _⟩
theorem out7_1 (y n r s : Int) (w : World) (_ : 0 ≤ n) (_ : 1 < n) :
    Calls Try.prog 7 #[.int .u32 y, .int .i64 n, .int .i64 r, .int .i64 s] w fun e w' => e = .returned (.bool true) ∧ Below w.heap.size w w' := by
  go_enter Try.func7, Try.ntmps7
  go_wp2
  go_ret
  exact ⟨rfl, Below.refl _ _⟩
theorem out7_2 (y n r s : Int) (w : World) (_ : 0 ≤ n) (_ : n ≤ 1) (_ : r < 0) :
    Calls Try.prog 7 #[.int .u32 y, .int .i64 n, .int .i64 r, .int .i64 s] w fun e w' => e = .returned (.bool true) ∧ Below w.heap.size w w' := by
  go_enter Try.func7, Try.ntmps7
  go_wp2
  go_ret
  exact ⟨rfl, Below.refl _ _⟩
theorem out7_3 (y n r s : Int) (w : World) (_ : 0 ≤ n) (_ : n ≤ 1) (_ : 0 ≤ r) (_ : 63 < r) :
    Calls Try.prog 7 #[.int .u32 y, .int .i64 n, .int .i64 r, .int .i64 s] w fun e w' => e = .returned (.bool true) ∧ Below w.heap.size w w' := by
  go_enter Try.func7, Try.ntmps7
  go_wp2
  go_ret
  exact ⟨rfl, Below.refl _ _⟩
theorem out7_4 (y n r s : Int) (w : World) (_ : 0 ≤ n) (_ : n ≤ 1) (_ : 0 ≤ r) (_ : r ≤ 63) (_ : s < 0) :
    Calls Try.prog 7 #[.int .u32 y, .int .i64 n, .int .i64 r, .int .i64 s] w fun e w' => e = .returned (.bool true) ∧ Below w.heap.size w w' := by
  go_enter Try.func7, Try.ntmps7
  go_wp2
  go_ret
  exact ⟨rfl, Below.refl _ _⟩
theorem out7_5 (y n r s : Int) (w : World) (_ : 0 ≤ n) (_ : n ≤ 1) (_ : 0 ≤ r) (_ : r ≤ 63) (_ : 0 ≤ s) (_ : 63 < s) :
    Calls Try.prog 7 #[.int .u32 y, .int .i64 n, .int .i64 r, .int .i64 s] w fun e w' => e = .returned (.bool true) ∧ Below w.heap.size w w' := by
  go_enter Try.func7, Try.ntmps7
  go_wp2
  go_ret
  exact ⟨rfl, Below.refl _ _⟩
theorem full7 (y n r s : Int) (w : World) (n0 : 0 ≤ n) (n1 : n ≤ 1) (r0 : 0 ≤ r) (r1 : r ≤ 63) (s0 : 0 ≤ s) (s1 : s ≤ 63) (hf : spec_Full.f 7 n s = some true) :
    Calls Try.prog 7 #[.int .u32 y, .int .i64 n, .int .i64 r, .int .i64 s] w fun e w' => e = .returned (.bool true) ∧ Below w.heap.size w w' := by
  have HF : Hid (spec_Full.f 7 n s = some true) := hidden hf
  clear hf
  go_enter Try.func7, Try.ntmps7
  go_wp2_with (go_at_call 17; refine (spec_Full.calls 7 n s _ _ HF.out).mono ?_; rintro e w' ⟨rfl, hb⟩)
  go_ret
  exact ⟨rfl, hb⟩
theorem none7 (y n r s : Int) (m' : Int) (w : World) (_y0 : 0 ≤ y) (_y1 : y ≤ 4294967295) (n0 : 0 ≤ n) (n1 : n ≤ 1) (r0 : 0 ≤ r) (r1 : r ≤ 63) (s0 : 0 ≤ s) (s1 : s ≤ 63) (hf : spec_Full.f 7 n s = some false)
    (hc : ∀ w, Calls Try.prog 18 #[.int .u32 (Go.bits .or .u32 (Go.bits .or .u32 (Go.bits .or .u32 (Go.bits .andNot .u32 y 8387584) (n * 4194304)) (r * 65536)) (s * 1024)), .int .i64 64] w fun e w' => e = .returned (.tuple #[.int .u64 0, .bool false]) ∧ Below w.heap.size w w') (hs : spec_Bitmask.f 80 n r s = some (m', false)) :
    Calls Try.prog 7 #[.int .u32 y, .int .i64 n, .int .i64 r, .int .i64 s] w fun e w' => e = .returned (.bool true) ∧ Below w.heap.size w w' := by
  have HF : Hid (spec_Full.f 7 n s = some false) := hidden hf
  have HC : Hid (∀ w, Calls Try.prog 18 #[.int .u32 (Go.bits .or .u32 (Go.bits .or .u32 (Go.bits .or .u32 (Go.bits .andNot .u32 y 8387584) (n * 4194304)) (r * 65536)) (s * 1024)), .int .i64 64] w fun e w' => e = .returned (.tuple #[.int .u64 0, .bool false]) ∧ Below w.heap.size w w') := hidden hc
  have HS : Hid (spec_Bitmask.f 80 n r s = some (m', false)) := hidden hs
  clear hf hc hs
  go_enter Try.func7, Try.ntmps7
  go_wp2_with (first | (go_at_call 17; refine (spec_Full.calls 7 n s _ _ HF.out).mono ?_; rintro e w1 ⟨rfl, hb1⟩) | (go_at_call 18; refine (HC.out _).mono ?_; rintro e w2 ⟨rfl, hb2⟩) | (go_at_call 19; refine (spec_Bitmask.calls 80 n r s _ _ _ HS.out).mono ?_; rintro e w3 ⟨rfl, hb3⟩))
  go_ret
  exact ⟨ret_bool (by simp), hb1.trans ((hb2.mono (hb1.size)).trans (hb3.mono (Nat.le_trans hb1.size hb2.size)))⟩
theorem some7 (y n r s : Int) (m : Int) (w : World) (_y0 : 0 ≤ y) (_y1 : y ≤ 4294967295) (n0 : 0 ≤ n) (n1 : n ≤ 1) (r0 : 0 ≤ r) (r1 : r ≤ 63) (s0 : 0 ≤ s) (s1 : s ≤ 63) (hf : spec_Full.f 7 n s = some false)
    (hc : ∀ w, Calls Try.prog 18 #[.int .u32 (Go.bits .or .u32 (Go.bits .or .u32 (Go.bits .or .u32 (Go.bits .andNot .u32 y 8387584) (n * 4194304)) (r * 65536)) (s * 1024)), .int .i64 64] w fun e w' => e = .returned (.tuple #[.int .u64 m, .bool true]) ∧ Below w.heap.size w w') (hs : spec_Bitmask.f 80 n r s = some (m, true)) :
    Calls Try.prog 7 #[.int .u32 y, .int .i64 n, .int .i64 r, .int .i64 s] w fun e w' => e = .returned (.bool true) ∧ Below w.heap.size w w' := by
  have HF : Hid (spec_Full.f 7 n s = some false) := hidden hf
  have HC : Hid (∀ w, Calls Try.prog 18 #[.int .u32 (Go.bits .or .u32 (Go.bits .or .u32 (Go.bits .or .u32 (Go.bits .andNot .u32 y 8387584) (n * 4194304)) (r * 65536)) (s * 1024)), .int .i64 64] w fun e w' => e = .returned (.tuple #[.int .u64 m, .bool true]) ∧ Below w.heap.size w w') := hidden hc
  have HS : Hid (spec_Bitmask.f 80 n r s = some (m, true)) := hidden hs
  clear hf hc hs
  go_enter Try.func7, Try.ntmps7
  go_wp2_with (first | (go_at_call 17; refine (spec_Full.calls 7 n s _ _ HF.out).mono ?_; rintro e w1 ⟨rfl, hb1⟩) | (go_at_call 18; refine (HC.out _).mono ?_; rintro e w2 ⟨rfl, hb2⟩) | (go_at_call 19; refine (spec_Bitmask.calls 80 n r s _ _ _ HS.out).mono ?_; rintro e w3 ⟨rfl, hb3⟩))
  go_ret
  exact ⟨ret_bool (by simp), hb1.trans ((hb2.mono (hb1.size)).trans (hb3.mono (Nat.le_trans hb1.size hb2.size)))⟩

theorem in7 (y n r s : Int) (w : World) (y0 : 0 ≤ y) (y1 : y ≤ 4294967295) (n0 : 0 ≤ n) (n1 : n ≤ 1) (r0 : 0 ≤ r) (r1 : r ≤ 63) (s0 : 0 ≤ s) (s1 : s ≤ 63) :
    Calls Try.prog 7 #[.int .u32 y, .int .i64 n, .int .i64 r, .int .i64 s] w fun e w' => e = .returned (.bool true) ∧ Below w.heap.size w w' := by
  obtain ⟨f0, f1, fn, fs, fr⟩ := word_fields y n r s y0 y1 n0 n1 r0 r1 s0 s1
  have hc : ∀ w, Calls Try.prog 18 #[.int .u32 (word y n r s), .int .i64 64] w fun e w' => e = .returned (pairV (hb 64 n s r)) ∧ Below w.heap.size w w' :=
    fun w => bm_any _ 64 _ w (by omega) (by omega) (hb64 _ n s r w f0 f1 s0 s1 r0 r1 fn fs fr)
  have hsame : same n.toNat r.toNat s.toNat = true := same_all _ _ _ (by omega) (by omega) (by omega)
  unfold same at hsame
  rw [Int.toNat_of_nonneg n0, Int.toNat_of_nonneg r0, Int.toNat_of_nonneg s0] at hsame
  split at hsame
  · rename_i hf
    exact full7 y n r s w n0 n1 r0 r1 s0 s1 hf
  · rename_i hf
    split at hsame
    · rename_i m' hb0 hs0
      rw [hb0] at hc
      exact none7 y n r s m' w y0 y1 n0 n1 r0 r1 s0 s1 hf hc hs0
    · rename_i m m' hb0 hs0
      rw [hb0] at hc
      obtain rfl : m = m' := by simpa using hsame
      exact some7 y n r s m w y0 y1 n0 n1 r0 r1 s0 s1 hf hc hs0
    · exact absurd hsame (by simp)
  · exact absurd hsame (by simp)

theorem walk7 (y n r s : Int) (w : World) (y0 : 0 ≤ y) (y1 : y ≤ 4294967295) :
    Calls Try.prog 7 #[.int .u32 y, .int .i64 n, .int .i64 r, .int .i64 s] w fun e w' => e = .returned (.bool true) ∧ Below w.heap.size w w' := by
  by_cases h0 : n < 0
  · exact out7_0 y n r s w  h0
  by_cases h1 : 1 < n
  · exact out7_1 y n r s w (by omega) h1
  by_cases h2 : r < 0
  · exact out7_2 y n r s w (by omega) (by omega) h2
  by_cases h3 : 63 < r
  · exact out7_3 y n r s w (by omega) (by omega) (by omega) h3
  by_cases h4 : s < 0
  · exact out7_4 y n r s w (by omega) (by omega) (by omega) (by omega) h4
  by_cases h5 : 63 < s
  · exact out7_5 y n r s w (by omega) (by omega) (by omega) (by omega) (by omega) h5
  exact in7 y n r s w y0 y1 (by omega) (by omega) (by omega) (by omega) (by omega) (by omega)
end Go.Proofs.Ythcboddeannjcaa.Hb
