/- For all arguments, the printed law FnBfx answers true: within the bounds, each of the 16384 cases is told by the kernel; outside, the law's guard answers. No conditions. -/
import Derived.Test.YthcboddeannjcaaPFnBfxx1
namespace Go.Proofs.Ythcboddeannjcaa.Pure
open Go.RowKit Go.Proofs.Ythcboddeannjcaa.PFnBfx Go.Proofs.YthcboddeannjcaaW.PrintWords Go.Proofs.YthcboddeannjcaaW.PrintLast

def bfxCell (a b c d : Nat) : Bool := laws_FnBfx.f 5 a b c d == some true
def bfxAll (a b : Nat) : Bool := (List.range 64).all fun c => (List.range 64).all fun d => bfxCell a b c d
theorem bfx00 : bfxAll 0 0 = true := by kernel_rfl
theorem bfx01 : bfxAll 0 1 = true := by kernel_rfl
theorem bfx10 : bfxAll 1 0 = true := by kernel_rfl
theorem bfx11 : bfxAll 1 1 = true := by kernel_rfl
theorem bfx_in (a b c d : Nat) (h : bfxAll a b = true) (hc : c < 64) (hd : d < 64) : laws_FnBfx.f 5 a b c d = some true := by
  unfold bfxAll at h
  rw [List.all_eq_true] at h
  have h1 := h c (by simpa using hc)
  rw [List.all_eq_true] at h1
  have h2 := h1 d (by simpa using hd)
  simpa [bfxCell] using h2

theorem FnBfx : laws_FnBfx.Pure := by
  intro a b c d _ _ _ _
  refine ⟨5, ?_⟩
  by_cases hin : 0 ≤ a ∧ a ≤ 1 ∧ 0 ≤ b ∧ b ≤ 1 ∧ 0 ≤ c ∧ c ≤ 63 ∧ 0 ≤ d ∧ d ≤ 63
  · obtain ⟨a0, a1, b0, b1, c0, c1, d0, d1⟩ := hin
    obtain ⟨a, rfl⟩ := Int.eq_ofNat_of_zero_le a0
    obtain ⟨b, rfl⟩ := Int.eq_ofNat_of_zero_le b0
    obtain ⟨c, rfl⟩ := Int.eq_ofNat_of_zero_le c0
    obtain ⟨d, rfl⟩ := Int.eq_ofNat_of_zero_le d0
    have ha : a = 0 ∨ a = 1 := by omega
    have hb : b = 0 ∨ b = 1 := by omega
    refine bfx_in a b c d ?_ (by omega) (by omega)
    rcases ha with rfl | rfl <;> rcases hb with rfl | rfl
    · exact bfx00
    · exact bfx01
    · exact bfx10
    · exact bfx11
  · have hj : ∀ x0 x1 x2 x3, laws_FnBfx.j0 5 x0 x1 x2 x3 true = some true := fun _ _ _ _ => by simp only [laws_FnBfx.j0, if_true]
    unfold laws_FnBfx.f
    by_cases h1 : a < 0
    · rw [if_pos h1]; exact hj _ _ _ _
    rw [if_neg h1]
    by_cases h2 : a > 1
    · rw [if_pos h2]; exact hj _ _ _ _
    rw [if_neg h2]
    by_cases h3 : b < 0
    · rw [if_pos h3]; exact hj _ _ _ _
    rw [if_neg h3]
    by_cases h4 : b > 1
    · rw [if_pos h4]; exact hj _ _ _ _
    rw [if_neg h4]
    by_cases h5 : c < 0
    · rw [if_pos h5]; exact hj _ _ _ _
    rw [if_neg h5]
    by_cases h6 : c > 63
    · rw [if_pos h6]; exact hj _ _ _ _
    rw [if_neg h6]
    by_cases h7 : d < 0
    · rw [if_pos h7]; exact hj _ _ _ _
    rw [if_neg h7]
    rw [show decide (d > 63) = true by simp; omega]
    exact hj _ _ _ _

end Go.Proofs.Ythcboddeannjcaa.Pure
