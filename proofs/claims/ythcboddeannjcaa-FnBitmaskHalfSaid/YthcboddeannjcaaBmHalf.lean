/- For 32 bits, every immr and imms: the code and the reference tell the same lower half, told by the kernel. -/
import Derived.Test.YthcboddeannjcaaBmDefs
namespace Go.Proofs.Ythcboddeannjcaa.Hb
theorem rowsHalf_0 : rowsHalf 0 = true := by kernel_rfl
theorem rowsHalf_16 : rowsHalf 16 = true := by kernel_rfl
theorem rowsHalf_32 : rowsHalf 32 = true := by kernel_rfl
theorem rowsHalf_48 : rowsHalf 48 = true := by kernel_rfl

theorem same_of_rowsHalf (a r s : Nat) (h : rowsHalf a = true) (hr : r < 16) (hs : s < 64) : sameHalf (a + r) s = true := by
  unfold rowsHalf at h
  rw [List.all_eq_true] at h
  have h1 := h r (by simpa using hr)
  unfold rowHalf at h1
  rw [List.all_eq_true] at h1
  exact h1 s (by simpa using hs)

theorem sameHalf_all (r s : Nat) (hr : r < 64) (hs : s < 64) : sameHalf r s = true := by
  obtain ⟨a, b, rfl, ha, hb⟩ : ∃ a b, r = a + b ∧ (a = 0 ∨ a = 16 ∨ a = 32 ∨ a = 48) ∧ b < 16 := ⟨16 * (r / 16), r % 16, by omega, by omega, by omega⟩
  refine same_of_rowsHalf a b s ?_ hb hs
  rcases ha with rfl | rfl | rfl | rfl
  · exact rowsHalf_0
  · exact rowsHalf_16
  · exact rowsHalf_32
  · exact rowsHalf_48
end Go.Proofs.Ythcboddeannjcaa.Hb
