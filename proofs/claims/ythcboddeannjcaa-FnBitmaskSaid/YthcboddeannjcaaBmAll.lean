/- For every N, immr and imms: the code and the reference tell the same. -/
import Derived.Test.YthcboddeannjcaaBmRows0
import Derived.Test.YthcboddeannjcaaBmRows1
namespace Go.Proofs.Ythcboddeannjcaa.Hb
theorem same_of_rows (n a r s : Nat) (h : rows n a = true) (hr : r < 16) (hs : s < 64) : same n (a + r) s = true := by
  unfold rows at h
  rw [List.all_eq_true] at h
  have h1 := h r (by simpa using hr)
  unfold row at h1
  rw [List.all_eq_true] at h1
  exact h1 s (by simpa using hs)
theorem same_all (n r s : Nat) (hn : n < 2) (hr : r < 64) (hs : s < 64) : same n r s = true := by
  have hn' : n = 0 ∨ n = 1 := by omega
  obtain ⟨a, b, rfl, ha, hb⟩ : ∃ a b, r = a + b ∧ (a = 0 ∨ a = 16 ∨ a = 32 ∨ a = 48) ∧ b < 16 := ⟨16 * (r / 16), r % 16, by omega, by omega, by omega⟩
  refine same_of_rows n a b s ?_ hb hs
  rcases hn' with rfl | rfl <;> rcases ha with rfl | rfl | rfl | rfl
  · exact rows0_0
  · exact rows0_16
  · exact rows0_32
  · exact rows0_48
  · exact rows1_0
  · exact rows1_16
  · exact rows1_32
  · exact rows1_48
end Go.Proofs.Ythcboddeannjcaa.Hb
