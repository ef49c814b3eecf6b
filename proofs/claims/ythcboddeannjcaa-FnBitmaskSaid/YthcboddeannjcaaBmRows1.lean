/- For N = 1, every immr and imms: the code and the reference tell the same, told by the kernel. -/
import Derived.Test.YthcboddeannjcaaBmDefs
namespace Go.Proofs.Ythcboddeannjcaa.Hb
theorem rows1_0 : rows 1 0 = true := by kernel_rfl
theorem rows1_16 : rows 1 16 = true := by kernel_rfl
theorem rows1_32 : rows 1 32 = true := by kernel_rfl
theorem rows1_48 : rows 1 48 = true := by kernel_rfl

end Go.Proofs.Ythcboddeannjcaa.Hb
