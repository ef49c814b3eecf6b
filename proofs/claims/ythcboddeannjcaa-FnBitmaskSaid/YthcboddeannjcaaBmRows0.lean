/- For N = 0, every immr and imms: the code and the reference tell the same, told by the kernel. -/
import Derived.Test.YthcboddeannjcaaBmDefs
namespace Go.Proofs.Ythcboddeannjcaa.Hb
theorem rows0_0 : rows 0 0 = true := by kernel_rfl
theorem rows0_16 : rows 0 16 = true := by kernel_rfl
theorem rows0_32 : rows 0 32 = true := by kernel_rfl
theorem rows0_48 : rows 0 48 = true := by kernel_rfl

end Go.Proofs.Ythcboddeannjcaa.Hb
