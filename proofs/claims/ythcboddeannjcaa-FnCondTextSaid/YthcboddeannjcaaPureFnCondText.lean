/- For all values, the printed law FnCondText answers true: each of the 14 values by reckoning; outside, the law's guard answers. No conditions. -/
import Derived.Test.YthcboddeannjcaaPFnCondTextx2
namespace Go.Proofs.Ythcboddeannjcaa.Pure
open Go.RowKit Go.Proofs.Ythcboddeannjcaa.PFnCondText Go.Proofs.YthcboddeannjcaaW.PrintWords Go.Proofs.YthcboddeannjcaaW.PrintLast

theorem cond0 : laws_FnCondText.f 0 = some true := by kernel_rfl
theorem cond1 : laws_FnCondText.f 1 = some true := by kernel_rfl
theorem cond2 : laws_FnCondText.f 2 = some true := by kernel_rfl
theorem cond3 : laws_FnCondText.f 3 = some true := by kernel_rfl
theorem cond4 : laws_FnCondText.f 4 = some true := by kernel_rfl
theorem cond5 : laws_FnCondText.f 5 = some true := by kernel_rfl
theorem cond6 : laws_FnCondText.f 6 = some true := by kernel_rfl
theorem cond7 : laws_FnCondText.f 7 = some true := by kernel_rfl
theorem cond8 : laws_FnCondText.f 8 = some true := by kernel_rfl
theorem cond9 : laws_FnCondText.f 9 = some true := by kernel_rfl
theorem cond10 : laws_FnCondText.f 10 = some true := by kernel_rfl
theorem cond11 : laws_FnCondText.f 11 = some true := by kernel_rfl
theorem cond12 : laws_FnCondText.f 12 = some true := by kernel_rfl
theorem cond13 : laws_FnCondText.f 13 = some true := by kernel_rfl

theorem FnCondText : laws_FnCondText.Pure := by
  intro a _
  by_cases h1 : a < 0
  · unfold laws_FnCondText.f
    simp only [Option.bind_some]
    rw [if_pos h1]
  by_cases h2 : a > 13
  · unfold laws_FnCondText.f
    simp only [Option.bind_some]
    rw [if_neg h1, if_pos h2]
  have h : a = 0 ∨ a = 1 ∨ a = 2 ∨ a = 3 ∨ a = 4 ∨ a = 5 ∨ a = 6 ∨ a = 7 ∨ a = 8 ∨ a = 9 ∨ a = 10 ∨ a = 11 ∨ a = 12 ∨ a = 13 := by omega
  rcases h with rfl | rfl | rfl | rfl | rfl | rfl | rfl | rfl | rfl | rfl | rfl | rfl | rfl | rfl
  · exact cond0
  · exact cond1
  · exact cond2
  · exact cond3
  · exact cond4
  · exact cond5
  · exact cond6
  · exact cond7
  · exact cond8
  · exact cond9
  · exact cond10
  · exact cond11
  · exact cond12
  · exact cond13

end Go.Proofs.Ythcboddeannjcaa.Pure
