/- What the listed tables give the walks, and the heap in which they lie as their initialisers lay them. -/
import Derived.Test.YtjaobaeacjgbaaaDoorRows
import Derived.ProofKit
import Derived.LaidMore
import Derived.Stop.LaidErr
import Derived.Lib.LaidTab
import Derived.Lib.ItoaNum
import Derived.MakeChecks
namespace Go.Proofs.YtjaobaeacjgbaaaDoor.Txt
open Go.RowKit
def laidAll : List (String × DataW Unit) := [("math/bits.deBruijn32tab", Rows.laid_math_bits_deBruijn32tab), ("math/bits.deBruijn64tab", Rows.laid_math_bits_deBruijn64tab), ("internal/strconv.uint64pow10", Rows.laid_internal_strconv_uint64pow10)]
theorem own : ownKnob Tryd.prog.godebug = none := by kernel_rfl
theorem gPow : Tryd.prog.globalNamed "internal/strconv.uint64pow10" = some 0 := by kernel_rfl
theorem gDeb : Tryd.prog.globalNamed "math/bits.deBruijn64tab" = some 2 := by kernel_rfl
theorem tPow : (Tryd.prog.globals[0]?).map (·.type) = some 53 := by kernel_rfl
theorem tDeb : (Tryd.prog.globals[2]?).map (·.type) = some 59 := by kernel_rfl
def debTab : List Int := [0, 1, 56, 2, 57, 49, 28, 3, 61, 58, 42, 50, 38, 29, 17, 4, 62, 47, 59, 36, 45, 43, 51, 22, 53, 39, 33, 30, 24, 18, 12, 5, 63, 55, 48, 27, 60, 41, 37, 16, 46, 35, 44, 21, 52, 32, 23, 11, 54, 26, 40, 15, 34, 20, 31, 10, 25, 14, 19, 9, 13, 8, 7, 6]
theorem pow_is : (Rows.laid_internal_strconv_uint64pow10 : DataW Unit) = Lib.tabData .u64 Lib.pow10Tab := by kernel_rfl
theorem deb_is : (Rows.laid_math_bits_deBruijn64tab : DataW Unit) = Lib.tabData .u8 debTab := by kernel_rfl
/-- The door's own heap meets the condition. -/
theorem door_met (os : Os) (args : Array Value) : laidMetH Tryd.prog laidAll ((World.doorLaid Tryd.prog 400 os).forCall (fun _ _ => 0) ⟨#[], args, []⟩).memory :=
  laidMetH_of_parts3 (fuel := 8) (laidMet_of_run' 8 (by kernel_rfl) (by kernel_rfl)) (by kernel_rfl) (by kernel_rfl)
/-- The powers of ten lie in their table. -/
theorem pow_of {W : World} (h : laidMetH Tryd.prog laidAll W) : Lib.TabIs Tryd.prog W "internal/strconv.uint64pow10" .u64 Lib.pow10Tab := by
  rw [MakeChecks.laidMetH_plain _ _ _ (by kernel_rfl)] at h
  have h2 := laidMet.tail (laidMet.tail h)
  rw [pow_is] at h2
  exact Lib.tabIs_of_head gPow tPow Tryd.underlying53 Tryd.underlying45 (by kernel_rfl) (by kernel_rfl) h2
/-- The table of trailing zeros holds its numbers. -/
theorem deb_of {W : World} (h : laidMetH Tryd.prog laidAll W) : Lib.TabIs Tryd.prog W "math/bits.deBruijn64tab" .u8 debTab := by
  rw [MakeChecks.laidMetH_plain _ _ _ (by kernel_rfl)] at h
  have h2 := laidMet.tail h
  unfold laidAll at h2
  rw [deb_is] at h2
  exact Lib.tabIs_of_head gDeb tDeb Tryd.underlying59 Tryd.underlying5 (by kernel_rfl) (by kernel_rfl) h2
end Go.Proofs.YtjaobaeacjgbaaaDoor.Txt
