/- FnCodeText's walk under the row's condition: the table of trailing zeros lies as its initialiser lays it. -/
import Derived.Test.YtjaobaeacjgbaaaDoorHex
import Derived.Test.YtjaobaeacjgbaaaDoorLaid
namespace Go.Proofs.YtjaobaeacjgbaaaDoor.Hex
open Go.RowKit Go.Proofs.YtjaobaeacjgbaaaDoor.Txt
theorem four_of {W : World} (h : laidMetH Tryd.prog laidAll W) : Four W.heap.size W := by
  intro w' hb
  have ht := Lib.tabBelow_of_tabIs (deb_of h) w' hb
  exact ht.cell gDeb 15 (by decide)
end Go.Proofs.YtjaobaeacjgbaaaDoor.Hex
