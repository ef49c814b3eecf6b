/-
  DERIVED. GIVEN WITH THE SEED: THE CARDS: each row of YtjaobaeacjgbaaaDoorRows.lean that lists a variable, with what it lists TIED to the program's text (the seventh form; the later family's looks); each row that meets fmt, with fmt's text TOLD by the authors' own Lean function (tested against real Go, not proved from fmt's source: count such statements apart). THE CARD IS WHAT COUNTS. Prove the row's statement (the work); the ties are given (YtjaobaeacjgbaaaDoorTie.lean); close each card by the builder's one call (the guide's Derived/Test/ToyasCard.lean, 'card_holds'). Laid BY PROGRAM, IN A SANDBOX (cutbox-door.mjs). By AI agents, Wed Nov 11 2026. No macro, syntax, notation, axiom, sorry.
-/
import Derived.Test.YtjaobaeacjgbaaaDoorRows
import GoSem.ClaimSeven
namespace Go.Proofs.YtjaobaeacjgbaaaDoor
namespace Rows

/-- THE TIED CARD OF 'laws.FnOffsetText'. -/
def fnOffsetTextCard : Claim7 := { stood := { row := fnOffsetTextRow, standIns := [], harness := (true, "c528631841b04eb35f13628dc03a5ca77cf491a4b9420b5ce41bd54e3010fde5"), looks := false }, kinds := [], alts := [], laidByText := true, laidKinds := [.data, .data, .data], laidTests := true, laidLooks := .later }
def FnOffsetTextCardSaid : Prop := Claim7.holds Tryd.pinned (.plain (OpenSpec.ofChange fnOffsetTextSpec)) fnOffsetTextCard

/-- THE TIED CARD OF 'laws.FnCodeText'. -/
def fnCodeTextCard : Claim7 := { stood := { row := fnCodeTextRow, standIns := [], harness := (true, "c528631841b04eb35f13628dc03a5ca77cf491a4b9420b5ce41bd54e3010fde5"), looks := false }, kinds := [], alts := [], laidByText := true, laidKinds := [.data, .data, .data], laidTests := true, laidLooks := .later }
def FnCodeTextCardSaid : Prop := Claim7.holds Tryd.pinned (.plain (OpenSpec.ofChange fnCodeTextSpec)) fnCodeTextCard

/-- THE TIED CARD OF 'laws.FnFlagText'. -/
def fnFlagTextCard : Claim7 := { stood := { row := fnFlagTextRow, standIns := [], harness := (true, "c528631841b04eb35f13628dc03a5ca77cf491a4b9420b5ce41bd54e3010fde5"), looks := false }, kinds := [], alts := [], laidByText := true, laidKinds := [.data, .data, .data], laidTests := true, laidLooks := .later }
def FnFlagTextCardSaid : Prop := Claim7.holds Tryd.pinned (.plain (OpenSpec.ofChange fnFlagTextSpec)) fnFlagTextCard

/-- THE TIED CARD OF 'laws.FnSimmText'. -/
def fnSimmTextCard : Claim7 := { stood := { row := fnSimmTextRow, standIns := [], harness := (true, "c528631841b04eb35f13628dc03a5ca77cf491a4b9420b5ce41bd54e3010fde5"), looks := false }, kinds := [], alts := [], laidByText := true, laidKinds := [.data, .data, .data], laidTests := true, laidLooks := .later }
def FnSimmTextCardSaid : Prop := Claim7.holds Tryd.pinned (.plain (OpenSpec.ofChange fnSimmTextSpec)) fnSimmTextCard

/-- THE TIED CARD OF 'laws.FnUimmText'. -/
def fnUimmTextCard : Claim7 := { stood := { row := fnUimmTextRow, standIns := [], harness := (true, "c528631841b04eb35f13628dc03a5ca77cf491a4b9420b5ce41bd54e3010fde5"), looks := false }, kinds := [], alts := [], laidByText := true, laidKinds := [.data, .data, .data], laidTests := true, laidLooks := .later }
def FnUimmTextCardSaid : Prop := Claim7.holds Tryd.pinned (.plain (OpenSpec.ofChange fnUimmTextSpec)) fnUimmTextCard

/-- THE TIED CARD OF 'laws.FnRegText'. -/
def fnRegTextCard : Claim7 := { stood := { row := fnRegTextRow, standIns := [], harness := (true, "c528631841b04eb35f13628dc03a5ca77cf491a4b9420b5ce41bd54e3010fde5"), looks := false }, kinds := [], alts := [], laidByText := true, laidKinds := [.data, .data, .data], laidTests := true, laidLooks := .later }
def FnRegTextCardSaid : Prop := Claim7.holds Tryd.pinned (.plain (OpenSpec.ofChange fnRegTextSpec)) fnRegTextCard

/-- THE SECOND FORM's CARD OF 'laws.FnOffsetText'. -/
def fnOffsetTextUptoCard : Claim7 := { stood := { row := fnOffsetTextUptoRow, standIns := [], harness := (true, "c528631841b04eb35f13628dc03a5ca77cf491a4b9420b5ce41bd54e3010fde5"), looks := false }, kinds := [], alts := [], laidByText := true, laidKinds := [.data, .data, .data], laidTests := true, laidLooks := .later }
def FnOffsetTextUptoCardSaid : Prop := Claim7.holds Tryd.pinned (.plain (OpenSpec.upto fnOffsetTextSpec)) fnOffsetTextUptoCard

/-- THE SECOND FORM's CARD OF 'laws.FnCodeText'. -/
def fnCodeTextUptoCard : Claim7 := { stood := { row := fnCodeTextUptoRow, standIns := [], harness := (true, "c528631841b04eb35f13628dc03a5ca77cf491a4b9420b5ce41bd54e3010fde5"), looks := false }, kinds := [], alts := [], laidByText := true, laidKinds := [.data, .data, .data], laidTests := true, laidLooks := .later }
def FnCodeTextUptoCardSaid : Prop := Claim7.holds Tryd.pinned (.plain (OpenSpec.upto fnCodeTextSpec)) fnCodeTextUptoCard

/-- THE SECOND FORM's CARD OF 'laws.FnFlagText'. -/
def fnFlagTextUptoCard : Claim7 := { stood := { row := fnFlagTextUptoRow, standIns := [], harness := (true, "c528631841b04eb35f13628dc03a5ca77cf491a4b9420b5ce41bd54e3010fde5"), looks := false }, kinds := [], alts := [], laidByText := true, laidKinds := [.data, .data, .data], laidTests := true, laidLooks := .later }
def FnFlagTextUptoCardSaid : Prop := Claim7.holds Tryd.pinned (.plain (OpenSpec.upto fnFlagTextSpec)) fnFlagTextUptoCard

/-- THE SECOND FORM's CARD OF 'laws.FnSimmText'. -/
def fnSimmTextUptoCard : Claim7 := { stood := { row := fnSimmTextUptoRow, standIns := [], harness := (true, "c528631841b04eb35f13628dc03a5ca77cf491a4b9420b5ce41bd54e3010fde5"), looks := false }, kinds := [], alts := [], laidByText := true, laidKinds := [.data, .data, .data], laidTests := true, laidLooks := .later }
def FnSimmTextUptoCardSaid : Prop := Claim7.holds Tryd.pinned (.plain (OpenSpec.upto fnSimmTextSpec)) fnSimmTextUptoCard

/-- THE SECOND FORM's CARD OF 'laws.FnUimmText'. -/
def fnUimmTextUptoCard : Claim7 := { stood := { row := fnUimmTextUptoRow, standIns := [], harness := (true, "c528631841b04eb35f13628dc03a5ca77cf491a4b9420b5ce41bd54e3010fde5"), looks := false }, kinds := [], alts := [], laidByText := true, laidKinds := [.data, .data, .data], laidTests := true, laidLooks := .later }
def FnUimmTextUptoCardSaid : Prop := Claim7.holds Tryd.pinned (.plain (OpenSpec.upto fnUimmTextSpec)) fnUimmTextUptoCard

/-- THE SECOND FORM's CARD OF 'laws.FnRegText'. -/
def fnRegTextUptoCard : Claim7 := { stood := { row := fnRegTextUptoRow, standIns := [], harness := (true, "c528631841b04eb35f13628dc03a5ca77cf491a4b9420b5ce41bd54e3010fde5"), looks := false }, kinds := [], alts := [], laidByText := true, laidKinds := [.data, .data, .data], laidTests := true, laidLooks := .later }
def FnRegTextUptoCardSaid : Prop := Claim7.holds Tryd.pinned (.plain (OpenSpec.upto fnRegTextSpec)) fnRegTextUptoCard
end Rows
end Go.Proofs.YtjaobaeacjgbaaaDoor
