/-
  No cell of these rows narrows 'for every input' (looked for: loops, veiled, ifaces, maps, wideKeys, modest, calm, conditions, laid).
  DERIVED. THE GIVEN ROWS OF THIS SEAT. 7 by the template 'for every input the law returns true; each argument reads behind the call as it read before'; 0 by the template 'total and deterministic' (their statements: YthcboddeannjcaaTotals.lean).
  GIVEN WITH THE SEED: the statements are not yours to turn. If you find one false, say at which input.
  Laid BY PROGRAM, IN A SANDBOX (cutbox-rows.mjs): the forced cells as the released guide's own fill.sh prints them over the translation 88ae19ce90164639… (all of the seat's roots in one cut). By AI agents, Wed Nov 11 2026. No macro, syntax, notation, axiom, sorry.
-/
import Derived.Test.YthcboddeannjcaaChecked
import GoSem.Claim
import GoSem.ClaimJoined
import GoSem.ClaimMapViews
import Derived.JoinedTies
import Derived.KernelRfl
namespace Go.Proofs.Ythcboddeannjcaa
/- THE CELL 'sum', in the pinned program and in every row, IS THE sha256 OF THE DUMP (.gsa) THAT YthcboddeannjcaaProg.lean LOADS. Nothing in Lean hashes anything: it is a label: what it is worth is what the hold of that sum in a sandbox is worth. -/
noncomputable def Try.pinned : Pinned := { name := "ythcboddeannjcaa", sum := "88ae19ce90164639353e031614c14e4716870e225ce0452df8803fcdf956b67f", checked := Try.checked }
namespace Rows
def none {H : Type} : Left H := { results := [], args := [] }

/-- 'laws.FnExtractBit': WHATEVER THE INPUT: true; the input reads as it did. -/
def fnExtractBitSpec : ChangeSpec := { name := "fnExtractBit", fn := fun _ => fun
  | [d1, d2] => { results := [.lit (.bool true)], args := [d1, d2] }
  | _ => none }
def fnExtractBitRow : OpenClaim := { program := "ythcboddeannjcaa", sum := "88ae19ce90164639353e031614c14e4716870e225ce0452df8803fcdf956b67f", func := "loop.example/pub-g03337/laws.FnExtractBit", spec := "fnExtractBit", apart := false }
def FnExtractBitSaid : Prop := fnExtractBitRow.holds Try.pinned (OpenSpec.ofChange fnExtractBitSpec)

/-- ITS FALSE NEIGHBOUR: 'it returns false'. Refute it at one input. -/
def fnExtractBitWrong : ChangeSpec := { name := "fnExtractBit", fn := fun _ => fun
  | [d1, d2] => { results := [.lit (.bool false)], args := [d1, d2] }
  | _ => none }
def FnExtractBitWrongFalsely : Prop := fnExtractBitRow.holds Try.pinned (OpenSpec.ofChange fnExtractBitWrong)

/-- 'laws.FnBitCount': WHATEVER THE INPUT: true; the input reads as it did. -/
def fnBitCountSpec : ChangeSpec := { name := "fnBitCount", fn := fun _ => fun
  | [d] => { results := [.lit (.bool true)], args := [d] }
  | _ => none }
def fnBitCountRow : OpenClaim := { program := "ythcboddeannjcaa", sum := "88ae19ce90164639353e031614c14e4716870e225ce0452df8803fcdf956b67f", func := "loop.example/pub-g03337/laws.FnBitCount", spec := "fnBitCount", apart := false }
def FnBitCountSaid : Prop := fnBitCountRow.holds Try.pinned (OpenSpec.ofChange fnBitCountSpec)

/-- ITS FALSE NEIGHBOUR: 'it returns false'. Refute it at one input. -/
def fnBitCountWrong : ChangeSpec := { name := "fnBitCount", fn := fun _ => fun
  | [d] => { results := [.lit (.bool false)], args := [d] }
  | _ => none }
def FnBitCountWrongFalsely : Prop := fnBitCountRow.holds Try.pinned (OpenSpec.ofChange fnBitCountWrong)

/-- 'laws.FnBfx': WHATEVER THE INPUT: true; the input reads as it did. -/
def fnBfxSpec : ChangeSpec := { name := "fnBfx", fn := fun _ => fun
  | [d1, d2, d3, d4] => { results := [.lit (.bool true)], args := [d1, d2, d3, d4] }
  | _ => none }
def fnBfxRow : OpenClaim := { program := "ythcboddeannjcaa", sum := "88ae19ce90164639353e031614c14e4716870e225ce0452df8803fcdf956b67f", func := "loop.example/pub-g03337/laws.FnBfx", spec := "fnBfx", apart := false }
def FnBfxSaid : Prop := fnBfxRow.holds Try.pinned (OpenSpec.ofChange fnBfxSpec)

/-- ITS FALSE NEIGHBOUR: 'it returns false'. Refute it at one input. -/
def fnBfxWrong : ChangeSpec := { name := "fnBfx", fn := fun _ => fun
  | [d1, d2, d3, d4] => { results := [.lit (.bool false)], args := [d1, d2, d3, d4] }
  | _ => none }
def FnBfxWrongFalsely : Prop := fnBfxRow.holds Try.pinned (OpenSpec.ofChange fnBfxWrong)

/-- 'laws.FnMoveWide': WHATEVER THE INPUT: true; the input reads as it did. -/
def fnMoveWideSpec : ChangeSpec := { name := "fnMoveWide", fn := fun _ => fun
  | [d1, d2, d3, d4] => { results := [.lit (.bool true)], args := [d1, d2, d3, d4] }
  | _ => none }
def fnMoveWideRow : OpenClaim := { program := "ythcboddeannjcaa", sum := "88ae19ce90164639353e031614c14e4716870e225ce0452df8803fcdf956b67f", func := "loop.example/pub-g03337/laws.FnMoveWide", spec := "fnMoveWide", apart := false }
def FnMoveWideSaid : Prop := fnMoveWideRow.holds Try.pinned (OpenSpec.ofChange fnMoveWideSpec)

/-- ITS FALSE NEIGHBOUR: 'it returns false'. Refute it at one input. -/
def fnMoveWideWrong : ChangeSpec := { name := "fnMoveWide", fn := fun _ => fun
  | [d1, d2, d3, d4] => { results := [.lit (.bool false)], args := [d1, d2, d3, d4] }
  | _ => none }
def FnMoveWideWrongFalsely : Prop := fnMoveWideRow.holds Try.pinned (OpenSpec.ofChange fnMoveWideWrong)

/-- 'laws.FnBitmask': WHATEVER THE INPUT: true; the input reads as it did. -/
def fnBitmaskSpec : ChangeSpec := { name := "fnBitmask", fn := fun _ => fun
  | [d1, d2, d3, d4] => { results := [.lit (.bool true)], args := [d1, d2, d3, d4] }
  | _ => none }
def fnBitmaskRow : OpenClaim := { program := "ythcboddeannjcaa", sum := "88ae19ce90164639353e031614c14e4716870e225ce0452df8803fcdf956b67f", func := "loop.example/pub-g03337/laws.FnBitmask", spec := "fnBitmask", apart := false }
def FnBitmaskSaid : Prop := fnBitmaskRow.holds Try.pinned (OpenSpec.ofChange fnBitmaskSpec)

/-- ITS FALSE NEIGHBOUR: 'it returns false'. Refute it at one input. -/
def fnBitmaskWrong : ChangeSpec := { name := "fnBitmask", fn := fun _ => fun
  | [d1, d2, d3, d4] => { results := [.lit (.bool false)], args := [d1, d2, d3, d4] }
  | _ => none }
def FnBitmaskWrongFalsely : Prop := fnBitmaskRow.holds Try.pinned (OpenSpec.ofChange fnBitmaskWrong)

/-- 'laws.FnBitmaskHalf': WHATEVER THE INPUT: true; the input reads as it did. -/
def fnBitmaskHalfSpec : ChangeSpec := { name := "fnBitmaskHalf", fn := fun _ => fun
  | [d1, d2, d3] => { results := [.lit (.bool true)], args := [d1, d2, d3] }
  | _ => none }
def fnBitmaskHalfRow : OpenClaim := { program := "ythcboddeannjcaa", sum := "88ae19ce90164639353e031614c14e4716870e225ce0452df8803fcdf956b67f", func := "loop.example/pub-g03337/laws.FnBitmaskHalf", spec := "fnBitmaskHalf", apart := false }
def FnBitmaskHalfSaid : Prop := fnBitmaskHalfRow.holds Try.pinned (OpenSpec.ofChange fnBitmaskHalfSpec)

/-- ITS FALSE NEIGHBOUR: 'it returns false'. Refute it at one input. -/
def fnBitmaskHalfWrong : ChangeSpec := { name := "fnBitmaskHalf", fn := fun _ => fun
  | [d1, d2, d3] => { results := [.lit (.bool false)], args := [d1, d2, d3] }
  | _ => none }
def FnBitmaskHalfWrongFalsely : Prop := fnBitmaskHalfRow.holds Try.pinned (OpenSpec.ofChange fnBitmaskHalfWrong)

/-- 'laws.FnCondText': WHATEVER THE INPUT: true; the input reads as it did. -/
def fnCondTextSpec : ChangeSpec := { name := "fnCondText", fn := fun _ => fun
  | [d] => { results := [.lit (.bool true)], args := [d] }
  | _ => none }
def fnCondTextRow : OpenClaim := { program := "ythcboddeannjcaa", sum := "88ae19ce90164639353e031614c14e4716870e225ce0452df8803fcdf956b67f", func := "loop.example/pub-g03337/laws.FnCondText", spec := "fnCondText", apart := false }
def FnCondTextSaid : Prop := fnCondTextRow.holds Try.pinned (OpenSpec.ofChange fnCondTextSpec)

/-- ITS FALSE NEIGHBOUR: 'it returns false'. Refute it at one input. -/
def fnCondTextWrong : ChangeSpec := { name := "fnCondText", fn := fun _ => fun
  | [d] => { results := [.lit (.bool false)], args := [d] }
  | _ => none }
def FnCondTextWrongFalsely : Prop := fnCondTextRow.holds Try.pinned (OpenSpec.ofChange fnCondTextWrong)

/- THE SECOND FORM. 'bulk': how many values and letters a reading holds, each counted each time it is reached (what is shared counts as often as it is met; a slice's spare places count too). A statement '..UptoSaid' is the law's where the arguments, and the package variables that the reading takes, are together of bulk at most 1048576: NARROWER than '..Said'. Prove '..Said' where nothing that the law and all that it calls make is longer than what came in: it says more and counts as full. Else prove '..UptoSaid'. A law counts once. -/
mutual
def uptoBulk {H : Type} : DataW H → Nat
  | .lit (.string bytes) => bytes.length + 1
  | .lit _ => 1
  | .nil => 1
  | .ptr d => uptoBulk d + 1
  | .slice elems spare => uptoBulkAll elems + uptoBulkAll spare + 1
  | .agg parts => uptoBulkAll parts + 1
  | .iface _ d => uptoBulk d + 1
  | .map entries => uptoBulkEntries entries + 1
  | .held _ => 1
def uptoBulkAll {H : Type} : List (DataW H) → Nat
  | [] => 0
  | d :: r => uptoBulk d + uptoBulkAll r
def uptoBulkEntries {H : Type} : List (Lit × DataW H) → Nat
  | [] => 0
  | x :: r => uptoBulkEntry x + uptoBulkEntries r
def uptoBulkEntry {H : Type} : Lit × DataW H → Nat
  | (.string bytes, d) => bytes.length + uptoBulk d + 1
  | (_, d) => uptoBulk d + 1
 end
def uptoSmall : (H : Type) → List (DataW H) → Bool := fun _ ds => decide (uptoBulkAll ds ≤ 1048576)
def OpenSpec.upto (s : _root_.Go.ChangeSpec) : _root_.Go.OpenSpec := { _root_.Go.OpenSpec.ofChange s with cond := some uptoSmall }

/-- 'laws.FnExtractBit', WHERE WHAT IT READS IS OF BULK AT MOST 1048576: true; the input reads as it did. -/
def fnExtractBitUptoRow : OpenClaim := { program := "ythcboddeannjcaa", sum := "88ae19ce90164639353e031614c14e4716870e225ce0452df8803fcdf956b67f", func := "loop.example/pub-g03337/laws.FnExtractBit", spec := "fnExtractBit", apart := false, narrowed := true }
def FnExtractBitUptoSaid : Prop := fnExtractBitUptoRow.holds Try.pinned (OpenSpec.upto fnExtractBitSpec)

/-- 'laws.FnBitCount', WHERE WHAT IT READS IS OF BULK AT MOST 1048576: true; the input reads as it did. -/
def fnBitCountUptoRow : OpenClaim := { program := "ythcboddeannjcaa", sum := "88ae19ce90164639353e031614c14e4716870e225ce0452df8803fcdf956b67f", func := "loop.example/pub-g03337/laws.FnBitCount", spec := "fnBitCount", apart := false, narrowed := true }
def FnBitCountUptoSaid : Prop := fnBitCountUptoRow.holds Try.pinned (OpenSpec.upto fnBitCountSpec)

/-- 'laws.FnBfx', WHERE WHAT IT READS IS OF BULK AT MOST 1048576: true; the input reads as it did. -/
def fnBfxUptoRow : OpenClaim := { program := "ythcboddeannjcaa", sum := "88ae19ce90164639353e031614c14e4716870e225ce0452df8803fcdf956b67f", func := "loop.example/pub-g03337/laws.FnBfx", spec := "fnBfx", apart := false, narrowed := true }
def FnBfxUptoSaid : Prop := fnBfxUptoRow.holds Try.pinned (OpenSpec.upto fnBfxSpec)

/-- 'laws.FnMoveWide', WHERE WHAT IT READS IS OF BULK AT MOST 1048576: true; the input reads as it did. -/
def fnMoveWideUptoRow : OpenClaim := { program := "ythcboddeannjcaa", sum := "88ae19ce90164639353e031614c14e4716870e225ce0452df8803fcdf956b67f", func := "loop.example/pub-g03337/laws.FnMoveWide", spec := "fnMoveWide", apart := false, narrowed := true }
def FnMoveWideUptoSaid : Prop := fnMoveWideUptoRow.holds Try.pinned (OpenSpec.upto fnMoveWideSpec)

/-- 'laws.FnBitmask', WHERE WHAT IT READS IS OF BULK AT MOST 1048576: true; the input reads as it did. -/
def fnBitmaskUptoRow : OpenClaim := { program := "ythcboddeannjcaa", sum := "88ae19ce90164639353e031614c14e4716870e225ce0452df8803fcdf956b67f", func := "loop.example/pub-g03337/laws.FnBitmask", spec := "fnBitmask", apart := false, narrowed := true }
def FnBitmaskUptoSaid : Prop := fnBitmaskUptoRow.holds Try.pinned (OpenSpec.upto fnBitmaskSpec)

/-- 'laws.FnBitmaskHalf', WHERE WHAT IT READS IS OF BULK AT MOST 1048576: true; the input reads as it did. -/
def fnBitmaskHalfUptoRow : OpenClaim := { program := "ythcboddeannjcaa", sum := "88ae19ce90164639353e031614c14e4716870e225ce0452df8803fcdf956b67f", func := "loop.example/pub-g03337/laws.FnBitmaskHalf", spec := "fnBitmaskHalf", apart := false, narrowed := true }
def FnBitmaskHalfUptoSaid : Prop := fnBitmaskHalfUptoRow.holds Try.pinned (OpenSpec.upto fnBitmaskHalfSpec)

/-- 'laws.FnCondText', WHERE WHAT IT READS IS OF BULK AT MOST 1048576: true; the input reads as it did. -/
def fnCondTextUptoRow : OpenClaim := { program := "ythcboddeannjcaa", sum := "88ae19ce90164639353e031614c14e4716870e225ce0452df8803fcdf956b67f", func := "loop.example/pub-g03337/laws.FnCondText", spec := "fnCondText", apart := false, narrowed := true }
def FnCondTextUptoSaid : Prop := fnCondTextUptoRow.holds Try.pinned (OpenSpec.upto fnCondTextSpec)

end Rows
end Go.Proofs.Ythcboddeannjcaa
