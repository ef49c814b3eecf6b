/-
  NARROWER THAN 'FOR EVERY INPUT', by the rows' own cells (each row's printed sentence says how): FnOffsetText: laid · FnCodeText: laid · FnFlagText: laid · FnSimmText: laid · FnUimmText: laid · FnRegText: laid.
  DERIVED. THE GIVEN ROWS OF THIS SEAT. 6 by the template 'for every input the law returns true; each argument reads behind the call as it read before'; 0 by the template 'total and deterministic' (their statements: YtjaobaeacjgbaaaDoorTotals.lean).
  GIVEN WITH THE SEED: the statements are not yours to turn. If you find one false, say at which input.
  Laid BY PROGRAM, IN A SANDBOX (cutbox-rows.mjs): the forced cells as the released guide's own fill.sh prints them over the translation e673e9a5534639ae… (all of the seat's roots in one cut). By AI agents, Wed Nov 11 2026. No macro, syntax, notation, axiom, sorry.
-/
import Derived.Test.YtjaobaeacjgbaaaDoorChecked
import GoSem.Claim
import GoSem.ClaimJoined
import GoSem.ClaimMapViews
import Derived.JoinedTies
import Derived.KernelRfl
namespace Go.Proofs.YtjaobaeacjgbaaaDoor
/- THE CELL 'sum', in the pinned program and in every row, IS THE sha256 OF THE DUMP (.gsa) THAT YtjaobaeacjgbaaaDoorProg.lean LOADS. Nothing in Lean hashes anything: it is a label: what it is worth is what the hold of that sum in a sandbox is worth. -/
noncomputable def Tryd.pinned : Pinned := { name := "ytjaobaeacjgbaaadoor", sum := "e673e9a5534639ae67572401f666a538023e884123a0906eca04997f54187d64", checked := Tryd.checked }
namespace Rows
def none {H : Type} : Left H := { results := [], args := [] }

/- WHAT THE LISTED PACKAGE-LEVEL VARIABLES READ AS WHEN THE CALL BEGINS. Each datum BY PROGRAM (the guide's laid-datum.mjs) off the statement by which the dump's own 'gosem.cut.vars' lays the variable. In a bare row this is a premise. The card (YtjaobaeacjgbaaaDoorCards.lean) ties it to the program's text. -/
def laid_math_bits_deBruijn32tab {H : Type} : DataW H := .agg [.lit (.int .u8 0), .lit (.int .u8 1), .lit (.int .u8 28), .lit (.int .u8 2), .lit (.int .u8 29), .lit (.int .u8 14), .lit (.int .u8 24), .lit (.int .u8 3), .lit (.int .u8 30), .lit (.int .u8 22), .lit (.int .u8 20), .lit (.int .u8 15), .lit (.int .u8 25), .lit (.int .u8 17), .lit (.int .u8 4), .lit (.int .u8 8), .lit (.int .u8 31), .lit (.int .u8 27), .lit (.int .u8 13), .lit (.int .u8 23), .lit (.int .u8 21), .lit (.int .u8 19), .lit (.int .u8 16), .lit (.int .u8 7), .lit (.int .u8 26), .lit (.int .u8 12), .lit (.int .u8 18), .lit (.int .u8 6), .lit (.int .u8 11), .lit (.int .u8 5), .lit (.int .u8 10), .lit (.int .u8 9)]
def laid_math_bits_deBruijn64tab {H : Type} : DataW H := .agg [.lit (.int .u8 0), .lit (.int .u8 1), .lit (.int .u8 56), .lit (.int .u8 2), .lit (.int .u8 57), .lit (.int .u8 49), .lit (.int .u8 28), .lit (.int .u8 3), .lit (.int .u8 61), .lit (.int .u8 58), .lit (.int .u8 42), .lit (.int .u8 50), .lit (.int .u8 38), .lit (.int .u8 29), .lit (.int .u8 17), .lit (.int .u8 4), .lit (.int .u8 62), .lit (.int .u8 47), .lit (.int .u8 59), .lit (.int .u8 36), .lit (.int .u8 45), .lit (.int .u8 43), .lit (.int .u8 51), .lit (.int .u8 22), .lit (.int .u8 53), .lit (.int .u8 39), .lit (.int .u8 33), .lit (.int .u8 30), .lit (.int .u8 24), .lit (.int .u8 18), .lit (.int .u8 12), .lit (.int .u8 5), .lit (.int .u8 63), .lit (.int .u8 55), .lit (.int .u8 48), .lit (.int .u8 27), .lit (.int .u8 60), .lit (.int .u8 41), .lit (.int .u8 37), .lit (.int .u8 16), .lit (.int .u8 46), .lit (.int .u8 35), .lit (.int .u8 44), .lit (.int .u8 21), .lit (.int .u8 52), .lit (.int .u8 32), .lit (.int .u8 23), .lit (.int .u8 11), .lit (.int .u8 54), .lit (.int .u8 26), .lit (.int .u8 40), .lit (.int .u8 15), .lit (.int .u8 34), .lit (.int .u8 20), .lit (.int .u8 31), .lit (.int .u8 10), .lit (.int .u8 25), .lit (.int .u8 14), .lit (.int .u8 19), .lit (.int .u8 9), .lit (.int .u8 13), .lit (.int .u8 8), .lit (.int .u8 7), .lit (.int .u8 6)]
def laid_internal_strconv_uint64pow10 {H : Type} : DataW H := .agg [.lit (.int .u64 1), .lit (.int .u64 10), .lit (.int .u64 100), .lit (.int .u64 1000), .lit (.int .u64 10000), .lit (.int .u64 100000), .lit (.int .u64 1000000), .lit (.int .u64 10000000), .lit (.int .u64 100000000), .lit (.int .u64 1000000000), .lit (.int .u64 10000000000), .lit (.int .u64 100000000000), .lit (.int .u64 1000000000000), .lit (.int .u64 10000000000000), .lit (.int .u64 100000000000000), .lit (.int .u64 1000000000000000), .lit (.int .u64 10000000000000000), .lit (.int .u64 100000000000000000), .lit (.int .u64 1000000000000000000), .lit (.int .u64 10000000000000000000)]

/-- 'laws.FnOffsetText': WHATEVER THE INPUT: true; the input reads as it did. -/
def fnOffsetTextSpec : ChangeSpec := { name := "fnOffsetText", fn := fun _ => fun
  | [d1, d2] => { results := [.lit (.bool true)], args := [d1, d2] }
  | _ => none }
def fnOffsetTextRow : OpenClaim := { program := "ytjaobaeacjgbaaadoor", sum := "e673e9a5534639ae67572401f666a538023e884123a0906eca04997f54187d64", func := "loop.example/pub-g03337/laws.FnOffsetText", spec := "fnOffsetText", named := ["internal/strconv.uint64pow10", "math/bits.deBruijn32tab", "math/bits.deBruijn64tab"], apart := false, laid := [("math/bits.deBruijn32tab", laid_math_bits_deBruijn32tab), ("math/bits.deBruijn64tab", laid_math_bits_deBruijn64tab), ("internal/strconv.uint64pow10", laid_internal_strconv_uint64pow10)] }
def FnOffsetTextSaid : Prop := fnOffsetTextRow.holds Tryd.pinned (OpenSpec.ofChange fnOffsetTextSpec)

/-- ITS FALSE NEIGHBOUR: 'it returns false'. Refute it at one input. -/
def fnOffsetTextWrong : ChangeSpec := { name := "fnOffsetText", fn := fun _ => fun
  | [d1, d2] => { results := [.lit (.bool false)], args := [d1, d2] }
  | _ => none }
def FnOffsetTextWrongFalsely : Prop := fnOffsetTextRow.holds Tryd.pinned (OpenSpec.ofChange fnOffsetTextWrong)

/-- 'laws.FnCodeText': WHATEVER THE INPUT: true; the input reads as it did. -/
def fnCodeTextSpec : ChangeSpec := { name := "fnCodeText", fn := fun _ => fun
  | [d1, d2] => { results := [.lit (.bool true)], args := [d1, d2] }
  | _ => none }
def fnCodeTextRow : OpenClaim := { program := "ytjaobaeacjgbaaadoor", sum := "e673e9a5534639ae67572401f666a538023e884123a0906eca04997f54187d64", func := "loop.example/pub-g03337/laws.FnCodeText", spec := "fnCodeText", named := ["internal/strconv.uint64pow10", "math/bits.deBruijn32tab", "math/bits.deBruijn64tab"], apart := false, laid := [("math/bits.deBruijn32tab", laid_math_bits_deBruijn32tab), ("math/bits.deBruijn64tab", laid_math_bits_deBruijn64tab), ("internal/strconv.uint64pow10", laid_internal_strconv_uint64pow10)] }
def FnCodeTextSaid : Prop := fnCodeTextRow.holds Tryd.pinned (OpenSpec.ofChange fnCodeTextSpec)

/-- ITS FALSE NEIGHBOUR: 'it returns false'. Refute it at one input. -/
def fnCodeTextWrong : ChangeSpec := { name := "fnCodeText", fn := fun _ => fun
  | [d1, d2] => { results := [.lit (.bool false)], args := [d1, d2] }
  | _ => none }
def FnCodeTextWrongFalsely : Prop := fnCodeTextRow.holds Tryd.pinned (OpenSpec.ofChange fnCodeTextWrong)

/-- 'laws.FnFlagText': WHATEVER THE INPUT: true; the input reads as it did. -/
def fnFlagTextSpec : ChangeSpec := { name := "fnFlagText", fn := fun _ => fun
  | [d1, d2] => { results := [.lit (.bool true)], args := [d1, d2] }
  | _ => none }
def fnFlagTextRow : OpenClaim := { program := "ytjaobaeacjgbaaadoor", sum := "e673e9a5534639ae67572401f666a538023e884123a0906eca04997f54187d64", func := "loop.example/pub-g03337/laws.FnFlagText", spec := "fnFlagText", named := ["internal/strconv.uint64pow10", "math/bits.deBruijn32tab", "math/bits.deBruijn64tab"], apart := false, laid := [("math/bits.deBruijn32tab", laid_math_bits_deBruijn32tab), ("math/bits.deBruijn64tab", laid_math_bits_deBruijn64tab), ("internal/strconv.uint64pow10", laid_internal_strconv_uint64pow10)] }
def FnFlagTextSaid : Prop := fnFlagTextRow.holds Tryd.pinned (OpenSpec.ofChange fnFlagTextSpec)

/-- ITS FALSE NEIGHBOUR: 'it returns false'. Refute it at one input. -/
def fnFlagTextWrong : ChangeSpec := { name := "fnFlagText", fn := fun _ => fun
  | [d1, d2] => { results := [.lit (.bool false)], args := [d1, d2] }
  | _ => none }
def FnFlagTextWrongFalsely : Prop := fnFlagTextRow.holds Tryd.pinned (OpenSpec.ofChange fnFlagTextWrong)

/-- 'laws.FnSimmText': WHATEVER THE INPUT: true; the input reads as it did. -/
def fnSimmTextSpec : ChangeSpec := { name := "fnSimmText", fn := fun _ => fun
  | [d] => { results := [.lit (.bool true)], args := [d] }
  | _ => none }
def fnSimmTextRow : OpenClaim := { program := "ytjaobaeacjgbaaadoor", sum := "e673e9a5534639ae67572401f666a538023e884123a0906eca04997f54187d64", func := "loop.example/pub-g03337/laws.FnSimmText", spec := "fnSimmText", recurses := true, named := ["internal/strconv.uint64pow10", "math/bits.deBruijn32tab", "math/bits.deBruijn64tab"], apart := false, laid := [("math/bits.deBruijn32tab", laid_math_bits_deBruijn32tab), ("math/bits.deBruijn64tab", laid_math_bits_deBruijn64tab), ("internal/strconv.uint64pow10", laid_internal_strconv_uint64pow10)] }
def FnSimmTextSaid : Prop := fnSimmTextRow.holds Tryd.pinned (OpenSpec.ofChange fnSimmTextSpec)

/-- ITS FALSE NEIGHBOUR: 'it returns false'. Refute it at one input. -/
def fnSimmTextWrong : ChangeSpec := { name := "fnSimmText", fn := fun _ => fun
  | [d] => { results := [.lit (.bool false)], args := [d] }
  | _ => none }
def FnSimmTextWrongFalsely : Prop := fnSimmTextRow.holds Tryd.pinned (OpenSpec.ofChange fnSimmTextWrong)

/-- 'laws.FnUimmText': WHATEVER THE INPUT: true; the input reads as it did. -/
def fnUimmTextSpec : ChangeSpec := { name := "fnUimmText", fn := fun _ => fun
  | [d] => { results := [.lit (.bool true)], args := [d] }
  | _ => none }
def fnUimmTextRow : OpenClaim := { program := "ytjaobaeacjgbaaadoor", sum := "e673e9a5534639ae67572401f666a538023e884123a0906eca04997f54187d64", func := "loop.example/pub-g03337/laws.FnUimmText", spec := "fnUimmText", recurses := true, named := ["internal/strconv.uint64pow10", "math/bits.deBruijn32tab", "math/bits.deBruijn64tab"], apart := false, laid := [("math/bits.deBruijn32tab", laid_math_bits_deBruijn32tab), ("math/bits.deBruijn64tab", laid_math_bits_deBruijn64tab), ("internal/strconv.uint64pow10", laid_internal_strconv_uint64pow10)] }
def FnUimmTextSaid : Prop := fnUimmTextRow.holds Tryd.pinned (OpenSpec.ofChange fnUimmTextSpec)

/-- ITS FALSE NEIGHBOUR: 'it returns false'. Refute it at one input. -/
def fnUimmTextWrong : ChangeSpec := { name := "fnUimmText", fn := fun _ => fun
  | [d] => { results := [.lit (.bool false)], args := [d] }
  | _ => none }
def FnUimmTextWrongFalsely : Prop := fnUimmTextRow.holds Tryd.pinned (OpenSpec.ofChange fnUimmTextWrong)

/-- 'laws.FnRegText': WHATEVER THE INPUT: true; the input reads as it did. -/
def fnRegTextSpec : ChangeSpec := { name := "fnRegText", fn := fun _ => fun
  | [d1, d2] => { results := [.lit (.bool true)], args := [d1, d2] }
  | _ => none }
def fnRegTextRow : OpenClaim := { program := "ytjaobaeacjgbaaadoor", sum := "e673e9a5534639ae67572401f666a538023e884123a0906eca04997f54187d64", func := "loop.example/pub-g03337/laws.FnRegText", spec := "fnRegText", named := ["internal/strconv.uint64pow10", "math/bits.deBruijn32tab", "math/bits.deBruijn64tab"], apart := false, laid := [("math/bits.deBruijn32tab", laid_math_bits_deBruijn32tab), ("math/bits.deBruijn64tab", laid_math_bits_deBruijn64tab), ("internal/strconv.uint64pow10", laid_internal_strconv_uint64pow10)] }
def FnRegTextSaid : Prop := fnRegTextRow.holds Tryd.pinned (OpenSpec.ofChange fnRegTextSpec)

/-- ITS FALSE NEIGHBOUR: 'it returns false'. Refute it at one input. -/
def fnRegTextWrong : ChangeSpec := { name := "fnRegText", fn := fun _ => fun
  | [d1, d2] => { results := [.lit (.bool false)], args := [d1, d2] }
  | _ => none }
def FnRegTextWrongFalsely : Prop := fnRegTextRow.holds Tryd.pinned (OpenSpec.ofChange fnRegTextWrong)

/- THE SECOND FORM. 'bulk': how many values and letters a reading holds, each counted each time it is reached (what is shared counts as often as it is met; a slice's spare places count too). A statement '..UptoSaid' is the law's where the arguments, and the package variables that the reading takes, are together of bulk at most 1048576: NARROWER than '..Said'. Prove '..Said' where nothing that the law and all that it calls make is longer than what came in: it says more and counts as full. Else prove '..UptoSaid'. A law counts once. -/
mutual
def uptoBulk {H : Type} : DataW H → Nat
  | .lit (.string bytes) => bytes.length + 1
  | .lit _ => 1
  | .nil => 1
  | .ptr d => uptoBulk d + 1
  | .slice elems spare => uptoBulkAll elems + uptoBulkAll spare + 1
  | .agg parts => uptoBulkAll parts + 1
  | .iface _ d => uptoBulk d + 1
  | .map entries => uptoBulkEntries entries + 1
  | .held _ => 1
def uptoBulkAll {H : Type} : List (DataW H) → Nat
  | [] => 0
  | d :: r => uptoBulk d + uptoBulkAll r
def uptoBulkEntries {H : Type} : List (Lit × DataW H) → Nat
  | [] => 0
  | x :: r => uptoBulkEntry x + uptoBulkEntries r
def uptoBulkEntry {H : Type} : Lit × DataW H → Nat
  | (.string bytes, d) => bytes.length + uptoBulk d + 1
  | (_, d) => uptoBulk d + 1
 end
def uptoSmall : (H : Type) → List (DataW H) → Bool := fun _ ds => decide (uptoBulkAll ds ≤ 1048576)
def OpenSpec.upto (s : _root_.Go.ChangeSpec) : _root_.Go.OpenSpec := { _root_.Go.OpenSpec.ofChange s with cond := some uptoSmall }

/-- 'laws.FnOffsetText', WHERE WHAT IT READS IS OF BULK AT MOST 1048576: true; the input reads as it did. -/
def fnOffsetTextUptoRow : OpenClaim := { program := "ytjaobaeacjgbaaadoor", sum := "e673e9a5534639ae67572401f666a538023e884123a0906eca04997f54187d64", func := "loop.example/pub-g03337/laws.FnOffsetText", spec := "fnOffsetText", named := ["internal/strconv.uint64pow10", "math/bits.deBruijn32tab", "math/bits.deBruijn64tab"], apart := false, laid := [("math/bits.deBruijn32tab", laid_math_bits_deBruijn32tab), ("math/bits.deBruijn64tab", laid_math_bits_deBruijn64tab), ("internal/strconv.uint64pow10", laid_internal_strconv_uint64pow10)], narrowed := true }
def FnOffsetTextUptoSaid : Prop := fnOffsetTextUptoRow.holds Tryd.pinned (OpenSpec.upto fnOffsetTextSpec)

/-- 'laws.FnCodeText', WHERE WHAT IT READS IS OF BULK AT MOST 1048576: true; the input reads as it did. -/
def fnCodeTextUptoRow : OpenClaim := { program := "ytjaobaeacjgbaaadoor", sum := "e673e9a5534639ae67572401f666a538023e884123a0906eca04997f54187d64", func := "loop.example/pub-g03337/laws.FnCodeText", spec := "fnCodeText", named := ["internal/strconv.uint64pow10", "math/bits.deBruijn32tab", "math/bits.deBruijn64tab"], apart := false, laid := [("math/bits.deBruijn32tab", laid_math_bits_deBruijn32tab), ("math/bits.deBruijn64tab", laid_math_bits_deBruijn64tab), ("internal/strconv.uint64pow10", laid_internal_strconv_uint64pow10)], narrowed := true }
def FnCodeTextUptoSaid : Prop := fnCodeTextUptoRow.holds Tryd.pinned (OpenSpec.upto fnCodeTextSpec)

/-- 'laws.FnFlagText', WHERE WHAT IT READS IS OF BULK AT MOST 1048576: true; the input reads as it did. -/
def fnFlagTextUptoRow : OpenClaim := { program := "ytjaobaeacjgbaaadoor", sum := "e673e9a5534639ae67572401f666a538023e884123a0906eca04997f54187d64", func := "loop.example/pub-g03337/laws.FnFlagText", spec := "fnFlagText", named := ["internal/strconv.uint64pow10", "math/bits.deBruijn32tab", "math/bits.deBruijn64tab"], apart := false, laid := [("math/bits.deBruijn32tab", laid_math_bits_deBruijn32tab), ("math/bits.deBruijn64tab", laid_math_bits_deBruijn64tab), ("internal/strconv.uint64pow10", laid_internal_strconv_uint64pow10)], narrowed := true }
def FnFlagTextUptoSaid : Prop := fnFlagTextUptoRow.holds Tryd.pinned (OpenSpec.upto fnFlagTextSpec)

/-- 'laws.FnSimmText', WHERE WHAT IT READS IS OF BULK AT MOST 1048576: true; the input reads as it did. -/
def fnSimmTextUptoRow : OpenClaim := { program := "ytjaobaeacjgbaaadoor", sum := "e673e9a5534639ae67572401f666a538023e884123a0906eca04997f54187d64", func := "loop.example/pub-g03337/laws.FnSimmText", spec := "fnSimmText", recurses := true, named := ["internal/strconv.uint64pow10", "math/bits.deBruijn32tab", "math/bits.deBruijn64tab"], apart := false, laid := [("math/bits.deBruijn32tab", laid_math_bits_deBruijn32tab), ("math/bits.deBruijn64tab", laid_math_bits_deBruijn64tab), ("internal/strconv.uint64pow10", laid_internal_strconv_uint64pow10)], narrowed := true }
def FnSimmTextUptoSaid : Prop := fnSimmTextUptoRow.holds Tryd.pinned (OpenSpec.upto fnSimmTextSpec)

/-- 'laws.FnUimmText', WHERE WHAT IT READS IS OF BULK AT MOST 1048576: true; the input reads as it did. -/
def fnUimmTextUptoRow : OpenClaim := { program := "ytjaobaeacjgbaaadoor", sum := "e673e9a5534639ae67572401f666a538023e884123a0906eca04997f54187d64", func := "loop.example/pub-g03337/laws.FnUimmText", spec := "fnUimmText", recurses := true, named := ["internal/strconv.uint64pow10", "math/bits.deBruijn32tab", "math/bits.deBruijn64tab"], apart := false, laid := [("math/bits.deBruijn32tab", laid_math_bits_deBruijn32tab), ("math/bits.deBruijn64tab", laid_math_bits_deBruijn64tab), ("internal/strconv.uint64pow10", laid_internal_strconv_uint64pow10)], narrowed := true }
def FnUimmTextUptoSaid : Prop := fnUimmTextUptoRow.holds Tryd.pinned (OpenSpec.upto fnUimmTextSpec)

/-- 'laws.FnRegText', WHERE WHAT IT READS IS OF BULK AT MOST 1048576: true; the input reads as it did. -/
def fnRegTextUptoRow : OpenClaim := { program := "ytjaobaeacjgbaaadoor", sum := "e673e9a5534639ae67572401f666a538023e884123a0906eca04997f54187d64", func := "loop.example/pub-g03337/laws.FnRegText", spec := "fnRegText", named := ["internal/strconv.uint64pow10", "math/bits.deBruijn32tab", "math/bits.deBruijn64tab"], apart := false, laid := [("math/bits.deBruijn32tab", laid_math_bits_deBruijn32tab), ("math/bits.deBruijn64tab", laid_math_bits_deBruijn64tab), ("internal/strconv.uint64pow10", laid_internal_strconv_uint64pow10)], narrowed := true }
def FnRegTextUptoSaid : Prop := fnRegTextUptoRow.holds Tryd.pinned (OpenSpec.upto fnRegTextSpec)

end Rows
end Go.Proofs.YtjaobaeacjgbaaaDoor
