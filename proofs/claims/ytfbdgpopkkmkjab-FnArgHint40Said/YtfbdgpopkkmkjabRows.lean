/-
  No cell of these rows narrows 'for every input' (looked for: loops, veiled, ifaces, maps, wideKeys, modest, calm, conditions, laid).
  DERIVED. THE GIVEN ROWS OF THIS SEAT. 12 by the template 'for every input the law returns true; each argument reads behind the call as it read before'; 0 by the template 'total and deterministic' (their statements: YtfbdgpopkkmkjabTotals.lean).
  GIVEN WITH THE SEED: the statements are not yours to turn. If you find one false, say at which input.
  Laid BY PROGRAM, IN A SANDBOX (cutbox-rows.mjs): the forced cells as the released guide's own fill.sh prints them over the translation 095227a03bd40594… (all of the seat's roots in one cut). By AI agents, Wed Nov 11 2026. No macro, syntax, notation, axiom, sorry.
-/
import Derived.Test.YtfbdgpopkkmkjabChecked
import GoSem.Claim
import GoSem.ClaimJoined
import GoSem.ClaimMapViews
import Derived.JoinedTies
import Derived.KernelRfl
namespace Go.Proofs.Ytfbdgpopkkmkjab
/- THE CELL 'sum', in the pinned program and in every row, IS THE sha256 OF THE DUMP (.gsa) THAT YtfbdgpopkkmkjabProg.lean LOADS. Nothing in Lean hashes anything: it is a label: what it is worth is what the hold of that sum in a sandbox is worth. -/
noncomputable def Try.pinned : Pinned := { name := "ytfbdgpopkkmkjab", sum := "095227a03bd40594e35890def827ea0e0f3c55d4d6e8ed71aa49b9584be6a7e6", checked := Try.checked }
namespace Rows
def none {H : Type} : Left H := { results := [], args := [] }

/-- 'laws.FnArgHint140': WHATEVER THE INPUT: true; the input reads as it did. -/
def fnArgHint140Spec : ChangeSpec := { name := "fnArgHint140", fn := fun _ => fun
  | [d] => { results := [.lit (.bool true)], args := [d] }
  | _ => none }
def fnArgHint140Row : OpenClaim := { program := "ytfbdgpopkkmkjab", sum := "095227a03bd40594e35890def827ea0e0f3c55d4d6e8ed71aa49b9584be6a7e6", func := "loop.example/pub-g03337/laws.FnArgHint140", spec := "fnArgHint140", inPlace := ["gosem.stop:loop.example/pub-g03337/pub/loong64asm.instFormatAt"], apart := false }
def FnArgHint140Said : Prop := fnArgHint140Row.holds Try.pinned (OpenSpec.ofChange fnArgHint140Spec)

/-- ITS FALSE NEIGHBOUR: 'it returns false'. Refute it at one input. -/
def fnArgHint140Wrong : ChangeSpec := { name := "fnArgHint140", fn := fun _ => fun
  | [d] => { results := [.lit (.bool false)], args := [d] }
  | _ => none }
def FnArgHint140WrongFalsely : Prop := fnArgHint140Row.holds Try.pinned (OpenSpec.ofChange fnArgHint140Wrong)

/-- 'laws.FnArgHint40': WHATEVER THE INPUT: true; the input reads as it did. -/
def fnArgHint40Spec : ChangeSpec := { name := "fnArgHint40", fn := fun _ => fun
  | [d] => { results := [.lit (.bool true)], args := [d] }
  | _ => none }
def fnArgHint40Row : OpenClaim := { program := "ytfbdgpopkkmkjab", sum := "095227a03bd40594e35890def827ea0e0f3c55d4d6e8ed71aa49b9584be6a7e6", func := "loop.example/pub-g03337/laws.FnArgHint40", spec := "fnArgHint40", inPlace := ["gosem.stop:loop.example/pub-g03337/pub/loong64asm.instFormatAt"], apart := false }
def FnArgHint40Said : Prop := fnArgHint40Row.holds Try.pinned (OpenSpec.ofChange fnArgHint40Spec)

/-- ITS FALSE NEIGHBOUR: 'it returns false'. Refute it at one input. -/
def fnArgHint40Wrong : ChangeSpec := { name := "fnArgHint40", fn := fun _ => fun
  | [d] => { results := [.lit (.bool false)], args := [d] }
  | _ => none }
def FnArgHint40WrongFalsely : Prop := fnArgHint40Row.holds Try.pinned (OpenSpec.ofChange fnArgHint40Wrong)

/-- 'laws.FnArgLevel140': WHATEVER THE INPUT: true; the input reads as it did. -/
def fnArgLevel140Spec : ChangeSpec := { name := "fnArgLevel140", fn := fun _ => fun
  | [d] => { results := [.lit (.bool true)], args := [d] }
  | _ => none }
def fnArgLevel140Row : OpenClaim := { program := "ytfbdgpopkkmkjab", sum := "095227a03bd40594e35890def827ea0e0f3c55d4d6e8ed71aa49b9584be6a7e6", func := "loop.example/pub-g03337/laws.FnArgLevel140", spec := "fnArgLevel140", inPlace := ["gosem.stop:loop.example/pub-g03337/pub/loong64asm.instFormatAt"], apart := false }
def FnArgLevel140Said : Prop := fnArgLevel140Row.holds Try.pinned (OpenSpec.ofChange fnArgLevel140Spec)

/-- ITS FALSE NEIGHBOUR: 'it returns false'. Refute it at one input. -/
def fnArgLevel140Wrong : ChangeSpec := { name := "fnArgLevel140", fn := fun _ => fun
  | [d] => { results := [.lit (.bool false)], args := [d] }
  | _ => none }
def FnArgLevel140WrongFalsely : Prop := fnArgLevel140Row.holds Try.pinned (OpenSpec.ofChange fnArgLevel140Wrong)

/-- 'laws.FnArgLevel1710': WHATEVER THE INPUT: true; the input reads as it did. -/
def fnArgLevel1710Spec : ChangeSpec := { name := "fnArgLevel1710", fn := fun _ => fun
  | [d] => { results := [.lit (.bool true)], args := [d] }
  | _ => none }
def fnArgLevel1710Row : OpenClaim := { program := "ytfbdgpopkkmkjab", sum := "095227a03bd40594e35890def827ea0e0f3c55d4d6e8ed71aa49b9584be6a7e6", func := "loop.example/pub-g03337/laws.FnArgLevel1710", spec := "fnArgLevel1710", inPlace := ["gosem.stop:loop.example/pub-g03337/pub/loong64asm.instFormatAt"], apart := false }
def FnArgLevel1710Said : Prop := fnArgLevel1710Row.holds Try.pinned (OpenSpec.ofChange fnArgLevel1710Spec)

/-- ITS FALSE NEIGHBOUR: 'it returns false'. Refute it at one input. -/
def fnArgLevel1710Wrong : ChangeSpec := { name := "fnArgLevel1710", fn := fun _ => fun
  | [d] => { results := [.lit (.bool false)], args := [d] }
  | _ => none }
def FnArgLevel1710WrongFalsely : Prop := fnArgLevel1710Row.holds Try.pinned (OpenSpec.ofChange fnArgLevel1710Wrong)

/-- 'laws.FnArgLsbd': WHATEVER THE INPUT: true; the input reads as it did. -/
def fnArgLsbdSpec : ChangeSpec := { name := "fnArgLsbd", fn := fun _ => fun
  | [d] => { results := [.lit (.bool true)], args := [d] }
  | _ => none }
def fnArgLsbdRow : OpenClaim := { program := "ytfbdgpopkkmkjab", sum := "095227a03bd40594e35890def827ea0e0f3c55d4d6e8ed71aa49b9584be6a7e6", func := "loop.example/pub-g03337/laws.FnArgLsbd", spec := "fnArgLsbd", inPlace := ["gosem.stop:loop.example/pub-g03337/pub/loong64asm.instFormatAt"], apart := false }
def FnArgLsbdSaid : Prop := fnArgLsbdRow.holds Try.pinned (OpenSpec.ofChange fnArgLsbdSpec)

/-- ITS FALSE NEIGHBOUR: 'it returns false'. Refute it at one input. -/
def fnArgLsbdWrong : ChangeSpec := { name := "fnArgLsbd", fn := fun _ => fun
  | [d] => { results := [.lit (.bool false)], args := [d] }
  | _ => none }
def FnArgLsbdWrongFalsely : Prop := fnArgLsbdRow.holds Try.pinned (OpenSpec.ofChange fnArgLsbdWrong)

/-- 'laws.FnArgLsbw': WHATEVER THE INPUT: true; the input reads as it did. -/
def fnArgLsbwSpec : ChangeSpec := { name := "fnArgLsbw", fn := fun _ => fun
  | [d] => { results := [.lit (.bool true)], args := [d] }
  | _ => none }
def fnArgLsbwRow : OpenClaim := { program := "ytfbdgpopkkmkjab", sum := "095227a03bd40594e35890def827ea0e0f3c55d4d6e8ed71aa49b9584be6a7e6", func := "loop.example/pub-g03337/laws.FnArgLsbw", spec := "fnArgLsbw", inPlace := ["gosem.stop:loop.example/pub-g03337/pub/loong64asm.instFormatAt"], apart := false }
def FnArgLsbwSaid : Prop := fnArgLsbwRow.holds Try.pinned (OpenSpec.ofChange fnArgLsbwSpec)

/-- ITS FALSE NEIGHBOUR: 'it returns false'. Refute it at one input. -/
def fnArgLsbwWrong : ChangeSpec := { name := "fnArgLsbw", fn := fun _ => fun
  | [d] => { results := [.lit (.bool false)], args := [d] }
  | _ => none }
def FnArgLsbwWrongFalsely : Prop := fnArgLsbwRow.holds Try.pinned (OpenSpec.ofChange fnArgLsbwWrong)

/-- 'laws.FnArgMsbd': WHATEVER THE INPUT: true; the input reads as it did. -/
def fnArgMsbdSpec : ChangeSpec := { name := "fnArgMsbd", fn := fun _ => fun
  | [d] => { results := [.lit (.bool true)], args := [d] }
  | _ => none }
def fnArgMsbdRow : OpenClaim := { program := "ytfbdgpopkkmkjab", sum := "095227a03bd40594e35890def827ea0e0f3c55d4d6e8ed71aa49b9584be6a7e6", func := "loop.example/pub-g03337/laws.FnArgMsbd", spec := "fnArgMsbd", inPlace := ["gosem.stop:loop.example/pub-g03337/pub/loong64asm.instFormatAt"], apart := false }
def FnArgMsbdSaid : Prop := fnArgMsbdRow.holds Try.pinned (OpenSpec.ofChange fnArgMsbdSpec)

/-- ITS FALSE NEIGHBOUR: 'it returns false'. Refute it at one input. -/
def fnArgMsbdWrong : ChangeSpec := { name := "fnArgMsbd", fn := fun _ => fun
  | [d] => { results := [.lit (.bool false)], args := [d] }
  | _ => none }
def FnArgMsbdWrongFalsely : Prop := fnArgMsbdRow.holds Try.pinned (OpenSpec.ofChange fnArgMsbdWrong)

/-- 'laws.FnArgMsbw': WHATEVER THE INPUT: true; the input reads as it did. -/
def fnArgMsbwSpec : ChangeSpec := { name := "fnArgMsbw", fn := fun _ => fun
  | [d] => { results := [.lit (.bool true)], args := [d] }
  | _ => none }
def fnArgMsbwRow : OpenClaim := { program := "ytfbdgpopkkmkjab", sum := "095227a03bd40594e35890def827ea0e0f3c55d4d6e8ed71aa49b9584be6a7e6", func := "loop.example/pub-g03337/laws.FnArgMsbw", spec := "fnArgMsbw", inPlace := ["gosem.stop:loop.example/pub-g03337/pub/loong64asm.instFormatAt"], apart := false }
def FnArgMsbwSaid : Prop := fnArgMsbwRow.holds Try.pinned (OpenSpec.ofChange fnArgMsbwSpec)

/-- ITS FALSE NEIGHBOUR: 'it returns false'. Refute it at one input. -/
def fnArgMsbwWrong : ChangeSpec := { name := "fnArgMsbw", fn := fun _ => fun
  | [d] => { results := [.lit (.bool false)], args := [d] }
  | _ => none }
def FnArgMsbwWrongFalsely : Prop := fnArgMsbwRow.holds Try.pinned (OpenSpec.ofChange fnArgMsbwWrong)

/-- 'laws.FnArgOffset150': WHATEVER THE INPUT: true; the input reads as it did. -/
def fnArgOffset150Spec : ChangeSpec := { name := "fnArgOffset150", fn := fun _ => fun
  | [d] => { results := [.lit (.bool true)], args := [d] }
  | _ => none }
def fnArgOffset150Row : OpenClaim := { program := "ytfbdgpopkkmkjab", sum := "095227a03bd40594e35890def827ea0e0f3c55d4d6e8ed71aa49b9584be6a7e6", func := "loop.example/pub-g03337/laws.FnArgOffset150", spec := "fnArgOffset150", inPlace := ["gosem.stop:loop.example/pub-g03337/pub/loong64asm.instFormatAt"], apart := false }
def FnArgOffset150Said : Prop := fnArgOffset150Row.holds Try.pinned (OpenSpec.ofChange fnArgOffset150Spec)

/-- ITS FALSE NEIGHBOUR: 'it returns false'. Refute it at one input. -/
def fnArgOffset150Wrong : ChangeSpec := { name := "fnArgOffset150", fn := fun _ => fun
  | [d] => { results := [.lit (.bool false)], args := [d] }
  | _ => none }
def FnArgOffset150WrongFalsely : Prop := fnArgOffset150Row.holds Try.pinned (OpenSpec.ofChange fnArgOffset150Wrong)

/-- 'laws.FnArgOffset200': WHATEVER THE INPUT: true; the input reads as it did. -/
def fnArgOffset200Spec : ChangeSpec := { name := "fnArgOffset200", fn := fun _ => fun
  | [d] => { results := [.lit (.bool true)], args := [d] }
  | _ => none }
def fnArgOffset200Row : OpenClaim := { program := "ytfbdgpopkkmkjab", sum := "095227a03bd40594e35890def827ea0e0f3c55d4d6e8ed71aa49b9584be6a7e6", func := "loop.example/pub-g03337/laws.FnArgOffset200", spec := "fnArgOffset200", inPlace := ["gosem.stop:loop.example/pub-g03337/pub/loong64asm.instFormatAt"], apart := false }
def FnArgOffset200Said : Prop := fnArgOffset200Row.holds Try.pinned (OpenSpec.ofChange fnArgOffset200Spec)

/-- ITS FALSE NEIGHBOUR: 'it returns false'. Refute it at one input. -/
def fnArgOffset200Wrong : ChangeSpec := { name := "fnArgOffset200", fn := fun _ => fun
  | [d] => { results := [.lit (.bool false)], args := [d] }
  | _ => none }
def FnArgOffset200WrongFalsely : Prop := fnArgOffset200Row.holds Try.pinned (OpenSpec.ofChange fnArgOffset200Wrong)

/-- 'laws.FnArgOffset250': WHATEVER THE INPUT: true; the input reads as it did. -/
def fnArgOffset250Spec : ChangeSpec := { name := "fnArgOffset250", fn := fun _ => fun
  | [d] => { results := [.lit (.bool true)], args := [d] }
  | _ => none }
def fnArgOffset250Row : OpenClaim := { program := "ytfbdgpopkkmkjab", sum := "095227a03bd40594e35890def827ea0e0f3c55d4d6e8ed71aa49b9584be6a7e6", func := "loop.example/pub-g03337/laws.FnArgOffset250", spec := "fnArgOffset250", inPlace := ["gosem.stop:loop.example/pub-g03337/pub/loong64asm.instFormatAt"], apart := false }
def FnArgOffset250Said : Prop := fnArgOffset250Row.holds Try.pinned (OpenSpec.ofChange fnArgOffset250Spec)

/-- ITS FALSE NEIGHBOUR: 'it returns false'. Refute it at one input. -/
def fnArgOffset250Wrong : ChangeSpec := { name := "fnArgOffset250", fn := fun _ => fun
  | [d] => { results := [.lit (.bool false)], args := [d] }
  | _ => none }
def FnArgOffset250WrongFalsely : Prop := fnArgOffset250Row.holds Try.pinned (OpenSpec.ofChange fnArgOffset250Wrong)

/-- 'laws.FnArgOp40': WHATEVER THE INPUT: true; the input reads as it did. -/
def fnArgOp40Spec : ChangeSpec := { name := "fnArgOp40", fn := fun _ => fun
  | [d] => { results := [.lit (.bool true)], args := [d] }
  | _ => none }
def fnArgOp40Row : OpenClaim := { program := "ytfbdgpopkkmkjab", sum := "095227a03bd40594e35890def827ea0e0f3c55d4d6e8ed71aa49b9584be6a7e6", func := "loop.example/pub-g03337/laws.FnArgOp40", spec := "fnArgOp40", inPlace := ["gosem.stop:loop.example/pub-g03337/pub/loong64asm.instFormatAt"], apart := false }
def FnArgOp40Said : Prop := fnArgOp40Row.holds Try.pinned (OpenSpec.ofChange fnArgOp40Spec)

/-- ITS FALSE NEIGHBOUR: 'it returns false'. Refute it at one input. -/
def fnArgOp40Wrong : ChangeSpec := { name := "fnArgOp40", fn := fun _ => fun
  | [d] => { results := [.lit (.bool false)], args := [d] }
  | _ => none }
def FnArgOp40WrongFalsely : Prop := fnArgOp40Row.holds Try.pinned (OpenSpec.ofChange fnArgOp40Wrong)

/- THE SECOND FORM. 'bulk': how many values and letters a reading holds, each counted each time it is reached (what is shared counts as often as it is met; a slice's spare places count too). A statement '..UptoSaid' is the law's where the arguments, and the package variables that the reading takes, are together of bulk at most 1048576: NARROWER than '..Said'. Prove '..Said' where nothing that the law and all that it calls make is longer than what came in: it says more and counts as full. Else prove '..UptoSaid'. A law counts once. -/
mutual
def uptoBulk {H : Type} : DataW H → Nat
  | .lit (.string bytes) => bytes.length + 1
  | .lit _ => 1
  | .nil => 1
  | .ptr d => uptoBulk d + 1
  | .slice elems spare => uptoBulkAll elems + uptoBulkAll spare + 1
  | .agg parts => uptoBulkAll parts + 1
  | .iface _ d => uptoBulk d + 1
  | .map entries => uptoBulkEntries entries + 1
  | .held _ => 1
def uptoBulkAll {H : Type} : List (DataW H) → Nat
  | [] => 0
  | d :: r => uptoBulk d + uptoBulkAll r
def uptoBulkEntries {H : Type} : List (Lit × DataW H) → Nat
  | [] => 0
  | x :: r => uptoBulkEntry x + uptoBulkEntries r
def uptoBulkEntry {H : Type} : Lit × DataW H → Nat
  | (.string bytes, d) => bytes.length + uptoBulk d + 1
  | (_, d) => uptoBulk d + 1
 end
def uptoSmall : (H : Type) → List (DataW H) → Bool := fun _ ds => decide (uptoBulkAll ds ≤ 1048576)
def OpenSpec.upto (s : _root_.Go.ChangeSpec) : _root_.Go.OpenSpec := { _root_.Go.OpenSpec.ofChange s with cond := some uptoSmall }

/-- 'laws.FnArgHint140', WHERE WHAT IT READS IS OF BULK AT MOST 1048576: true; the input reads as it did. -/
def fnArgHint140UptoRow : OpenClaim := { program := "ytfbdgpopkkmkjab", sum := "095227a03bd40594e35890def827ea0e0f3c55d4d6e8ed71aa49b9584be6a7e6", func := "loop.example/pub-g03337/laws.FnArgHint140", spec := "fnArgHint140", inPlace := ["gosem.stop:loop.example/pub-g03337/pub/loong64asm.instFormatAt"], apart := false, narrowed := true }
def FnArgHint140UptoSaid : Prop := fnArgHint140UptoRow.holds Try.pinned (OpenSpec.upto fnArgHint140Spec)

/-- 'laws.FnArgHint40', WHERE WHAT IT READS IS OF BULK AT MOST 1048576: true; the input reads as it did. -/
def fnArgHint40UptoRow : OpenClaim := { program := "ytfbdgpopkkmkjab", sum := "095227a03bd40594e35890def827ea0e0f3c55d4d6e8ed71aa49b9584be6a7e6", func := "loop.example/pub-g03337/laws.FnArgHint40", spec := "fnArgHint40", inPlace := ["gosem.stop:loop.example/pub-g03337/pub/loong64asm.instFormatAt"], apart := false, narrowed := true }
def FnArgHint40UptoSaid : Prop := fnArgHint40UptoRow.holds Try.pinned (OpenSpec.upto fnArgHint40Spec)

/-- 'laws.FnArgLevel140', WHERE WHAT IT READS IS OF BULK AT MOST 1048576: true; the input reads as it did. -/
def fnArgLevel140UptoRow : OpenClaim := { program := "ytfbdgpopkkmkjab", sum := "095227a03bd40594e35890def827ea0e0f3c55d4d6e8ed71aa49b9584be6a7e6", func := "loop.example/pub-g03337/laws.FnArgLevel140", spec := "fnArgLevel140", inPlace := ["gosem.stop:loop.example/pub-g03337/pub/loong64asm.instFormatAt"], apart := false, narrowed := true }
def FnArgLevel140UptoSaid : Prop := fnArgLevel140UptoRow.holds Try.pinned (OpenSpec.upto fnArgLevel140Spec)

/-- 'laws.FnArgLevel1710', WHERE WHAT IT READS IS OF BULK AT MOST 1048576: true; the input reads as it did. -/
def fnArgLevel1710UptoRow : OpenClaim := { program := "ytfbdgpopkkmkjab", sum := "095227a03bd40594e35890def827ea0e0f3c55d4d6e8ed71aa49b9584be6a7e6", func := "loop.example/pub-g03337/laws.FnArgLevel1710", spec := "fnArgLevel1710", inPlace := ["gosem.stop:loop.example/pub-g03337/pub/loong64asm.instFormatAt"], apart := false, narrowed := true }
def FnArgLevel1710UptoSaid : Prop := fnArgLevel1710UptoRow.holds Try.pinned (OpenSpec.upto fnArgLevel1710Spec)

/-- 'laws.FnArgLsbd', WHERE WHAT IT READS IS OF BULK AT MOST 1048576: true; the input reads as it did. -/
def fnArgLsbdUptoRow : OpenClaim := { program := "ytfbdgpopkkmkjab", sum := "095227a03bd40594e35890def827ea0e0f3c55d4d6e8ed71aa49b9584be6a7e6", func := "loop.example/pub-g03337/laws.FnArgLsbd", spec := "fnArgLsbd", inPlace := ["gosem.stop:loop.example/pub-g03337/pub/loong64asm.instFormatAt"], apart := false, narrowed := true }
def FnArgLsbdUptoSaid : Prop := fnArgLsbdUptoRow.holds Try.pinned (OpenSpec.upto fnArgLsbdSpec)

/-- 'laws.FnArgLsbw', WHERE WHAT IT READS IS OF BULK AT MOST 1048576: true; the input reads as it did. -/
def fnArgLsbwUptoRow : OpenClaim := { program := "ytfbdgpopkkmkjab", sum := "095227a03bd40594e35890def827ea0e0f3c55d4d6e8ed71aa49b9584be6a7e6", func := "loop.example/pub-g03337/laws.FnArgLsbw", spec := "fnArgLsbw", inPlace := ["gosem.stop:loop.example/pub-g03337/pub/loong64asm.instFormatAt"], apart := false, narrowed := true }
def FnArgLsbwUptoSaid : Prop := fnArgLsbwUptoRow.holds Try.pinned (OpenSpec.upto fnArgLsbwSpec)

/-- 'laws.FnArgMsbd', WHERE WHAT IT READS IS OF BULK AT MOST 1048576: true; the input reads as it did. -/
def fnArgMsbdUptoRow : OpenClaim := { program := "ytfbdgpopkkmkjab", sum := "095227a03bd40594e35890def827ea0e0f3c55d4d6e8ed71aa49b9584be6a7e6", func := "loop.example/pub-g03337/laws.FnArgMsbd", spec := "fnArgMsbd", inPlace := ["gosem.stop:loop.example/pub-g03337/pub/loong64asm.instFormatAt"], apart := false, narrowed := true }
def FnArgMsbdUptoSaid : Prop := fnArgMsbdUptoRow.holds Try.pinned (OpenSpec.upto fnArgMsbdSpec)

/-- 'laws.FnArgMsbw', WHERE WHAT IT READS IS OF BULK AT MOST 1048576: true; the input reads as it did. -/
def fnArgMsbwUptoRow : OpenClaim := { program := "ytfbdgpopkkmkjab", sum := "095227a03bd40594e35890def827ea0e0f3c55d4d6e8ed71aa49b9584be6a7e6", func := "loop.example/pub-g03337/laws.FnArgMsbw", spec := "fnArgMsbw", inPlace := ["gosem.stop:loop.example/pub-g03337/pub/loong64asm.instFormatAt"], apart := false, narrowed := true }
def FnArgMsbwUptoSaid : Prop := fnArgMsbwUptoRow.holds Try.pinned (OpenSpec.upto fnArgMsbwSpec)

/-- 'laws.FnArgOffset150', WHERE WHAT IT READS IS OF BULK AT MOST 1048576: true; the input reads as it did. -/
def fnArgOffset150UptoRow : OpenClaim := { program := "ytfbdgpopkkmkjab", sum := "095227a03bd40594e35890def827ea0e0f3c55d4d6e8ed71aa49b9584be6a7e6", func := "loop.example/pub-g03337/laws.FnArgOffset150", spec := "fnArgOffset150", inPlace := ["gosem.stop:loop.example/pub-g03337/pub/loong64asm.instFormatAt"], apart := false, narrowed := true }
def FnArgOffset150UptoSaid : Prop := fnArgOffset150UptoRow.holds Try.pinned (OpenSpec.upto fnArgOffset150Spec)

/-- 'laws.FnArgOffset200', WHERE WHAT IT READS IS OF BULK AT MOST 1048576: true; the input reads as it did. -/
def fnArgOffset200UptoRow : OpenClaim := { program := "ytfbdgpopkkmkjab", sum := "095227a03bd40594e35890def827ea0e0f3c55d4d6e8ed71aa49b9584be6a7e6", func := "loop.example/pub-g03337/laws.FnArgOffset200", spec := "fnArgOffset200", inPlace := ["gosem.stop:loop.example/pub-g03337/pub/loong64asm.instFormatAt"], apart := false, narrowed := true }
def FnArgOffset200UptoSaid : Prop := fnArgOffset200UptoRow.holds Try.pinned (OpenSpec.upto fnArgOffset200Spec)

/-- 'laws.FnArgOffset250', WHERE WHAT IT READS IS OF BULK AT MOST 1048576: true; the input reads as it did. -/
def fnArgOffset250UptoRow : OpenClaim := { program := "ytfbdgpopkkmkjab", sum := "095227a03bd40594e35890def827ea0e0f3c55d4d6e8ed71aa49b9584be6a7e6", func := "loop.example/pub-g03337/laws.FnArgOffset250", spec := "fnArgOffset250", inPlace := ["gosem.stop:loop.example/pub-g03337/pub/loong64asm.instFormatAt"], apart := false, narrowed := true }
def FnArgOffset250UptoSaid : Prop := fnArgOffset250UptoRow.holds Try.pinned (OpenSpec.upto fnArgOffset250Spec)

/-- 'laws.FnArgOp40', WHERE WHAT IT READS IS OF BULK AT MOST 1048576: true; the input reads as it did. -/
def fnArgOp40UptoRow : OpenClaim := { program := "ytfbdgpopkkmkjab", sum := "095227a03bd40594e35890def827ea0e0f3c55d4d6e8ed71aa49b9584be6a7e6", func := "loop.example/pub-g03337/laws.FnArgOp40", spec := "fnArgOp40", inPlace := ["gosem.stop:loop.example/pub-g03337/pub/loong64asm.instFormatAt"], apart := false, narrowed := true }
def FnArgOp40UptoSaid : Prop := fnArgOp40UptoRow.holds Try.pinned (OpenSpec.upto fnArgOp40Spec)

end Rows
end Go.Proofs.Ytfbdgpopkkmkjab
