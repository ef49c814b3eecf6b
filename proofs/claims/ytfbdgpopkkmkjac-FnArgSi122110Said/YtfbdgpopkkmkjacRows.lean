/-
  No cell of these rows narrows 'for every input' (looked for: loops, veiled, ifaces, maps, wideKeys, modest, calm, conditions, laid).
  DERIVED. THE GIVEN ROWS OF THIS SEAT. 12 by the template 'for every input the law returns true; each argument reads behind the call as it read before'; 0 by the template 'total and deterministic' (their statements: YtfbdgpopkkmkjacTotals.lean).
  GIVEN WITH THE SEED: the statements are not yours to turn. If you find one false, say at which input.
  Laid BY PROGRAM, IN A SANDBOX (cutbox-rows.mjs): the forced cells as the released guide's own fill.sh prints them over the translation c7c894f4dcdd1686… (all of the seat's roots in one cut). By AI agents, Wed Nov 11 2026. No macro, syntax, notation, axiom, sorry.
-/
import Derived.Test.YtfbdgpopkkmkjacChecked
import GoSem.Claim
import GoSem.ClaimJoined
import GoSem.ClaimMapViews
import Derived.JoinedTies
import Derived.KernelRfl
namespace Go.Proofs.Ytfbdgpopkkmkjac
/- THE CELL 'sum', in the pinned program and in every row, IS THE sha256 OF THE DUMP (.gsa) THAT YtfbdgpopkkmkjacProg.lean LOADS. Nothing in Lean hashes anything: it is a label: what it is worth is what the hold of that sum in a sandbox is worth. -/
noncomputable def Try.pinned : Pinned := { name := "ytfbdgpopkkmkjac", sum := "c7c894f4dcdd16867d8cdeea76ea4c1d1038ed8babf6ef7b12a005a4905be0ae", checked := Try.checked }
namespace Rows
def none {H : Type} : Left H := { results := [], args := [] }

/-- 'laws.FnArgRd': WHATEVER THE INPUT: true; the input reads as it did. -/
def fnArgRdSpec : ChangeSpec := { name := "fnArgRd", fn := fun _ => fun
  | [d] => { results := [.lit (.bool true)], args := [d] }
  | _ => none }
def fnArgRdRow : OpenClaim := { program := "ytfbdgpopkkmkjac", sum := "c7c894f4dcdd16867d8cdeea76ea4c1d1038ed8babf6ef7b12a005a4905be0ae", func := "loop.example/pub-g03337/laws.FnArgRd", spec := "fnArgRd", inPlace := ["gosem.stop:loop.example/pub-g03337/pub/loong64asm.instFormatAt"], apart := false }
def FnArgRdSaid : Prop := fnArgRdRow.holds Try.pinned (OpenSpec.ofChange fnArgRdSpec)

/-- ITS FALSE NEIGHBOUR: 'it returns false'. Refute it at one input. -/
def fnArgRdWrong : ChangeSpec := { name := "fnArgRd", fn := fun _ => fun
  | [d] => { results := [.lit (.bool false)], args := [d] }
  | _ => none }
def FnArgRdWrongFalsely : Prop := fnArgRdRow.holds Try.pinned (OpenSpec.ofChange fnArgRdWrong)

/-- 'laws.FnArgRj': WHATEVER THE INPUT: true; the input reads as it did. -/
def fnArgRjSpec : ChangeSpec := { name := "fnArgRj", fn := fun _ => fun
  | [d] => { results := [.lit (.bool true)], args := [d] }
  | _ => none }
def fnArgRjRow : OpenClaim := { program := "ytfbdgpopkkmkjac", sum := "c7c894f4dcdd16867d8cdeea76ea4c1d1038ed8babf6ef7b12a005a4905be0ae", func := "loop.example/pub-g03337/laws.FnArgRj", spec := "fnArgRj", inPlace := ["gosem.stop:loop.example/pub-g03337/pub/loong64asm.instFormatAt"], apart := false }
def FnArgRjSaid : Prop := fnArgRjRow.holds Try.pinned (OpenSpec.ofChange fnArgRjSpec)

/-- ITS FALSE NEIGHBOUR: 'it returns false'. Refute it at one input. -/
def fnArgRjWrong : ChangeSpec := { name := "fnArgRj", fn := fun _ => fun
  | [d] => { results := [.lit (.bool false)], args := [d] }
  | _ => none }
def FnArgRjWrongFalsely : Prop := fnArgRjRow.holds Try.pinned (OpenSpec.ofChange fnArgRjWrong)

/-- 'laws.FnArgRk': WHATEVER THE INPUT: true; the input reads as it did. -/
def fnArgRkSpec : ChangeSpec := { name := "fnArgRk", fn := fun _ => fun
  | [d] => { results := [.lit (.bool true)], args := [d] }
  | _ => none }
def fnArgRkRow : OpenClaim := { program := "ytfbdgpopkkmkjac", sum := "c7c894f4dcdd16867d8cdeea76ea4c1d1038ed8babf6ef7b12a005a4905be0ae", func := "loop.example/pub-g03337/laws.FnArgRk", spec := "fnArgRk", inPlace := ["gosem.stop:loop.example/pub-g03337/pub/loong64asm.instFormatAt"], apart := false }
def FnArgRkSaid : Prop := fnArgRkRow.holds Try.pinned (OpenSpec.ofChange fnArgRkSpec)

/-- ITS FALSE NEIGHBOUR: 'it returns false'. Refute it at one input. -/
def fnArgRkWrong : ChangeSpec := { name := "fnArgRk", fn := fun _ => fun
  | [d] => { results := [.lit (.bool false)], args := [d] }
  | _ => none }
def FnArgRkWrongFalsely : Prop := fnArgRkRow.holds Try.pinned (OpenSpec.ofChange fnArgRkWrong)

/-- 'laws.FnArgSa31715': WHATEVER THE INPUT: true; the input reads as it did. -/
def fnArgSa31715Spec : ChangeSpec := { name := "fnArgSa31715", fn := fun _ => fun
  | [d] => { results := [.lit (.bool true)], args := [d] }
  | _ => none }
def fnArgSa31715Row : OpenClaim := { program := "ytfbdgpopkkmkjac", sum := "c7c894f4dcdd16867d8cdeea76ea4c1d1038ed8babf6ef7b12a005a4905be0ae", func := "loop.example/pub-g03337/laws.FnArgSa31715", spec := "fnArgSa31715", inPlace := ["gosem.stop:loop.example/pub-g03337/pub/loong64asm.instFormatAt"], apart := false }
def FnArgSa31715Said : Prop := fnArgSa31715Row.holds Try.pinned (OpenSpec.ofChange fnArgSa31715Spec)

/-- ITS FALSE NEIGHBOUR: 'it returns false'. Refute it at one input. -/
def fnArgSa31715Wrong : ChangeSpec := { name := "fnArgSa31715", fn := fun _ => fun
  | [d] => { results := [.lit (.bool false)], args := [d] }
  | _ => none }
def FnArgSa31715WrongFalsely : Prop := fnArgSa31715Row.holds Try.pinned (OpenSpec.ofChange fnArgSa31715Wrong)

/-- 'laws.FnArgSeq1710': WHATEVER THE INPUT: true; the input reads as it did. -/
def fnArgSeq1710Spec : ChangeSpec := { name := "fnArgSeq1710", fn := fun _ => fun
  | [d] => { results := [.lit (.bool true)], args := [d] }
  | _ => none }
def fnArgSeq1710Row : OpenClaim := { program := "ytfbdgpopkkmkjac", sum := "c7c894f4dcdd16867d8cdeea76ea4c1d1038ed8babf6ef7b12a005a4905be0ae", func := "loop.example/pub-g03337/laws.FnArgSeq1710", spec := "fnArgSeq1710", inPlace := ["gosem.stop:loop.example/pub-g03337/pub/loong64asm.instFormatAt"], apart := false }
def FnArgSeq1710Said : Prop := fnArgSeq1710Row.holds Try.pinned (OpenSpec.ofChange fnArgSeq1710Spec)

/-- ITS FALSE NEIGHBOUR: 'it returns false'. Refute it at one input. -/
def fnArgSeq1710Wrong : ChangeSpec := { name := "fnArgSeq1710", fn := fun _ => fun
  | [d] => { results := [.lit (.bool false)], args := [d] }
  | _ => none }
def FnArgSeq1710WrongFalsely : Prop := fnArgSeq1710Row.holds Try.pinned (OpenSpec.ofChange fnArgSeq1710Wrong)

/-- 'laws.FnArgSi122110': WHATEVER THE INPUT: true; the input reads as it did. -/
def fnArgSi122110Spec : ChangeSpec := { name := "fnArgSi122110", fn := fun _ => fun
  | [d] => { results := [.lit (.bool true)], args := [d] }
  | _ => none }
def fnArgSi122110Row : OpenClaim := { program := "ytfbdgpopkkmkjac", sum := "c7c894f4dcdd16867d8cdeea76ea4c1d1038ed8babf6ef7b12a005a4905be0ae", func := "loop.example/pub-g03337/laws.FnArgSi122110", spec := "fnArgSi122110", inPlace := ["gosem.stop:loop.example/pub-g03337/pub/loong64asm.instFormatAt"], apart := false }
def FnArgSi122110Said : Prop := fnArgSi122110Row.holds Try.pinned (OpenSpec.ofChange fnArgSi122110Spec)

/-- ITS FALSE NEIGHBOUR: 'it returns false'. Refute it at one input. -/
def fnArgSi122110Wrong : ChangeSpec := { name := "fnArgSi122110", fn := fun _ => fun
  | [d] => { results := [.lit (.bool false)], args := [d] }
  | _ => none }
def FnArgSi122110WrongFalsely : Prop := fnArgSi122110Row.holds Try.pinned (OpenSpec.ofChange fnArgSi122110Wrong)

/-- 'laws.FnArgSi142310': WHATEVER THE INPUT: true; the input reads as it did. -/
def fnArgSi142310Spec : ChangeSpec := { name := "fnArgSi142310", fn := fun _ => fun
  | [d] => { results := [.lit (.bool true)], args := [d] }
  | _ => none }
def fnArgSi142310Row : OpenClaim := { program := "ytfbdgpopkkmkjac", sum := "c7c894f4dcdd16867d8cdeea76ea4c1d1038ed8babf6ef7b12a005a4905be0ae", func := "loop.example/pub-g03337/laws.FnArgSi142310", spec := "fnArgSi142310", inPlace := ["gosem.stop:loop.example/pub-g03337/pub/loong64asm.instFormatAt"], apart := false }
def FnArgSi142310Said : Prop := fnArgSi142310Row.holds Try.pinned (OpenSpec.ofChange fnArgSi142310Spec)

/-- ITS FALSE NEIGHBOUR: 'it returns false'. Refute it at one input. -/
def fnArgSi142310Wrong : ChangeSpec := { name := "fnArgSi142310", fn := fun _ => fun
  | [d] => { results := [.lit (.bool false)], args := [d] }
  | _ => none }
def FnArgSi142310WrongFalsely : Prop := fnArgSi142310Row.holds Try.pinned (OpenSpec.ofChange fnArgSi142310Wrong)

/-- 'laws.FnArgSi162510': WHATEVER THE INPUT: true; the input reads as it did. -/
def fnArgSi162510Spec : ChangeSpec := { name := "fnArgSi162510", fn := fun _ => fun
  | [d] => { results := [.lit (.bool true)], args := [d] }
  | _ => none }
def fnArgSi162510Row : OpenClaim := { program := "ytfbdgpopkkmkjac", sum := "c7c894f4dcdd16867d8cdeea76ea4c1d1038ed8babf6ef7b12a005a4905be0ae", func := "loop.example/pub-g03337/laws.FnArgSi162510", spec := "fnArgSi162510", inPlace := ["gosem.stop:loop.example/pub-g03337/pub/loong64asm.instFormatAt"], apart := false }
def FnArgSi162510Said : Prop := fnArgSi162510Row.holds Try.pinned (OpenSpec.ofChange fnArgSi162510Spec)

/-- ITS FALSE NEIGHBOUR: 'it returns false'. Refute it at one input. -/
def fnArgSi162510Wrong : ChangeSpec := { name := "fnArgSi162510", fn := fun _ => fun
  | [d] => { results := [.lit (.bool false)], args := [d] }
  | _ => none }
def FnArgSi162510WrongFalsely : Prop := fnArgSi162510Row.holds Try.pinned (OpenSpec.ofChange fnArgSi162510Wrong)

/-- 'laws.FnArgSi20245': WHATEVER THE INPUT: true; the input reads as it did. -/
def fnArgSi20245Spec : ChangeSpec := { name := "fnArgSi20245", fn := fun _ => fun
  | [d] => { results := [.lit (.bool true)], args := [d] }
  | _ => none }
def fnArgSi20245Row : OpenClaim := { program := "ytfbdgpopkkmkjac", sum := "c7c894f4dcdd16867d8cdeea76ea4c1d1038ed8babf6ef7b12a005a4905be0ae", func := "loop.example/pub-g03337/laws.FnArgSi20245", spec := "fnArgSi20245", inPlace := ["gosem.stop:loop.example/pub-g03337/pub/loong64asm.instFormatAt"], apart := false }
def FnArgSi20245Said : Prop := fnArgSi20245Row.holds Try.pinned (OpenSpec.ofChange fnArgSi20245Spec)

/-- ITS FALSE NEIGHBOUR: 'it returns false'. Refute it at one input. -/
def fnArgSi20245Wrong : ChangeSpec := { name := "fnArgSi20245", fn := fun _ => fun
  | [d] => { results := [.lit (.bool false)], args := [d] }
  | _ => none }
def FnArgSi20245WrongFalsely : Prop := fnArgSi20245Row.holds Try.pinned (OpenSpec.ofChange fnArgSi20245Wrong)

/-- 'laws.FnArgUi122110': WHATEVER THE INPUT: true; the input reads as it did. -/
def fnArgUi122110Spec : ChangeSpec := { name := "fnArgUi122110", fn := fun _ => fun
  | [d] => { results := [.lit (.bool true)], args := [d] }
  | _ => none }
def fnArgUi122110Row : OpenClaim := { program := "ytfbdgpopkkmkjac", sum := "c7c894f4dcdd16867d8cdeea76ea4c1d1038ed8babf6ef7b12a005a4905be0ae", func := "loop.example/pub-g03337/laws.FnArgUi122110", spec := "fnArgUi122110", inPlace := ["gosem.stop:loop.example/pub-g03337/pub/loong64asm.instFormatAt"], apart := false }
def FnArgUi122110Said : Prop := fnArgUi122110Row.holds Try.pinned (OpenSpec.ofChange fnArgUi122110Spec)

/-- ITS FALSE NEIGHBOUR: 'it returns false'. Refute it at one input. -/
def fnArgUi122110Wrong : ChangeSpec := { name := "fnArgUi122110", fn := fun _ => fun
  | [d] => { results := [.lit (.bool false)], args := [d] }
  | _ => none }
def FnArgUi122110WrongFalsely : Prop := fnArgUi122110Row.holds Try.pinned (OpenSpec.ofChange fnArgUi122110Wrong)

/-- 'laws.FnArgUi51410': WHATEVER THE INPUT: true; the input reads as it did. -/
def fnArgUi51410Spec : ChangeSpec := { name := "fnArgUi51410", fn := fun _ => fun
  | [d] => { results := [.lit (.bool true)], args := [d] }
  | _ => none }
def fnArgUi51410Row : OpenClaim := { program := "ytfbdgpopkkmkjac", sum := "c7c894f4dcdd16867d8cdeea76ea4c1d1038ed8babf6ef7b12a005a4905be0ae", func := "loop.example/pub-g03337/laws.FnArgUi51410", spec := "fnArgUi51410", inPlace := ["gosem.stop:loop.example/pub-g03337/pub/loong64asm.instFormatAt"], apart := false }
def FnArgUi51410Said : Prop := fnArgUi51410Row.holds Try.pinned (OpenSpec.ofChange fnArgUi51410Spec)

/-- ITS FALSE NEIGHBOUR: 'it returns false'. Refute it at one input. -/
def fnArgUi51410Wrong : ChangeSpec := { name := "fnArgUi51410", fn := fun _ => fun
  | [d] => { results := [.lit (.bool false)], args := [d] }
  | _ => none }
def FnArgUi51410WrongFalsely : Prop := fnArgUi51410Row.holds Try.pinned (OpenSpec.ofChange fnArgUi51410Wrong)

/-- 'laws.FnArgUi61510': WHATEVER THE INPUT: true; the input reads as it did. -/
def fnArgUi61510Spec : ChangeSpec := { name := "fnArgUi61510", fn := fun _ => fun
  | [d] => { results := [.lit (.bool true)], args := [d] }
  | _ => none }
def fnArgUi61510Row : OpenClaim := { program := "ytfbdgpopkkmkjac", sum := "c7c894f4dcdd16867d8cdeea76ea4c1d1038ed8babf6ef7b12a005a4905be0ae", func := "loop.example/pub-g03337/laws.FnArgUi61510", spec := "fnArgUi61510", inPlace := ["gosem.stop:loop.example/pub-g03337/pub/loong64asm.instFormatAt"], apart := false }
def FnArgUi61510Said : Prop := fnArgUi61510Row.holds Try.pinned (OpenSpec.ofChange fnArgUi61510Spec)

/-- ITS FALSE NEIGHBOUR: 'it returns false'. Refute it at one input. -/
def fnArgUi61510Wrong : ChangeSpec := { name := "fnArgUi61510", fn := fun _ => fun
  | [d] => { results := [.lit (.bool false)], args := [d] }
  | _ => none }
def FnArgUi61510WrongFalsely : Prop := fnArgUi61510Row.holds Try.pinned (OpenSpec.ofChange fnArgUi61510Wrong)

/- THE SECOND FORM. 'bulk': how many values and letters a reading holds, each counted each time it is reached (what is shared counts as often as it is met; a slice's spare places count too). A statement '..UptoSaid' is the law's where the arguments, and the package variables that the reading takes, are together of bulk at most 1048576: NARROWER than '..Said'. Prove '..Said' where nothing that the law and all that it calls make is longer than what came in: it says more and counts as full. Else prove '..UptoSaid'. A law counts once. -/
mutual
def uptoBulk {H : Type} : DataW H → Nat
  | .lit (.string bytes) => bytes.length + 1
  | .lit _ => 1
  | .nil => 1
  | .ptr d => uptoBulk d + 1
  | .slice elems spare => uptoBulkAll elems + uptoBulkAll spare + 1
  | .agg parts => uptoBulkAll parts + 1
  | .iface _ d => uptoBulk d + 1
  | .map entries => uptoBulkEntries entries + 1
  | .held _ => 1
def uptoBulkAll {H : Type} : List (DataW H) → Nat
  | [] => 0
  | d :: r => uptoBulk d + uptoBulkAll r
def uptoBulkEntries {H : Type} : List (Lit × DataW H) → Nat
  | [] => 0
  | x :: r => uptoBulkEntry x + uptoBulkEntries r
def uptoBulkEntry {H : Type} : Lit × DataW H → Nat
  | (.string bytes, d) => bytes.length + uptoBulk d + 1
  | (_, d) => uptoBulk d + 1
 end
def uptoSmall : (H : Type) → List (DataW H) → Bool := fun _ ds => decide (uptoBulkAll ds ≤ 1048576)
def OpenSpec.upto (s : _root_.Go.ChangeSpec) : _root_.Go.OpenSpec := { _root_.Go.OpenSpec.ofChange s with cond := some uptoSmall }

/-- 'laws.FnArgRd', WHERE WHAT IT READS IS OF BULK AT MOST 1048576: true; the input reads as it did. -/
def fnArgRdUptoRow : OpenClaim := { program := "ytfbdgpopkkmkjac", sum := "c7c894f4dcdd16867d8cdeea76ea4c1d1038ed8babf6ef7b12a005a4905be0ae", func := "loop.example/pub-g03337/laws.FnArgRd", spec := "fnArgRd", inPlace := ["gosem.stop:loop.example/pub-g03337/pub/loong64asm.instFormatAt"], apart := false, narrowed := true }
def FnArgRdUptoSaid : Prop := fnArgRdUptoRow.holds Try.pinned (OpenSpec.upto fnArgRdSpec)

/-- 'laws.FnArgRj', WHERE WHAT IT READS IS OF BULK AT MOST 1048576: true; the input reads as it did. -/
def fnArgRjUptoRow : OpenClaim := { program := "ytfbdgpopkkmkjac", sum := "c7c894f4dcdd16867d8cdeea76ea4c1d1038ed8babf6ef7b12a005a4905be0ae", func := "loop.example/pub-g03337/laws.FnArgRj", spec := "fnArgRj", inPlace := ["gosem.stop:loop.example/pub-g03337/pub/loong64asm.instFormatAt"], apart := false, narrowed := true }
def FnArgRjUptoSaid : Prop := fnArgRjUptoRow.holds Try.pinned (OpenSpec.upto fnArgRjSpec)

/-- 'laws.FnArgRk', WHERE WHAT IT READS IS OF BULK AT MOST 1048576: true; the input reads as it did. -/
def fnArgRkUptoRow : OpenClaim := { program := "ytfbdgpopkkmkjac", sum := "c7c894f4dcdd16867d8cdeea76ea4c1d1038ed8babf6ef7b12a005a4905be0ae", func := "loop.example/pub-g03337/laws.FnArgRk", spec := "fnArgRk", inPlace := ["gosem.stop:loop.example/pub-g03337/pub/loong64asm.instFormatAt"], apart := false, narrowed := true }
def FnArgRkUptoSaid : Prop := fnArgRkUptoRow.holds Try.pinned (OpenSpec.upto fnArgRkSpec)

/-- 'laws.FnArgSa31715', WHERE WHAT IT READS IS OF BULK AT MOST 1048576: true; the input reads as it did. -/
def fnArgSa31715UptoRow : OpenClaim := { program := "ytfbdgpopkkmkjac", sum := "c7c894f4dcdd16867d8cdeea76ea4c1d1038ed8babf6ef7b12a005a4905be0ae", func := "loop.example/pub-g03337/laws.FnArgSa31715", spec := "fnArgSa31715", inPlace := ["gosem.stop:loop.example/pub-g03337/pub/loong64asm.instFormatAt"], apart := false, narrowed := true }
def FnArgSa31715UptoSaid : Prop := fnArgSa31715UptoRow.holds Try.pinned (OpenSpec.upto fnArgSa31715Spec)

/-- 'laws.FnArgSeq1710', WHERE WHAT IT READS IS OF BULK AT MOST 1048576: true; the input reads as it did. -/
def fnArgSeq1710UptoRow : OpenClaim := { program := "ytfbdgpopkkmkjac", sum := "c7c894f4dcdd16867d8cdeea76ea4c1d1038ed8babf6ef7b12a005a4905be0ae", func := "loop.example/pub-g03337/laws.FnArgSeq1710", spec := "fnArgSeq1710", inPlace := ["gosem.stop:loop.example/pub-g03337/pub/loong64asm.instFormatAt"], apart := false, narrowed := true }
def FnArgSeq1710UptoSaid : Prop := fnArgSeq1710UptoRow.holds Try.pinned (OpenSpec.upto fnArgSeq1710Spec)

/-- 'laws.FnArgSi122110', WHERE WHAT IT READS IS OF BULK AT MOST 1048576: true; the input reads as it did. -/
def fnArgSi122110UptoRow : OpenClaim := { program := "ytfbdgpopkkmkjac", sum := "c7c894f4dcdd16867d8cdeea76ea4c1d1038ed8babf6ef7b12a005a4905be0ae", func := "loop.example/pub-g03337/laws.FnArgSi122110", spec := "fnArgSi122110", inPlace := ["gosem.stop:loop.example/pub-g03337/pub/loong64asm.instFormatAt"], apart := false, narrowed := true }
def FnArgSi122110UptoSaid : Prop := fnArgSi122110UptoRow.holds Try.pinned (OpenSpec.upto fnArgSi122110Spec)

/-- 'laws.FnArgSi142310', WHERE WHAT IT READS IS OF BULK AT MOST 1048576: true; the input reads as it did. -/
def fnArgSi142310UptoRow : OpenClaim := { program := "ytfbdgpopkkmkjac", sum := "c7c894f4dcdd16867d8cdeea76ea4c1d1038ed8babf6ef7b12a005a4905be0ae", func := "loop.example/pub-g03337/laws.FnArgSi142310", spec := "fnArgSi142310", inPlace := ["gosem.stop:loop.example/pub-g03337/pub/loong64asm.instFormatAt"], apart := false, narrowed := true }
def FnArgSi142310UptoSaid : Prop := fnArgSi142310UptoRow.holds Try.pinned (OpenSpec.upto fnArgSi142310Spec)

/-- 'laws.FnArgSi162510', WHERE WHAT IT READS IS OF BULK AT MOST 1048576: true; the input reads as it did. -/
def fnArgSi162510UptoRow : OpenClaim := { program := "ytfbdgpopkkmkjac", sum := "c7c894f4dcdd16867d8cdeea76ea4c1d1038ed8babf6ef7b12a005a4905be0ae", func := "loop.example/pub-g03337/laws.FnArgSi162510", spec := "fnArgSi162510", inPlace := ["gosem.stop:loop.example/pub-g03337/pub/loong64asm.instFormatAt"], apart := false, narrowed := true }
def FnArgSi162510UptoSaid : Prop := fnArgSi162510UptoRow.holds Try.pinned (OpenSpec.upto fnArgSi162510Spec)

/-- 'laws.FnArgSi20245', WHERE WHAT IT READS IS OF BULK AT MOST 1048576: true; the input reads as it did. -/
def fnArgSi20245UptoRow : OpenClaim := { program := "ytfbdgpopkkmkjac", sum := "c7c894f4dcdd16867d8cdeea76ea4c1d1038ed8babf6ef7b12a005a4905be0ae", func := "loop.example/pub-g03337/laws.FnArgSi20245", spec := "fnArgSi20245", inPlace := ["gosem.stop:loop.example/pub-g03337/pub/loong64asm.instFormatAt"], apart := false, narrowed := true }
def FnArgSi20245UptoSaid : Prop := fnArgSi20245UptoRow.holds Try.pinned (OpenSpec.upto fnArgSi20245Spec)

/-- 'laws.FnArgUi122110', WHERE WHAT IT READS IS OF BULK AT MOST 1048576: true; the input reads as it did. -/
def fnArgUi122110UptoRow : OpenClaim := { program := "ytfbdgpopkkmkjac", sum := "c7c894f4dcdd16867d8cdeea76ea4c1d1038ed8babf6ef7b12a005a4905be0ae", func := "loop.example/pub-g03337/laws.FnArgUi122110", spec := "fnArgUi122110", inPlace := ["gosem.stop:loop.example/pub-g03337/pub/loong64asm.instFormatAt"], apart := false, narrowed := true }
def FnArgUi122110UptoSaid : Prop := fnArgUi122110UptoRow.holds Try.pinned (OpenSpec.upto fnArgUi122110Spec)

/-- 'laws.FnArgUi51410', WHERE WHAT IT READS IS OF BULK AT MOST 1048576: true; the input reads as it did. -/
def fnArgUi51410UptoRow : OpenClaim := { program := "ytfbdgpopkkmkjac", sum := "c7c894f4dcdd16867d8cdeea76ea4c1d1038ed8babf6ef7b12a005a4905be0ae", func := "loop.example/pub-g03337/laws.FnArgUi51410", spec := "fnArgUi51410", inPlace := ["gosem.stop:loop.example/pub-g03337/pub/loong64asm.instFormatAt"], apart := false, narrowed := true }
def FnArgUi51410UptoSaid : Prop := fnArgUi51410UptoRow.holds Try.pinned (OpenSpec.upto fnArgUi51410Spec)

/-- 'laws.FnArgUi61510', WHERE WHAT IT READS IS OF BULK AT MOST 1048576: true; the input reads as it did. -/
def fnArgUi61510UptoRow : OpenClaim := { program := "ytfbdgpopkkmkjac", sum := "c7c894f4dcdd16867d8cdeea76ea4c1d1038ed8babf6ef7b12a005a4905be0ae", func := "loop.example/pub-g03337/laws.FnArgUi61510", spec := "fnArgUi61510", inPlace := ["gosem.stop:loop.example/pub-g03337/pub/loong64asm.instFormatAt"], apart := false, narrowed := true }
def FnArgUi61510UptoSaid : Prop := fnArgUi61510UptoRow.holds Try.pinned (OpenSpec.upto fnArgUi61510Spec)

end Rows
end Go.Proofs.Ytfbdgpopkkmkjac
