/-
  No cell of these rows narrows 'for every input' (looked for: loops, veiled, ifaces, maps, wideKeys, modest, calm, conditions, laid).
  DERIVED. THE GIVEN ROWS OF THIS SEAT. 12 by the template 'for every input the law returns true; each argument reads behind the call as it read before'; 0 by the template 'total and deterministic' (their statements: YtfbdgpopkkmkjaaTotals.lean).
  GIVEN WITH THE SEED: the statements are not yours to turn. If you find one false, say at which input.
  Laid BY PROGRAM, IN A SANDBOX (cutbox-rows.mjs): the forced cells as the released guide's own fill.sh prints them over the translation 8a93fdcb85233c6b… (all of the seat's roots in one cut). By AI agents, Wed Nov 11 2026. No macro, syntax, notation, axiom, sorry.
-/
import Derived.Test.YtfbdgpopkkmkjaaChecked
import GoSem.Claim
import GoSem.ClaimJoined
import GoSem.ClaimMapViews
import Derived.JoinedTies
import Derived.KernelRfl
namespace Go.Proofs.Ytfbdgpopkkmkjaa
/- THE CELL 'sum', in the pinned program and in every row, IS THE sha256 OF THE DUMP (.gsa) THAT YtfbdgpopkkmkjaaProg.lean LOADS. Nothing in Lean hashes anything: it is a label: what it is worth is what the hold of that sum in a sandbox is worth. -/
noncomputable def Try.pinned : Pinned := { name := "ytfbdgpopkkmkjaa", sum := "8a93fdcb85233c6b66ea9a7e5b693559ea0b6b33e9318776bfbed685e3d41e7b", checked := Try.checked }
namespace Rows
def none {H : Type} : Left H := { results := [], args := [] }

/-- 'laws.FnArgCa': WHATEVER THE INPUT: true; the input reads as it did. -/
def fnArgCaSpec : ChangeSpec := { name := "fnArgCa", fn := fun _ => fun
  | [d] => { results := [.lit (.bool true)], args := [d] }
  | _ => none }
def fnArgCaRow : OpenClaim := { program := "ytfbdgpopkkmkjaa", sum := "8a93fdcb85233c6b66ea9a7e5b693559ea0b6b33e9318776bfbed685e3d41e7b", func := "loop.example/pub-g03337/laws.FnArgCa", spec := "fnArgCa", inPlace := ["gosem.stop:loop.example/pub-g03337/pub/loong64asm.instFormatAt"], apart := false }
def FnArgCaSaid : Prop := fnArgCaRow.holds Try.pinned (OpenSpec.ofChange fnArgCaSpec)

/-- ITS FALSE NEIGHBOUR: 'it returns false'. Refute it at one input. -/
def fnArgCaWrong : ChangeSpec := { name := "fnArgCa", fn := fun _ => fun
  | [d] => { results := [.lit (.bool false)], args := [d] }
  | _ => none }
def FnArgCaWrongFalsely : Prop := fnArgCaRow.holds Try.pinned (OpenSpec.ofChange fnArgCaWrong)

/-- 'laws.FnArgCd': WHATEVER THE INPUT: true; the input reads as it did. -/
def fnArgCdSpec : ChangeSpec := { name := "fnArgCd", fn := fun _ => fun
  | [d] => { results := [.lit (.bool true)], args := [d] }
  | _ => none }
def fnArgCdRow : OpenClaim := { program := "ytfbdgpopkkmkjaa", sum := "8a93fdcb85233c6b66ea9a7e5b693559ea0b6b33e9318776bfbed685e3d41e7b", func := "loop.example/pub-g03337/laws.FnArgCd", spec := "fnArgCd", inPlace := ["gosem.stop:loop.example/pub-g03337/pub/loong64asm.instFormatAt"], apart := false }
def FnArgCdSaid : Prop := fnArgCdRow.holds Try.pinned (OpenSpec.ofChange fnArgCdSpec)

/-- ITS FALSE NEIGHBOUR: 'it returns false'. Refute it at one input. -/
def fnArgCdWrong : ChangeSpec := { name := "fnArgCd", fn := fun _ => fun
  | [d] => { results := [.lit (.bool false)], args := [d] }
  | _ => none }
def FnArgCdWrongFalsely : Prop := fnArgCdRow.holds Try.pinned (OpenSpec.ofChange fnArgCdWrong)

/-- 'laws.FnArgCj': WHATEVER THE INPUT: true; the input reads as it did. -/
def fnArgCjSpec : ChangeSpec := { name := "fnArgCj", fn := fun _ => fun
  | [d] => { results := [.lit (.bool true)], args := [d] }
  | _ => none }
def fnArgCjRow : OpenClaim := { program := "ytfbdgpopkkmkjaa", sum := "8a93fdcb85233c6b66ea9a7e5b693559ea0b6b33e9318776bfbed685e3d41e7b", func := "loop.example/pub-g03337/laws.FnArgCj", spec := "fnArgCj", inPlace := ["gosem.stop:loop.example/pub-g03337/pub/loong64asm.instFormatAt"], apart := false }
def FnArgCjSaid : Prop := fnArgCjRow.holds Try.pinned (OpenSpec.ofChange fnArgCjSpec)

/-- ITS FALSE NEIGHBOUR: 'it returns false'. Refute it at one input. -/
def fnArgCjWrong : ChangeSpec := { name := "fnArgCj", fn := fun _ => fun
  | [d] => { results := [.lit (.bool false)], args := [d] }
  | _ => none }
def FnArgCjWrongFalsely : Prop := fnArgCjRow.holds Try.pinned (OpenSpec.ofChange fnArgCjWrong)

/-- 'laws.FnArgCode140': WHATEVER THE INPUT: true; the input reads as it did. -/
def fnArgCode140Spec : ChangeSpec := { name := "fnArgCode140", fn := fun _ => fun
  | [d] => { results := [.lit (.bool true)], args := [d] }
  | _ => none }
def fnArgCode140Row : OpenClaim := { program := "ytfbdgpopkkmkjaa", sum := "8a93fdcb85233c6b66ea9a7e5b693559ea0b6b33e9318776bfbed685e3d41e7b", func := "loop.example/pub-g03337/laws.FnArgCode140", spec := "fnArgCode140", inPlace := ["gosem.stop:loop.example/pub-g03337/pub/loong64asm.instFormatAt"], apart := false }
def FnArgCode140Said : Prop := fnArgCode140Row.holds Try.pinned (OpenSpec.ofChange fnArgCode140Spec)

/-- ITS FALSE NEIGHBOUR: 'it returns false'. Refute it at one input. -/
def fnArgCode140Wrong : ChangeSpec := { name := "fnArgCode140", fn := fun _ => fun
  | [d] => { results := [.lit (.bool false)], args := [d] }
  | _ => none }
def FnArgCode140WrongFalsely : Prop := fnArgCode140Row.holds Try.pinned (OpenSpec.ofChange fnArgCode140Wrong)

/-- 'laws.FnArgCode40': WHATEVER THE INPUT: true; the input reads as it did. -/
def fnArgCode40Spec : ChangeSpec := { name := "fnArgCode40", fn := fun _ => fun
  | [d] => { results := [.lit (.bool true)], args := [d] }
  | _ => none }
def fnArgCode40Row : OpenClaim := { program := "ytfbdgpopkkmkjaa", sum := "8a93fdcb85233c6b66ea9a7e5b693559ea0b6b33e9318776bfbed685e3d41e7b", func := "loop.example/pub-g03337/laws.FnArgCode40", spec := "fnArgCode40", inPlace := ["gosem.stop:loop.example/pub-g03337/pub/loong64asm.instFormatAt"], apart := false }
def FnArgCode40Said : Prop := fnArgCode40Row.holds Try.pinned (OpenSpec.ofChange fnArgCode40Spec)

/-- ITS FALSE NEIGHBOUR: 'it returns false'. Refute it at one input. -/
def fnArgCode40Wrong : ChangeSpec := { name := "fnArgCode40", fn := fun _ => fun
  | [d] => { results := [.lit (.bool false)], args := [d] }
  | _ => none }
def FnArgCode40WrongFalsely : Prop := fnArgCode40Row.holds Try.pinned (OpenSpec.ofChange fnArgCode40Wrong)

/-- 'laws.FnArgCsr2310': WHATEVER THE INPUT: true; the input reads as it did. -/
def fnArgCsr2310Spec : ChangeSpec := { name := "fnArgCsr2310", fn := fun _ => fun
  | [d] => { results := [.lit (.bool true)], args := [d] }
  | _ => none }
def fnArgCsr2310Row : OpenClaim := { program := "ytfbdgpopkkmkjaa", sum := "8a93fdcb85233c6b66ea9a7e5b693559ea0b6b33e9318776bfbed685e3d41e7b", func := "loop.example/pub-g03337/laws.FnArgCsr2310", spec := "fnArgCsr2310", inPlace := ["gosem.stop:loop.example/pub-g03337/pub/loong64asm.instFormatAt"], apart := false }
def FnArgCsr2310Said : Prop := fnArgCsr2310Row.holds Try.pinned (OpenSpec.ofChange fnArgCsr2310Spec)

/-- ITS FALSE NEIGHBOUR: 'it returns false'. Refute it at one input. -/
def fnArgCsr2310Wrong : ChangeSpec := { name := "fnArgCsr2310", fn := fun _ => fun
  | [d] => { results := [.lit (.bool false)], args := [d] }
  | _ => none }
def FnArgCsr2310WrongFalsely : Prop := fnArgCsr2310Row.holds Try.pinned (OpenSpec.ofChange fnArgCsr2310Wrong)

/-- 'laws.FnArgFa': WHATEVER THE INPUT: true; the input reads as it did. -/
def fnArgFaSpec : ChangeSpec := { name := "fnArgFa", fn := fun _ => fun
  | [d] => { results := [.lit (.bool true)], args := [d] }
  | _ => none }
def fnArgFaRow : OpenClaim := { program := "ytfbdgpopkkmkjaa", sum := "8a93fdcb85233c6b66ea9a7e5b693559ea0b6b33e9318776bfbed685e3d41e7b", func := "loop.example/pub-g03337/laws.FnArgFa", spec := "fnArgFa", inPlace := ["gosem.stop:loop.example/pub-g03337/pub/loong64asm.instFormatAt"], apart := false }
def FnArgFaSaid : Prop := fnArgFaRow.holds Try.pinned (OpenSpec.ofChange fnArgFaSpec)

/-- ITS FALSE NEIGHBOUR: 'it returns false'. Refute it at one input. -/
def fnArgFaWrong : ChangeSpec := { name := "fnArgFa", fn := fun _ => fun
  | [d] => { results := [.lit (.bool false)], args := [d] }
  | _ => none }
def FnArgFaWrongFalsely : Prop := fnArgFaRow.holds Try.pinned (OpenSpec.ofChange fnArgFaWrong)

/-- 'laws.FnArgFcsr40': WHATEVER THE INPUT: true; the input reads as it did. -/
def fnArgFcsr40Spec : ChangeSpec := { name := "fnArgFcsr40", fn := fun _ => fun
  | [d] => { results := [.lit (.bool true)], args := [d] }
  | _ => none }
def fnArgFcsr40Row : OpenClaim := { program := "ytfbdgpopkkmkjaa", sum := "8a93fdcb85233c6b66ea9a7e5b693559ea0b6b33e9318776bfbed685e3d41e7b", func := "loop.example/pub-g03337/laws.FnArgFcsr40", spec := "fnArgFcsr40", inPlace := ["gosem.stop:loop.example/pub-g03337/pub/loong64asm.instFormatAt"], apart := false }
def FnArgFcsr40Said : Prop := fnArgFcsr40Row.holds Try.pinned (OpenSpec.ofChange fnArgFcsr40Spec)

/-- ITS FALSE NEIGHBOUR: 'it returns false'. Refute it at one input. -/
def fnArgFcsr40Wrong : ChangeSpec := { name := "fnArgFcsr40", fn := fun _ => fun
  | [d] => { results := [.lit (.bool false)], args := [d] }
  | _ => none }
def FnArgFcsr40WrongFalsely : Prop := fnArgFcsr40Row.holds Try.pinned (OpenSpec.ofChange fnArgFcsr40Wrong)

/-- 'laws.FnArgFcsr95': WHATEVER THE INPUT: true; the input reads as it did. -/
def fnArgFcsr95Spec : ChangeSpec := { name := "fnArgFcsr95", fn := fun _ => fun
  | [d] => { results := [.lit (.bool true)], args := [d] }
  | _ => none }
def fnArgFcsr95Row : OpenClaim := { program := "ytfbdgpopkkmkjaa", sum := "8a93fdcb85233c6b66ea9a7e5b693559ea0b6b33e9318776bfbed685e3d41e7b", func := "loop.example/pub-g03337/laws.FnArgFcsr95", spec := "fnArgFcsr95", inPlace := ["gosem.stop:loop.example/pub-g03337/pub/loong64asm.instFormatAt"], apart := false }
def FnArgFcsr95Said : Prop := fnArgFcsr95Row.holds Try.pinned (OpenSpec.ofChange fnArgFcsr95Spec)

/-- ITS FALSE NEIGHBOUR: 'it returns false'. Refute it at one input. -/
def fnArgFcsr95Wrong : ChangeSpec := { name := "fnArgFcsr95", fn := fun _ => fun
  | [d] => { results := [.lit (.bool false)], args := [d] }
  | _ => none }
def FnArgFcsr95WrongFalsely : Prop := fnArgFcsr95Row.holds Try.pinned (OpenSpec.ofChange fnArgFcsr95Wrong)

/-- 'laws.FnArgFd': WHATEVER THE INPUT: true; the input reads as it did. -/
def fnArgFdSpec : ChangeSpec := { name := "fnArgFd", fn := fun _ => fun
  | [d] => { results := [.lit (.bool true)], args := [d] }
  | _ => none }
def fnArgFdRow : OpenClaim := { program := "ytfbdgpopkkmkjaa", sum := "8a93fdcb85233c6b66ea9a7e5b693559ea0b6b33e9318776bfbed685e3d41e7b", func := "loop.example/pub-g03337/laws.FnArgFd", spec := "fnArgFd", inPlace := ["gosem.stop:loop.example/pub-g03337/pub/loong64asm.instFormatAt"], apart := false }
def FnArgFdSaid : Prop := fnArgFdRow.holds Try.pinned (OpenSpec.ofChange fnArgFdSpec)

/-- ITS FALSE NEIGHBOUR: 'it returns false'. Refute it at one input. -/
def fnArgFdWrong : ChangeSpec := { name := "fnArgFd", fn := fun _ => fun
  | [d] => { results := [.lit (.bool false)], args := [d] }
  | _ => none }
def FnArgFdWrongFalsely : Prop := fnArgFdRow.holds Try.pinned (OpenSpec.ofChange fnArgFdWrong)

/-- 'laws.FnArgFj': WHATEVER THE INPUT: true; the input reads as it did. -/
def fnArgFjSpec : ChangeSpec := { name := "fnArgFj", fn := fun _ => fun
  | [d] => { results := [.lit (.bool true)], args := [d] }
  | _ => none }
def fnArgFjRow : OpenClaim := { program := "ytfbdgpopkkmkjaa", sum := "8a93fdcb85233c6b66ea9a7e5b693559ea0b6b33e9318776bfbed685e3d41e7b", func := "loop.example/pub-g03337/laws.FnArgFj", spec := "fnArgFj", inPlace := ["gosem.stop:loop.example/pub-g03337/pub/loong64asm.instFormatAt"], apart := false }
def FnArgFjSaid : Prop := fnArgFjRow.holds Try.pinned (OpenSpec.ofChange fnArgFjSpec)

/-- ITS FALSE NEIGHBOUR: 'it returns false'. Refute it at one input. -/
def fnArgFjWrong : ChangeSpec := { name := "fnArgFj", fn := fun _ => fun
  | [d] => { results := [.lit (.bool false)], args := [d] }
  | _ => none }
def FnArgFjWrongFalsely : Prop := fnArgFjRow.holds Try.pinned (OpenSpec.ofChange fnArgFjWrong)

/-- 'laws.FnArgFk': WHATEVER THE INPUT: true; the input reads as it did. -/
def fnArgFkSpec : ChangeSpec := { name := "fnArgFk", fn := fun _ => fun
  | [d] => { results := [.lit (.bool true)], args := [d] }
  | _ => none }
def fnArgFkRow : OpenClaim := { program := "ytfbdgpopkkmkjaa", sum := "8a93fdcb85233c6b66ea9a7e5b693559ea0b6b33e9318776bfbed685e3d41e7b", func := "loop.example/pub-g03337/laws.FnArgFk", spec := "fnArgFk", inPlace := ["gosem.stop:loop.example/pub-g03337/pub/loong64asm.instFormatAt"], apart := false }
def FnArgFkSaid : Prop := fnArgFkRow.holds Try.pinned (OpenSpec.ofChange fnArgFkSpec)

/-- ITS FALSE NEIGHBOUR: 'it returns false'. Refute it at one input. -/
def fnArgFkWrong : ChangeSpec := { name := "fnArgFk", fn := fun _ => fun
  | [d] => { results := [.lit (.bool false)], args := [d] }
  | _ => none }
def FnArgFkWrongFalsely : Prop := fnArgFkRow.holds Try.pinned (OpenSpec.ofChange fnArgFkWrong)

/- THE SECOND FORM. 'bulk': how many values and letters a reading holds, each counted each time it is reached (what is shared counts as often as it is met; a slice's spare places count too). A statement '..UptoSaid' is the law's where the arguments, and the package variables that the reading takes, are together of bulk at most 1048576: NARROWER than '..Said'. Prove '..Said' where nothing that the law and all that it calls make is longer than what came in: it says more and counts as full. Else prove '..UptoSaid'. A law counts once. -/
mutual
def uptoBulk {H : Type} : DataW H → Nat
  | .lit (.string bytes) => bytes.length + 1
  | .lit _ => 1
  | .nil => 1
  | .ptr d => uptoBulk d + 1
  | .slice elems spare => uptoBulkAll elems + uptoBulkAll spare + 1
  | .agg parts => uptoBulkAll parts + 1
  | .iface _ d => uptoBulk d + 1
  | .map entries => uptoBulkEntries entries + 1
  | .held _ => 1
def uptoBulkAll {H : Type} : List (DataW H) → Nat
  | [] => 0
  | d :: r => uptoBulk d + uptoBulkAll r
def uptoBulkEntries {H : Type} : List (Lit × DataW H) → Nat
  | [] => 0
  | x :: r => uptoBulkEntry x + uptoBulkEntries r
def uptoBulkEntry {H : Type} : Lit × DataW H → Nat
  | (.string bytes, d) => bytes.length + uptoBulk d + 1
  | (_, d) => uptoBulk d + 1
 end
def uptoSmall : (H : Type) → List (DataW H) → Bool := fun _ ds => decide (uptoBulkAll ds ≤ 1048576)
def OpenSpec.upto (s : _root_.Go.ChangeSpec) : _root_.Go.OpenSpec := { _root_.Go.OpenSpec.ofChange s with cond := some uptoSmall }

/-- 'laws.FnArgCa', WHERE WHAT IT READS IS OF BULK AT MOST 1048576: true; the input reads as it did. -/
def fnArgCaUptoRow : OpenClaim := { program := "ytfbdgpopkkmkjaa", sum := "8a93fdcb85233c6b66ea9a7e5b693559ea0b6b33e9318776bfbed685e3d41e7b", func := "loop.example/pub-g03337/laws.FnArgCa", spec := "fnArgCa", inPlace := ["gosem.stop:loop.example/pub-g03337/pub/loong64asm.instFormatAt"], apart := false, narrowed := true }
def FnArgCaUptoSaid : Prop := fnArgCaUptoRow.holds Try.pinned (OpenSpec.upto fnArgCaSpec)

/-- 'laws.FnArgCd', WHERE WHAT IT READS IS OF BULK AT MOST 1048576: true; the input reads as it did. -/
def fnArgCdUptoRow : OpenClaim := { program := "ytfbdgpopkkmkjaa", sum := "8a93fdcb85233c6b66ea9a7e5b693559ea0b6b33e9318776bfbed685e3d41e7b", func := "loop.example/pub-g03337/laws.FnArgCd", spec := "fnArgCd", inPlace := ["gosem.stop:loop.example/pub-g03337/pub/loong64asm.instFormatAt"], apart := false, narrowed := true }
def FnArgCdUptoSaid : Prop := fnArgCdUptoRow.holds Try.pinned (OpenSpec.upto fnArgCdSpec)

/-- 'laws.FnArgCj', WHERE WHAT IT READS IS OF BULK AT MOST 1048576: true; the input reads as it did. -/
def fnArgCjUptoRow : OpenClaim := { program := "ytfbdgpopkkmkjaa", sum := "8a93fdcb85233c6b66ea9a7e5b693559ea0b6b33e9318776bfbed685e3d41e7b", func := "loop.example/pub-g03337/laws.FnArgCj", spec := "fnArgCj", inPlace := ["gosem.stop:loop.example/pub-g03337/pub/loong64asm.instFormatAt"], apart := false, narrowed := true }
def FnArgCjUptoSaid : Prop := fnArgCjUptoRow.holds Try.pinned (OpenSpec.upto fnArgCjSpec)

/-- 'laws.FnArgCode140', WHERE WHAT IT READS IS OF BULK AT MOST 1048576: true; the input reads as it did. -/
def fnArgCode140UptoRow : OpenClaim := { program := "ytfbdgpopkkmkjaa", sum := "8a93fdcb85233c6b66ea9a7e5b693559ea0b6b33e9318776bfbed685e3d41e7b", func := "loop.example/pub-g03337/laws.FnArgCode140", spec := "fnArgCode140", inPlace := ["gosem.stop:loop.example/pub-g03337/pub/loong64asm.instFormatAt"], apart := false, narrowed := true }
def FnArgCode140UptoSaid : Prop := fnArgCode140UptoRow.holds Try.pinned (OpenSpec.upto fnArgCode140Spec)

/-- 'laws.FnArgCode40', WHERE WHAT IT READS IS OF BULK AT MOST 1048576: true; the input reads as it did. -/
def fnArgCode40UptoRow : OpenClaim := { program := "ytfbdgpopkkmkjaa", sum := "8a93fdcb85233c6b66ea9a7e5b693559ea0b6b33e9318776bfbed685e3d41e7b", func := "loop.example/pub-g03337/laws.FnArgCode40", spec := "fnArgCode40", inPlace := ["gosem.stop:loop.example/pub-g03337/pub/loong64asm.instFormatAt"], apart := false, narrowed := true }
def FnArgCode40UptoSaid : Prop := fnArgCode40UptoRow.holds Try.pinned (OpenSpec.upto fnArgCode40Spec)

/-- 'laws.FnArgCsr2310', WHERE WHAT IT READS IS OF BULK AT MOST 1048576: true; the input reads as it did. -/
def fnArgCsr2310UptoRow : OpenClaim := { program := "ytfbdgpopkkmkjaa", sum := "8a93fdcb85233c6b66ea9a7e5b693559ea0b6b33e9318776bfbed685e3d41e7b", func := "loop.example/pub-g03337/laws.FnArgCsr2310", spec := "fnArgCsr2310", inPlace := ["gosem.stop:loop.example/pub-g03337/pub/loong64asm.instFormatAt"], apart := false, narrowed := true }
def FnArgCsr2310UptoSaid : Prop := fnArgCsr2310UptoRow.holds Try.pinned (OpenSpec.upto fnArgCsr2310Spec)

/-- 'laws.FnArgFa', WHERE WHAT IT READS IS OF BULK AT MOST 1048576: true; the input reads as it did. -/
def fnArgFaUptoRow : OpenClaim := { program := "ytfbdgpopkkmkjaa", sum := "8a93fdcb85233c6b66ea9a7e5b693559ea0b6b33e9318776bfbed685e3d41e7b", func := "loop.example/pub-g03337/laws.FnArgFa", spec := "fnArgFa", inPlace := ["gosem.stop:loop.example/pub-g03337/pub/loong64asm.instFormatAt"], apart := false, narrowed := true }
def FnArgFaUptoSaid : Prop := fnArgFaUptoRow.holds Try.pinned (OpenSpec.upto fnArgFaSpec)

/-- 'laws.FnArgFcsr40', WHERE WHAT IT READS IS OF BULK AT MOST 1048576: true; the input reads as it did. -/
def fnArgFcsr40UptoRow : OpenClaim := { program := "ytfbdgpopkkmkjaa", sum := "8a93fdcb85233c6b66ea9a7e5b693559ea0b6b33e9318776bfbed685e3d41e7b", func := "loop.example/pub-g03337/laws.FnArgFcsr40", spec := "fnArgFcsr40", inPlace := ["gosem.stop:loop.example/pub-g03337/pub/loong64asm.instFormatAt"], apart := false, narrowed := true }
def FnArgFcsr40UptoSaid : Prop := fnArgFcsr40UptoRow.holds Try.pinned (OpenSpec.upto fnArgFcsr40Spec)

/-- 'laws.FnArgFcsr95', WHERE WHAT IT READS IS OF BULK AT MOST 1048576: true; the input reads as it did. -/
def fnArgFcsr95UptoRow : OpenClaim := { program := "ytfbdgpopkkmkjaa", sum := "8a93fdcb85233c6b66ea9a7e5b693559ea0b6b33e9318776bfbed685e3d41e7b", func := "loop.example/pub-g03337/laws.FnArgFcsr95", spec := "fnArgFcsr95", inPlace := ["gosem.stop:loop.example/pub-g03337/pub/loong64asm.instFormatAt"], apart := false, narrowed := true }
def FnArgFcsr95UptoSaid : Prop := fnArgFcsr95UptoRow.holds Try.pinned (OpenSpec.upto fnArgFcsr95Spec)

/-- 'laws.FnArgFd', WHERE WHAT IT READS IS OF BULK AT MOST 1048576: true; the input reads as it did. -/
def fnArgFdUptoRow : OpenClaim := { program := "ytfbdgpopkkmkjaa", sum := "8a93fdcb85233c6b66ea9a7e5b693559ea0b6b33e9318776bfbed685e3d41e7b", func := "loop.example/pub-g03337/laws.FnArgFd", spec := "fnArgFd", inPlace := ["gosem.stop:loop.example/pub-g03337/pub/loong64asm.instFormatAt"], apart := false, narrowed := true }
def FnArgFdUptoSaid : Prop := fnArgFdUptoRow.holds Try.pinned (OpenSpec.upto fnArgFdSpec)

/-- 'laws.FnArgFj', WHERE WHAT IT READS IS OF BULK AT MOST 1048576: true; the input reads as it did. -/
def fnArgFjUptoRow : OpenClaim := { program := "ytfbdgpopkkmkjaa", sum := "8a93fdcb85233c6b66ea9a7e5b693559ea0b6b33e9318776bfbed685e3d41e7b", func := "loop.example/pub-g03337/laws.FnArgFj", spec := "fnArgFj", inPlace := ["gosem.stop:loop.example/pub-g03337/pub/loong64asm.instFormatAt"], apart := false, narrowed := true }
def FnArgFjUptoSaid : Prop := fnArgFjUptoRow.holds Try.pinned (OpenSpec.upto fnArgFjSpec)

/-- 'laws.FnArgFk', WHERE WHAT IT READS IS OF BULK AT MOST 1048576: true; the input reads as it did. -/
def fnArgFkUptoRow : OpenClaim := { program := "ytfbdgpopkkmkjaa", sum := "8a93fdcb85233c6b66ea9a7e5b693559ea0b6b33e9318776bfbed685e3d41e7b", func := "loop.example/pub-g03337/laws.FnArgFk", spec := "fnArgFk", inPlace := ["gosem.stop:loop.example/pub-g03337/pub/loong64asm.instFormatAt"], apart := false, narrowed := true }
def FnArgFkUptoSaid : Prop := fnArgFkUptoRow.holds Try.pinned (OpenSpec.upto fnArgFkSpec)

end Rows
end Go.Proofs.Ytfbdgpopkkmkjaa
