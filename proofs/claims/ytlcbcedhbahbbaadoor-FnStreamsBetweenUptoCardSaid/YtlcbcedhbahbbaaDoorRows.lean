/-
  NARROWER THAN 'FOR EVERY INPUT', by the rows' own cells (each row's printed sentence says how): FnStreamCounts32: laid · FnStreamLines32: laid · FnStreamRead32: laid · FnStreamCounts64: laid · FnStreamLines64: laid · FnStreamRead64: laid · FnStreamThrough32: laid · FnStreamThrough64: laid · FnStreamsBetween: laid.
  DERIVED. THE GIVEN ROWS OF THIS SEAT. 9 by the template 'for every input the law returns true; each argument reads behind the call as it read before'; 0 by the template 'total and deterministic' (their statements: YtlcbcedhbahbbaaDoorTotals.lean).
  GIVEN WITH THE SEED: the statements are not yours to turn. If you find one false, say at which input.
  Laid BY PROGRAM, IN A SANDBOX (cutbox-rows.mjs): the forced cells as the released guide's own fill.sh prints them over the translation fd53c4888f46b4b5… (all of the seat's roots in one cut). By AI agents, Wed Nov 11 2026. No macro, syntax, notation, axiom, sorry.
-/
import Derived.Test.YtlcbcedhbahbbaaDoorChecked
import GoSem.Claim
import GoSem.ClaimJoined
import GoSem.ClaimMapViews
import Derived.JoinedTies
import Derived.KernelRfl
namespace Go.Proofs.YtlcbcedhbahbbaaDoor
/- THE CELL 'sum', in the pinned program and in every row, IS THE sha256 OF THE DUMP (.gsa) THAT YtlcbcedhbahbbaaDoorProg.lean LOADS. Nothing in Lean hashes anything: it is a label: what it is worth is what the hold of that sum in a sandbox is worth. -/
noncomputable def Tryd.pinned : Pinned := { name := "ytlcbcedhbahbbaadoor", sum := "fd53c4888f46b4b50803a0560f3084ef8e210a4a7dd30ab71b9e43214411908e", checked := Tryd.checked }
namespace Rows
def none {H : Type} : Left H := { results := [], args := [] }

/- WHAT THE LISTED PACKAGE-LEVEL VARIABLES READ AS WHEN THE CALL BEGINS. Each datum BY PROGRAM (the guide's laid-datum.mjs) off the statement by which the dump's own 'gosem.cut.vars' lays the variable. In a bare row this is a premise. The card (YtlcbcedhbahbbaaDoorCards.lean) ties it to the program's text. -/
def laid_io_EOF {H : Type} : DataW H := .iface "*errors.errorString" (.ptr (.agg [.lit (.string [69, 79, 70])]))

/-- 'laws.FnStreamCounts32': WHATEVER THE INPUT: true; the input reads as it did. -/
def fnStreamCounts32Spec : ChangeSpec := { name := "fnStreamCounts32", fn := fun _ => fun
  | [d1, d2, d3, d4, d5] => { results := [.lit (.bool true)], args := [d1, d2, d3, d4, d5] }
  | _ => none }
def fnStreamCounts32Row : OpenClaim := { program := "ytlcbcedhbahbbaadoor", sum := "fd53c4888f46b4b50803a0560f3084ef8e210a4a7dd30ab71b9e43214411908e", func := "loop.example/lib-g01421/laws.FnStreamCounts32", spec := "fnStreamCounts32", unfollowed := true, recurses := true, named := ["io.EOF"], apart := false, laid := [("io.EOF", laid_io_EOF)] }
def FnStreamCounts32Said : Prop := fnStreamCounts32Row.holds Tryd.pinned (OpenSpec.ofChange fnStreamCounts32Spec)

/-- ITS FALSE NEIGHBOUR: 'it returns false'. Refute it at one input. -/
def fnStreamCounts32Wrong : ChangeSpec := { name := "fnStreamCounts32", fn := fun _ => fun
  | [d1, d2, d3, d4, d5] => { results := [.lit (.bool false)], args := [d1, d2, d3, d4, d5] }
  | _ => none }
def FnStreamCounts32WrongFalsely : Prop := fnStreamCounts32Row.holds Tryd.pinned (OpenSpec.ofChange fnStreamCounts32Wrong)

/-- 'laws.FnStreamLines32': WHATEVER THE INPUT: true; the input reads as it did. -/
def fnStreamLines32Spec : ChangeSpec := { name := "fnStreamLines32", fn := fun _ => fun
  | [d1, d2, d3, d4, d5, d6] => { results := [.lit (.bool true)], args := [d1, d2, d3, d4, d5, d6] }
  | _ => none }
def fnStreamLines32Row : OpenClaim := { program := "ytlcbcedhbahbbaadoor", sum := "fd53c4888f46b4b50803a0560f3084ef8e210a4a7dd30ab71b9e43214411908e", func := "loop.example/lib-g01421/laws.FnStreamLines32", spec := "fnStreamLines32", unfollowed := true, recurses := true, named := ["io.EOF"], apart := false, laid := [("io.EOF", laid_io_EOF)] }
def FnStreamLines32Said : Prop := fnStreamLines32Row.holds Tryd.pinned (OpenSpec.ofChange fnStreamLines32Spec)

/-- ITS FALSE NEIGHBOUR: 'it returns false'. Refute it at one input. -/
def fnStreamLines32Wrong : ChangeSpec := { name := "fnStreamLines32", fn := fun _ => fun
  | [d1, d2, d3, d4, d5, d6] => { results := [.lit (.bool false)], args := [d1, d2, d3, d4, d5, d6] }
  | _ => none }
def FnStreamLines32WrongFalsely : Prop := fnStreamLines32Row.holds Tryd.pinned (OpenSpec.ofChange fnStreamLines32Wrong)

/-- 'laws.FnStreamRead32': WHATEVER THE INPUT: true; the input reads as it did. -/
def fnStreamRead32Spec : ChangeSpec := { name := "fnStreamRead32", fn := fun _ => fun
  | [d1, d2, d3, d4, d5] => { results := [.lit (.bool true)], args := [d1, d2, d3, d4, d5] }
  | _ => none }
def fnStreamRead32Row : OpenClaim := { program := "ytlcbcedhbahbbaadoor", sum := "fd53c4888f46b4b50803a0560f3084ef8e210a4a7dd30ab71b9e43214411908e", func := "loop.example/lib-g01421/laws.FnStreamRead32", spec := "fnStreamRead32", unfollowed := true, recurses := true, named := ["io.EOF"], apart := false, laid := [("io.EOF", laid_io_EOF)] }
def FnStreamRead32Said : Prop := fnStreamRead32Row.holds Tryd.pinned (OpenSpec.ofChange fnStreamRead32Spec)

/-- ITS FALSE NEIGHBOUR: 'it returns false'. Refute it at one input. -/
def fnStreamRead32Wrong : ChangeSpec := { name := "fnStreamRead32", fn := fun _ => fun
  | [d1, d2, d3, d4, d5] => { results := [.lit (.bool false)], args := [d1, d2, d3, d4, d5] }
  | _ => none }
def FnStreamRead32WrongFalsely : Prop := fnStreamRead32Row.holds Tryd.pinned (OpenSpec.ofChange fnStreamRead32Wrong)

/-- 'laws.FnStreamCounts64': WHATEVER THE INPUT: true; the input reads as it did. -/
def fnStreamCounts64Spec : ChangeSpec := { name := "fnStreamCounts64", fn := fun _ => fun
  | [d1, d2, d3, d4, d5, d6] => { results := [.lit (.bool true)], args := [d1, d2, d3, d4, d5, d6] }
  | _ => none }
def fnStreamCounts64Row : OpenClaim := { program := "ytlcbcedhbahbbaadoor", sum := "fd53c4888f46b4b50803a0560f3084ef8e210a4a7dd30ab71b9e43214411908e", func := "loop.example/lib-g01421/laws.FnStreamCounts64", spec := "fnStreamCounts64", unfollowed := true, recurses := true, named := ["io.EOF"], apart := false, laid := [("io.EOF", laid_io_EOF)] }
def FnStreamCounts64Said : Prop := fnStreamCounts64Row.holds Tryd.pinned (OpenSpec.ofChange fnStreamCounts64Spec)

/-- ITS FALSE NEIGHBOUR: 'it returns false'. Refute it at one input. -/
def fnStreamCounts64Wrong : ChangeSpec := { name := "fnStreamCounts64", fn := fun _ => fun
  | [d1, d2, d3, d4, d5, d6] => { results := [.lit (.bool false)], args := [d1, d2, d3, d4, d5, d6] }
  | _ => none }
def FnStreamCounts64WrongFalsely : Prop := fnStreamCounts64Row.holds Tryd.pinned (OpenSpec.ofChange fnStreamCounts64Wrong)

/-- 'laws.FnStreamLines64': WHATEVER THE INPUT: true; the input reads as it did. -/
def fnStreamLines64Spec : ChangeSpec := { name := "fnStreamLines64", fn := fun _ => fun
  | [d1, d2, d3, d4, d5, d6, d7] => { results := [.lit (.bool true)], args := [d1, d2, d3, d4, d5, d6, d7] }
  | _ => none }
def fnStreamLines64Row : OpenClaim := { program := "ytlcbcedhbahbbaadoor", sum := "fd53c4888f46b4b50803a0560f3084ef8e210a4a7dd30ab71b9e43214411908e", func := "loop.example/lib-g01421/laws.FnStreamLines64", spec := "fnStreamLines64", unfollowed := true, recurses := true, named := ["io.EOF"], apart := false, laid := [("io.EOF", laid_io_EOF)] }
def FnStreamLines64Said : Prop := fnStreamLines64Row.holds Tryd.pinned (OpenSpec.ofChange fnStreamLines64Spec)

/-- ITS FALSE NEIGHBOUR: 'it returns false'. Refute it at one input. -/
def fnStreamLines64Wrong : ChangeSpec := { name := "fnStreamLines64", fn := fun _ => fun
  | [d1, d2, d3, d4, d5, d6, d7] => { results := [.lit (.bool false)], args := [d1, d2, d3, d4, d5, d6, d7] }
  | _ => none }
def FnStreamLines64WrongFalsely : Prop := fnStreamLines64Row.holds Tryd.pinned (OpenSpec.ofChange fnStreamLines64Wrong)

/-- 'laws.FnStreamRead64': WHATEVER THE INPUT: true; the input reads as it did. -/
def fnStreamRead64Spec : ChangeSpec := { name := "fnStreamRead64", fn := fun _ => fun
  | [d1, d2, d3, d4, d5, d6] => { results := [.lit (.bool true)], args := [d1, d2, d3, d4, d5, d6] }
  | _ => none }
def fnStreamRead64Row : OpenClaim := { program := "ytlcbcedhbahbbaadoor", sum := "fd53c4888f46b4b50803a0560f3084ef8e210a4a7dd30ab71b9e43214411908e", func := "loop.example/lib-g01421/laws.FnStreamRead64", spec := "fnStreamRead64", unfollowed := true, recurses := true, named := ["io.EOF"], apart := false, laid := [("io.EOF", laid_io_EOF)] }
def FnStreamRead64Said : Prop := fnStreamRead64Row.holds Tryd.pinned (OpenSpec.ofChange fnStreamRead64Spec)

/-- ITS FALSE NEIGHBOUR: 'it returns false'. Refute it at one input. -/
def fnStreamRead64Wrong : ChangeSpec := { name := "fnStreamRead64", fn := fun _ => fun
  | [d1, d2, d3, d4, d5, d6] => { results := [.lit (.bool false)], args := [d1, d2, d3, d4, d5, d6] }
  | _ => none }
def FnStreamRead64WrongFalsely : Prop := fnStreamRead64Row.holds Tryd.pinned (OpenSpec.ofChange fnStreamRead64Wrong)

/-- 'laws.FnStreamThrough32': WHATEVER THE INPUT: true; the input reads as it did. -/
def fnStreamThrough32Spec : ChangeSpec := { name := "fnStreamThrough32", fn := fun _ => fun
  | [d1, d2, d3, d4, d5] => { results := [.lit (.bool true)], args := [d1, d2, d3, d4, d5] }
  | _ => none }
def fnStreamThrough32Row : OpenClaim := { program := "ytlcbcedhbahbbaadoor", sum := "fd53c4888f46b4b50803a0560f3084ef8e210a4a7dd30ab71b9e43214411908e", func := "loop.example/lib-g01421/laws.FnStreamThrough32", spec := "fnStreamThrough32", unfollowed := true, recurses := true, named := ["io.EOF"], apart := false, laid := [("io.EOF", laid_io_EOF)] }
def FnStreamThrough32Said : Prop := fnStreamThrough32Row.holds Tryd.pinned (OpenSpec.ofChange fnStreamThrough32Spec)

/-- ITS FALSE NEIGHBOUR: 'it returns false'. Refute it at one input. -/
def fnStreamThrough32Wrong : ChangeSpec := { name := "fnStreamThrough32", fn := fun _ => fun
  | [d1, d2, d3, d4, d5] => { results := [.lit (.bool false)], args := [d1, d2, d3, d4, d5] }
  | _ => none }
def FnStreamThrough32WrongFalsely : Prop := fnStreamThrough32Row.holds Tryd.pinned (OpenSpec.ofChange fnStreamThrough32Wrong)

/-- 'laws.FnStreamThrough64': WHATEVER THE INPUT: true; the input reads as it did. -/
def fnStreamThrough64Spec : ChangeSpec := { name := "fnStreamThrough64", fn := fun _ => fun
  | [d1, d2, d3, d4, d5, d6] => { results := [.lit (.bool true)], args := [d1, d2, d3, d4, d5, d6] }
  | _ => none }
def fnStreamThrough64Row : OpenClaim := { program := "ytlcbcedhbahbbaadoor", sum := "fd53c4888f46b4b50803a0560f3084ef8e210a4a7dd30ab71b9e43214411908e", func := "loop.example/lib-g01421/laws.FnStreamThrough64", spec := "fnStreamThrough64", unfollowed := true, recurses := true, named := ["io.EOF"], apart := false, laid := [("io.EOF", laid_io_EOF)] }
def FnStreamThrough64Said : Prop := fnStreamThrough64Row.holds Tryd.pinned (OpenSpec.ofChange fnStreamThrough64Spec)

/-- ITS FALSE NEIGHBOUR: 'it returns false'. Refute it at one input. -/
def fnStreamThrough64Wrong : ChangeSpec := { name := "fnStreamThrough64", fn := fun _ => fun
  | [d1, d2, d3, d4, d5, d6] => { results := [.lit (.bool false)], args := [d1, d2, d3, d4, d5, d6] }
  | _ => none }
def FnStreamThrough64WrongFalsely : Prop := fnStreamThrough64Row.holds Tryd.pinned (OpenSpec.ofChange fnStreamThrough64Wrong)

/-- 'laws.FnStreamsBetween': WHATEVER THE INPUT: true; the input reads as it did. -/
def fnStreamsBetweenSpec : ChangeSpec := { name := "fnStreamsBetween", fn := fun _ => fun
  | [d1, d2, d3, d4, d5, d6, d7] => { results := [.lit (.bool true)], args := [d1, d2, d3, d4, d5, d6, d7] }
  | _ => none }
def fnStreamsBetweenRow : OpenClaim := { program := "ytlcbcedhbahbbaadoor", sum := "fd53c4888f46b4b50803a0560f3084ef8e210a4a7dd30ab71b9e43214411908e", func := "loop.example/lib-g01421/laws.FnStreamsBetween", spec := "fnStreamsBetween", unfollowed := true, recurses := true, named := ["io.EOF"], apart := false, laid := [("io.EOF", laid_io_EOF)] }
def FnStreamsBetweenSaid : Prop := fnStreamsBetweenRow.holds Tryd.pinned (OpenSpec.ofChange fnStreamsBetweenSpec)

/-- ITS FALSE NEIGHBOUR: 'it returns false'. Refute it at one input. -/
def fnStreamsBetweenWrong : ChangeSpec := { name := "fnStreamsBetween", fn := fun _ => fun
  | [d1, d2, d3, d4, d5, d6, d7] => { results := [.lit (.bool false)], args := [d1, d2, d3, d4, d5, d6, d7] }
  | _ => none }
def FnStreamsBetweenWrongFalsely : Prop := fnStreamsBetweenRow.holds Tryd.pinned (OpenSpec.ofChange fnStreamsBetweenWrong)

/- THE SECOND FORM. 'bulk': how many values and letters a reading holds, each counted each time it is reached (what is shared counts as often as it is met; a slice's spare places count too). A statement '..UptoSaid' is the law's where the arguments, and the package variables that the reading takes, are together of bulk at most 1048576: NARROWER than '..Said'. Prove '..Said' where nothing that the law and all that it calls make is longer than what came in: it says more and counts as full. Else prove '..UptoSaid'. A law counts once. -/
mutual
def uptoBulk {H : Type} : DataW H → Nat
  | .lit (.string bytes) => bytes.length + 1
  | .lit _ => 1
  | .nil => 1
  | .ptr d => uptoBulk d + 1
  | .slice elems spare => uptoBulkAll elems + uptoBulkAll spare + 1
  | .agg parts => uptoBulkAll parts + 1
  | .iface _ d => uptoBulk d + 1
  | .map entries => uptoBulkEntries entries + 1
  | .held _ => 1
def uptoBulkAll {H : Type} : List (DataW H) → Nat
  | [] => 0
  | d :: r => uptoBulk d + uptoBulkAll r
def uptoBulkEntries {H : Type} : List (Lit × DataW H) → Nat
  | [] => 0
  | x :: r => uptoBulkEntry x + uptoBulkEntries r
def uptoBulkEntry {H : Type} : Lit × DataW H → Nat
  | (.string bytes, d) => bytes.length + uptoBulk d + 1
  | (_, d) => uptoBulk d + 1
 end
def uptoSmall : (H : Type) → List (DataW H) → Bool := fun _ ds => decide (uptoBulkAll ds ≤ 1048576)
def OpenSpec.upto (s : _root_.Go.ChangeSpec) : _root_.Go.OpenSpec := { _root_.Go.OpenSpec.ofChange s with cond := some uptoSmall }

/-- 'laws.FnStreamCounts32', WHERE WHAT IT READS IS OF BULK AT MOST 1048576: true; the input reads as it did. -/
def fnStreamCounts32UptoRow : OpenClaim := { program := "ytlcbcedhbahbbaadoor", sum := "fd53c4888f46b4b50803a0560f3084ef8e210a4a7dd30ab71b9e43214411908e", func := "loop.example/lib-g01421/laws.FnStreamCounts32", spec := "fnStreamCounts32", unfollowed := true, recurses := true, named := ["io.EOF"], apart := false, laid := [("io.EOF", laid_io_EOF)], narrowed := true }
def FnStreamCounts32UptoSaid : Prop := fnStreamCounts32UptoRow.holds Tryd.pinned (OpenSpec.upto fnStreamCounts32Spec)

/-- 'laws.FnStreamLines32', WHERE WHAT IT READS IS OF BULK AT MOST 1048576: true; the input reads as it did. -/
def fnStreamLines32UptoRow : OpenClaim := { program := "ytlcbcedhbahbbaadoor", sum := "fd53c4888f46b4b50803a0560f3084ef8e210a4a7dd30ab71b9e43214411908e", func := "loop.example/lib-g01421/laws.FnStreamLines32", spec := "fnStreamLines32", unfollowed := true, recurses := true, named := ["io.EOF"], apart := false, laid := [("io.EOF", laid_io_EOF)], narrowed := true }
def FnStreamLines32UptoSaid : Prop := fnStreamLines32UptoRow.holds Tryd.pinned (OpenSpec.upto fnStreamLines32Spec)

/-- 'laws.FnStreamRead32', WHERE WHAT IT READS IS OF BULK AT MOST 1048576: true; the input reads as it did. -/
def fnStreamRead32UptoRow : OpenClaim := { program := "ytlcbcedhbahbbaadoor", sum := "fd53c4888f46b4b50803a0560f3084ef8e210a4a7dd30ab71b9e43214411908e", func := "loop.example/lib-g01421/laws.FnStreamRead32", spec := "fnStreamRead32", unfollowed := true, recurses := true, named := ["io.EOF"], apart := false, laid := [("io.EOF", laid_io_EOF)], narrowed := true }
def FnStreamRead32UptoSaid : Prop := fnStreamRead32UptoRow.holds Tryd.pinned (OpenSpec.upto fnStreamRead32Spec)

/-- 'laws.FnStreamCounts64', WHERE WHAT IT READS IS OF BULK AT MOST 1048576: true; the input reads as it did. -/
def fnStreamCounts64UptoRow : OpenClaim := { program := "ytlcbcedhbahbbaadoor", sum := "fd53c4888f46b4b50803a0560f3084ef8e210a4a7dd30ab71b9e43214411908e", func := "loop.example/lib-g01421/laws.FnStreamCounts64", spec := "fnStreamCounts64", unfollowed := true, recurses := true, named := ["io.EOF"], apart := false, laid := [("io.EOF", laid_io_EOF)], narrowed := true }
def FnStreamCounts64UptoSaid : Prop := fnStreamCounts64UptoRow.holds Tryd.pinned (OpenSpec.upto fnStreamCounts64Spec)

/-- 'laws.FnStreamLines64', WHERE WHAT IT READS IS OF BULK AT MOST 1048576: true; the input reads as it did. -/
def fnStreamLines64UptoRow : OpenClaim := { program := "ytlcbcedhbahbbaadoor", sum := "fd53c4888f46b4b50803a0560f3084ef8e210a4a7dd30ab71b9e43214411908e", func := "loop.example/lib-g01421/laws.FnStreamLines64", spec := "fnStreamLines64", unfollowed := true, recurses := true, named := ["io.EOF"], apart := false, laid := [("io.EOF", laid_io_EOF)], narrowed := true }
def FnStreamLines64UptoSaid : Prop := fnStreamLines64UptoRow.holds Tryd.pinned (OpenSpec.upto fnStreamLines64Spec)

/-- 'laws.FnStreamRead64', WHERE WHAT IT READS IS OF BULK AT MOST 1048576: true; the input reads as it did. -/
def fnStreamRead64UptoRow : OpenClaim := { program := "ytlcbcedhbahbbaadoor", sum := "fd53c4888f46b4b50803a0560f3084ef8e210a4a7dd30ab71b9e43214411908e", func := "loop.example/lib-g01421/laws.FnStreamRead64", spec := "fnStreamRead64", unfollowed := true, recurses := true, named := ["io.EOF"], apart := false, laid := [("io.EOF", laid_io_EOF)], narrowed := true }
def FnStreamRead64UptoSaid : Prop := fnStreamRead64UptoRow.holds Tryd.pinned (OpenSpec.upto fnStreamRead64Spec)

/-- 'laws.FnStreamThrough32', WHERE WHAT IT READS IS OF BULK AT MOST 1048576: true; the input reads as it did. -/
def fnStreamThrough32UptoRow : OpenClaim := { program := "ytlcbcedhbahbbaadoor", sum := "fd53c4888f46b4b50803a0560f3084ef8e210a4a7dd30ab71b9e43214411908e", func := "loop.example/lib-g01421/laws.FnStreamThrough32", spec := "fnStreamThrough32", unfollowed := true, recurses := true, named := ["io.EOF"], apart := false, laid := [("io.EOF", laid_io_EOF)], narrowed := true }
def FnStreamThrough32UptoSaid : Prop := fnStreamThrough32UptoRow.holds Tryd.pinned (OpenSpec.upto fnStreamThrough32Spec)

/-- 'laws.FnStreamThrough64', WHERE WHAT IT READS IS OF BULK AT MOST 1048576: true; the input reads as it did. -/
def fnStreamThrough64UptoRow : OpenClaim := { program := "ytlcbcedhbahbbaadoor", sum := "fd53c4888f46b4b50803a0560f3084ef8e210a4a7dd30ab71b9e43214411908e", func := "loop.example/lib-g01421/laws.FnStreamThrough64", spec := "fnStreamThrough64", unfollowed := true, recurses := true, named := ["io.EOF"], apart := false, laid := [("io.EOF", laid_io_EOF)], narrowed := true }
def FnStreamThrough64UptoSaid : Prop := fnStreamThrough64UptoRow.holds Tryd.pinned (OpenSpec.upto fnStreamThrough64Spec)

/-- 'laws.FnStreamsBetween', WHERE WHAT IT READS IS OF BULK AT MOST 1048576: true; the input reads as it did. -/
def fnStreamsBetweenUptoRow : OpenClaim := { program := "ytlcbcedhbahbbaadoor", sum := "fd53c4888f46b4b50803a0560f3084ef8e210a4a7dd30ab71b9e43214411908e", func := "loop.example/lib-g01421/laws.FnStreamsBetween", spec := "fnStreamsBetween", unfollowed := true, recurses := true, named := ["io.EOF"], apart := false, laid := [("io.EOF", laid_io_EOF)], narrowed := true }
def FnStreamsBetweenUptoSaid : Prop := fnStreamsBetweenUptoRow.holds Tryd.pinned (OpenSpec.upto fnStreamsBetweenSpec)

end Rows
end Go.Proofs.YtlcbcedhbahbbaaDoor
