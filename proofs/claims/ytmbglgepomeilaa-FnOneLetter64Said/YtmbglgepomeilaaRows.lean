/-
  No cell of these rows narrows 'for every input' (looked for: loops, veiled, ifaces, maps, wideKeys, modest, calm, conditions, laid).
  DERIVED. THE GIVEN ROWS OF THIS SEAT. 12 by the template 'for every input the law returns true; each argument reads behind the call as it read before'; 0 by the template 'total and deterministic' (their statements: YtmbglgepomeilaaTotals.lean).
  GIVEN WITH THE SEED: the statements are not yours to turn. If you find one false, say at which input.
  Laid BY PROGRAM, IN A SANDBOX (cutbox-rows.mjs): the forced cells as the released guide's own fill.sh prints them over the translation 490b5cda58b5fe36… (all of the seat's roots in one cut). By AI agents, Wed Nov 11 2026. No macro, syntax, notation, axiom, sorry.
-/
import Derived.Test.YtmbglgepomeilaaChecked
import GoSem.Claim
import GoSem.ClaimJoined
import GoSem.ClaimMapViews
import Derived.JoinedTies
import Derived.KernelRfl
namespace Go.Proofs.Ytmbglgepomeilaa
/- THE CELL 'sum', in the pinned program and in every row, IS THE sha256 OF THE DUMP (.gsa) THAT YtmbglgepomeilaaProg.lean LOADS. Nothing in Lean hashes anything: it is a label: what it is worth is what the hold of that sum in a sandbox is worth. -/
noncomputable def Try.pinned : Pinned := { name := "ytmbglgepomeilaa", sum := "490b5cda58b5fe361601f426826e6acfadc1ccf8b537bc7df72f298a3f0edc12", checked := Try.checked }
namespace Rows
def none {H : Type} : Left H := { results := [], args := [] }

/-- 'laws.FnOpen64': WHATEVER THE INPUT: true; the input reads as it did. -/
def fnOpen64Spec : ChangeSpec := { name := "fnOpen64", fn := fun _ => fun
  | [d1, d2, d3] => { results := [.lit (.bool true)], args := [d1, d2, d3] }
  | _ => none }
def fnOpen64Row : OpenClaim := { program := "ytmbglgepomeilaa", sum := "490b5cda58b5fe361601f426826e6acfadc1ccf8b537bc7df72f298a3f0edc12", func := "loop.example/lib-g01421/laws.FnOpen64", spec := "fnOpen64", unfollowed := true, recurses := true, apart := false }
def FnOpen64Said : Prop := fnOpen64Row.holds Try.pinned (OpenSpec.ofChange fnOpen64Spec)

/-- ITS FALSE NEIGHBOUR: 'it returns false'. Refute it at one input. -/
def fnOpen64Wrong : ChangeSpec := { name := "fnOpen64", fn := fun _ => fun
  | [d1, d2, d3] => { results := [.lit (.bool false)], args := [d1, d2, d3] }
  | _ => none }
def FnOpen64WrongFalsely : Prop := fnOpen64Row.holds Try.pinned (OpenSpec.ofChange fnOpen64Wrong)

/-- 'laws.FnStream64': WHATEVER THE INPUT: true; the input reads as it did. -/
def fnStream64Spec : ChangeSpec := { name := "fnStream64", fn := fun _ => fun
  | [d1, d2, d3] => { results := [.lit (.bool true)], args := [d1, d2, d3] }
  | _ => none }
def fnStream64Row : OpenClaim := { program := "ytmbglgepomeilaa", sum := "490b5cda58b5fe361601f426826e6acfadc1ccf8b537bc7df72f298a3f0edc12", func := "loop.example/lib-g01421/laws.FnStream64", spec := "fnStream64", unfollowed := true, recurses := true, apart := false }
def FnStream64Said : Prop := fnStream64Row.holds Try.pinned (OpenSpec.ofChange fnStream64Spec)

/-- ITS FALSE NEIGHBOUR: 'it returns false'. Refute it at one input. -/
def fnStream64Wrong : ChangeSpec := { name := "fnStream64", fn := fun _ => fun
  | [d1, d2, d3] => { results := [.lit (.bool false)], args := [d1, d2, d3] }
  | _ => none }
def FnStream64WrongFalsely : Prop := fnStream64Row.holds Try.pinned (OpenSpec.ofChange fnStream64Wrong)

/-- 'laws.FnExactOrdered64': WHATEVER THE INPUT: true; the input reads as it did. -/
def fnExactOrdered64Spec : ChangeSpec := { name := "fnExactOrdered64", fn := fun _ => fun
  | [d] => { results := [.lit (.bool true)], args := [d] }
  | _ => none }
def fnExactOrdered64Row : OpenClaim := { program := "ytmbglgepomeilaa", sum := "490b5cda58b5fe361601f426826e6acfadc1ccf8b537bc7df72f298a3f0edc12", func := "loop.example/lib-g01421/laws.FnExactOrdered64", spec := "fnExactOrdered64", unfollowed := true, recurses := true, apart := false }
def FnExactOrdered64Said : Prop := fnExactOrdered64Row.holds Try.pinned (OpenSpec.ofChange fnExactOrdered64Spec)

/-- ITS FALSE NEIGHBOUR: 'it returns false'. Refute it at one input. -/
def fnExactOrdered64Wrong : ChangeSpec := { name := "fnExactOrdered64", fn := fun _ => fun
  | [d] => { results := [.lit (.bool false)], args := [d] }
  | _ => none }
def FnExactOrdered64WrongFalsely : Prop := fnExactOrdered64Row.holds Try.pinned (OpenSpec.ofChange fnExactOrdered64Wrong)

/-- 'laws.FnOneLetter64': WHATEVER THE INPUT: true; the input reads as it did. -/
def fnOneLetter64Spec : ChangeSpec := { name := "fnOneLetter64", fn := fun _ => fun
  | [d1, d2, d3, d4, d5] => { results := [.lit (.bool true)], args := [d1, d2, d3, d4, d5] }
  | _ => none }
def fnOneLetter64Row : OpenClaim := { program := "ytmbglgepomeilaa", sum := "490b5cda58b5fe361601f426826e6acfadc1ccf8b537bc7df72f298a3f0edc12", func := "loop.example/lib-g01421/laws.FnOneLetter64", spec := "fnOneLetter64", apart := false }
def FnOneLetter64Said : Prop := fnOneLetter64Row.holds Try.pinned (OpenSpec.ofChange fnOneLetter64Spec)

/-- ITS FALSE NEIGHBOUR: 'it returns false'. Refute it at one input. -/
def fnOneLetter64Wrong : ChangeSpec := { name := "fnOneLetter64", fn := fun _ => fun
  | [d1, d2, d3, d4, d5] => { results := [.lit (.bool false)], args := [d1, d2, d3, d4, d5] }
  | _ => none }
def FnOneLetter64WrongFalsely : Prop := fnOneLetter64Row.holds Try.pinned (OpenSpec.ofChange fnOneLetter64Wrong)

/-- 'laws.FnReadAgain64': WHATEVER THE INPUT: true; the input reads as it did. -/
def fnReadAgain64Spec : ChangeSpec := { name := "fnReadAgain64", fn := fun _ => fun
  | [d1, d2, d3, d4] => { results := [.lit (.bool true)], args := [d1, d2, d3, d4] }
  | _ => none }
def fnReadAgain64Row : OpenClaim := { program := "ytmbglgepomeilaa", sum := "490b5cda58b5fe361601f426826e6acfadc1ccf8b537bc7df72f298a3f0edc12", func := "loop.example/lib-g01421/laws.FnReadAgain64", spec := "fnReadAgain64", apart := false }
def FnReadAgain64Said : Prop := fnReadAgain64Row.holds Try.pinned (OpenSpec.ofChange fnReadAgain64Spec)

/-- ITS FALSE NEIGHBOUR: 'it returns false'. Refute it at one input. -/
def fnReadAgain64Wrong : ChangeSpec := { name := "fnReadAgain64", fn := fun _ => fun
  | [d1, d2, d3, d4] => { results := [.lit (.bool false)], args := [d1, d2, d3, d4] }
  | _ => none }
def FnReadAgain64WrongFalsely : Prop := fnReadAgain64Row.holds Try.pinned (OpenSpec.ofChange fnReadAgain64Wrong)

/-- 'laws.FnEnds64': WHATEVER THE INPUT: true; the input reads as it did. -/
def fnEnds64Spec : ChangeSpec := { name := "fnEnds64", fn := fun _ => fun
  | [d1, d2, d3] => { results := [.lit (.bool true)], args := [d1, d2, d3] }
  | _ => none }
def fnEnds64Row : OpenClaim := { program := "ytmbglgepomeilaa", sum := "490b5cda58b5fe361601f426826e6acfadc1ccf8b537bc7df72f298a3f0edc12", func := "loop.example/lib-g01421/laws.FnEnds64", spec := "fnEnds64", apart := false }
def FnEnds64Said : Prop := fnEnds64Row.holds Try.pinned (OpenSpec.ofChange fnEnds64Spec)

/-- ITS FALSE NEIGHBOUR: 'it returns false'. Refute it at one input. -/
def fnEnds64Wrong : ChangeSpec := { name := "fnEnds64", fn := fun _ => fun
  | [d1, d2, d3] => { results := [.lit (.bool false)], args := [d1, d2, d3] }
  | _ => none }
def FnEnds64WrongFalsely : Prop := fnEnds64Row.holds Try.pinned (OpenSpec.ofChange fnEnds64Wrong)

/-- 'laws.FnFullLetters64': WHATEVER THE INPUT: true; the input reads as it did. -/
def fnFullLetters64Spec : ChangeSpec := { name := "fnFullLetters64", fn := fun _ => fun
  | [d1, d2, d3, d4] => { results := [.lit (.bool true)], args := [d1, d2, d3, d4] }
  | _ => none }
def fnFullLetters64Row : OpenClaim := { program := "ytmbglgepomeilaa", sum := "490b5cda58b5fe361601f426826e6acfadc1ccf8b537bc7df72f298a3f0edc12", func := "loop.example/lib-g01421/laws.FnFullLetters64", spec := "fnFullLetters64", apart := false }
def FnFullLetters64Said : Prop := fnFullLetters64Row.holds Try.pinned (OpenSpec.ofChange fnFullLetters64Spec)

/-- ITS FALSE NEIGHBOUR: 'it returns false'. Refute it at one input. -/
def fnFullLetters64Wrong : ChangeSpec := { name := "fnFullLetters64", fn := fun _ => fun
  | [d1, d2, d3, d4] => { results := [.lit (.bool false)], args := [d1, d2, d3, d4] }
  | _ => none }
def FnFullLetters64WrongFalsely : Prop := fnFullLetters64Row.holds Try.pinned (OpenSpec.ofChange fnFullLetters64Wrong)

/-- 'laws.FnOneBit64': WHATEVER THE INPUT: true; the input reads as it did. -/
def fnOneBit64Spec : ChangeSpec := { name := "fnOneBit64", fn := fun _ => fun
  | [d1, d2, d3, d4] => { results := [.lit (.bool true)], args := [d1, d2, d3, d4] }
  | _ => none }
def fnOneBit64Row : OpenClaim := { program := "ytmbglgepomeilaa", sum := "490b5cda58b5fe361601f426826e6acfadc1ccf8b537bc7df72f298a3f0edc12", func := "loop.example/lib-g01421/laws.FnOneBit64", spec := "fnOneBit64", apart := false }
def FnOneBit64Said : Prop := fnOneBit64Row.holds Try.pinned (OpenSpec.ofChange fnOneBit64Spec)

/-- ITS FALSE NEIGHBOUR: 'it returns false'. Refute it at one input. -/
def fnOneBit64Wrong : ChangeSpec := { name := "fnOneBit64", fn := fun _ => fun
  | [d1, d2, d3, d4] => { results := [.lit (.bool false)], args := [d1, d2, d3, d4] }
  | _ => none }
def FnOneBit64WrongFalsely : Prop := fnOneBit64Row.holds Try.pinned (OpenSpec.ofChange fnOneBit64Wrong)

/-- 'laws.FnOrder64': WHATEVER THE INPUT: true; the input reads as it did. -/
def fnOrder64Spec : ChangeSpec := { name := "fnOrder64", fn := fun _ => fun
  | [d1, d2, d3, d4] => { results := [.lit (.bool true)], args := [d1, d2, d3, d4] }
  | _ => none }
def fnOrder64Row : OpenClaim := { program := "ytmbglgepomeilaa", sum := "490b5cda58b5fe361601f426826e6acfadc1ccf8b537bc7df72f298a3f0edc12", func := "loop.example/lib-g01421/laws.FnOrder64", spec := "fnOrder64", apart := false }
def FnOrder64Said : Prop := fnOrder64Row.holds Try.pinned (OpenSpec.ofChange fnOrder64Spec)

/-- ITS FALSE NEIGHBOUR: 'it returns false'. Refute it at one input. -/
def fnOrder64Wrong : ChangeSpec := { name := "fnOrder64", fn := fun _ => fun
  | [d1, d2, d3, d4] => { results := [.lit (.bool false)], args := [d1, d2, d3, d4] }
  | _ => none }
def FnOrder64WrongFalsely : Prop := fnOrder64Row.holds Try.pinned (OpenSpec.ofChange fnOrder64Wrong)

/-- 'laws.FnParts64': WHATEVER THE INPUT: true; the input reads as it did. -/
def fnParts64Spec : ChangeSpec := { name := "fnParts64", fn := fun _ => fun
  | [d1, d2, d3, d4] => { results := [.lit (.bool true)], args := [d1, d2, d3, d4] }
  | _ => none }
def fnParts64Row : OpenClaim := { program := "ytmbglgepomeilaa", sum := "490b5cda58b5fe361601f426826e6acfadc1ccf8b537bc7df72f298a3f0edc12", func := "loop.example/lib-g01421/laws.FnParts64", spec := "fnParts64", apart := false }
def FnParts64Said : Prop := fnParts64Row.holds Try.pinned (OpenSpec.ofChange fnParts64Spec)

/-- ITS FALSE NEIGHBOUR: 'it returns false'. Refute it at one input. -/
def fnParts64Wrong : ChangeSpec := { name := "fnParts64", fn := fun _ => fun
  | [d1, d2, d3, d4] => { results := [.lit (.bool false)], args := [d1, d2, d3, d4] }
  | _ => none }
def FnParts64WrongFalsely : Prop := fnParts64Row.holds Try.pinned (OpenSpec.ofChange fnParts64Wrong)

/-- 'laws.FnXor64': WHATEVER THE INPUT: true; the input reads as it did. -/
def fnXor64Spec : ChangeSpec := { name := "fnXor64", fn := fun _ => fun
  | [d1, d2, d3, d4] => { results := [.lit (.bool true)], args := [d1, d2, d3, d4] }
  | _ => none }
def fnXor64Row : OpenClaim := { program := "ytmbglgepomeilaa", sum := "490b5cda58b5fe361601f426826e6acfadc1ccf8b537bc7df72f298a3f0edc12", func := "loop.example/lib-g01421/laws.FnXor64", spec := "fnXor64", apart := false }
def FnXor64Said : Prop := fnXor64Row.holds Try.pinned (OpenSpec.ofChange fnXor64Spec)

/-- ITS FALSE NEIGHBOUR: 'it returns false'. Refute it at one input. -/
def fnXor64Wrong : ChangeSpec := { name := "fnXor64", fn := fun _ => fun
  | [d1, d2, d3, d4] => { results := [.lit (.bool false)], args := [d1, d2, d3, d4] }
  | _ => none }
def FnXor64WrongFalsely : Prop := fnXor64Row.holds Try.pinned (OpenSpec.ofChange fnXor64Wrong)

/-- 'laws.FnStreamRoads64': WHATEVER THE INPUT: true; the input reads as it did. -/
def fnStreamRoads64Spec : ChangeSpec := { name := "fnStreamRoads64", fn := fun _ => fun
  | [d1, d2, d3, d4] => { results := [.lit (.bool true)], args := [d1, d2, d3, d4] }
  | _ => none }
def fnStreamRoads64Row : OpenClaim := { program := "ytmbglgepomeilaa", sum := "490b5cda58b5fe361601f426826e6acfadc1ccf8b537bc7df72f298a3f0edc12", func := "loop.example/lib-g01421/laws.FnStreamRoads64", spec := "fnStreamRoads64", unfollowed := true, recurses := true, apart := false }
def FnStreamRoads64Said : Prop := fnStreamRoads64Row.holds Try.pinned (OpenSpec.ofChange fnStreamRoads64Spec)

/-- ITS FALSE NEIGHBOUR: 'it returns false'. Refute it at one input. -/
def fnStreamRoads64Wrong : ChangeSpec := { name := "fnStreamRoads64", fn := fun _ => fun
  | [d1, d2, d3, d4] => { results := [.lit (.bool false)], args := [d1, d2, d3, d4] }
  | _ => none }
def FnStreamRoads64WrongFalsely : Prop := fnStreamRoads64Row.holds Try.pinned (OpenSpec.ofChange fnStreamRoads64Wrong)

/- THE SECOND FORM. 'bulk': how many values and letters a reading holds, each counted each time it is reached (what is shared counts as often as it is met; a slice's spare places count too). A statement '..UptoSaid' is the law's where the arguments, and the package variables that the reading takes, are together of bulk at most 1048576: NARROWER than '..Said'. Prove '..Said' where nothing that the law and all that it calls make is longer than what came in: it says more and counts as full. Else prove '..UptoSaid'. A law counts once. -/
mutual
def uptoBulk {H : Type} : DataW H → Nat
  | .lit (.string bytes) => bytes.length + 1
  | .lit _ => 1
  | .nil => 1
  | .ptr d => uptoBulk d + 1
  | .slice elems spare => uptoBulkAll elems + uptoBulkAll spare + 1
  | .agg parts => uptoBulkAll parts + 1
  | .iface _ d => uptoBulk d + 1
  | .map entries => uptoBulkEntries entries + 1
  | .held _ => 1
def uptoBulkAll {H : Type} : List (DataW H) → Nat
  | [] => 0
  | d :: r => uptoBulk d + uptoBulkAll r
def uptoBulkEntries {H : Type} : List (Lit × DataW H) → Nat
  | [] => 0
  | x :: r => uptoBulkEntry x + uptoBulkEntries r
def uptoBulkEntry {H : Type} : Lit × DataW H → Nat
  | (.string bytes, d) => bytes.length + uptoBulk d + 1
  | (_, d) => uptoBulk d + 1
 end
def uptoSmall : (H : Type) → List (DataW H) → Bool := fun _ ds => decide (uptoBulkAll ds ≤ 1048576)
def OpenSpec.upto (s : _root_.Go.ChangeSpec) : _root_.Go.OpenSpec := { _root_.Go.OpenSpec.ofChange s with cond := some uptoSmall }

/-- 'laws.FnOpen64', WHERE WHAT IT READS IS OF BULK AT MOST 1048576: true; the input reads as it did. -/
def fnOpen64UptoRow : OpenClaim := { program := "ytmbglgepomeilaa", sum := "490b5cda58b5fe361601f426826e6acfadc1ccf8b537bc7df72f298a3f0edc12", func := "loop.example/lib-g01421/laws.FnOpen64", spec := "fnOpen64", unfollowed := true, recurses := true, apart := false, narrowed := true }
def FnOpen64UptoSaid : Prop := fnOpen64UptoRow.holds Try.pinned (OpenSpec.upto fnOpen64Spec)

/-- 'laws.FnStream64', WHERE WHAT IT READS IS OF BULK AT MOST 1048576: true; the input reads as it did. -/
def fnStream64UptoRow : OpenClaim := { program := "ytmbglgepomeilaa", sum := "490b5cda58b5fe361601f426826e6acfadc1ccf8b537bc7df72f298a3f0edc12", func := "loop.example/lib-g01421/laws.FnStream64", spec := "fnStream64", unfollowed := true, recurses := true, apart := false, narrowed := true }
def FnStream64UptoSaid : Prop := fnStream64UptoRow.holds Try.pinned (OpenSpec.upto fnStream64Spec)

/-- 'laws.FnExactOrdered64', WHERE WHAT IT READS IS OF BULK AT MOST 1048576: true; the input reads as it did. -/
def fnExactOrdered64UptoRow : OpenClaim := { program := "ytmbglgepomeilaa", sum := "490b5cda58b5fe361601f426826e6acfadc1ccf8b537bc7df72f298a3f0edc12", func := "loop.example/lib-g01421/laws.FnExactOrdered64", spec := "fnExactOrdered64", unfollowed := true, recurses := true, apart := false, narrowed := true }
def FnExactOrdered64UptoSaid : Prop := fnExactOrdered64UptoRow.holds Try.pinned (OpenSpec.upto fnExactOrdered64Spec)

/-- 'laws.FnOneLetter64', WHERE WHAT IT READS IS OF BULK AT MOST 1048576: true; the input reads as it did. -/
def fnOneLetter64UptoRow : OpenClaim := { program := "ytmbglgepomeilaa", sum := "490b5cda58b5fe361601f426826e6acfadc1ccf8b537bc7df72f298a3f0edc12", func := "loop.example/lib-g01421/laws.FnOneLetter64", spec := "fnOneLetter64", apart := false, narrowed := true }
def FnOneLetter64UptoSaid : Prop := fnOneLetter64UptoRow.holds Try.pinned (OpenSpec.upto fnOneLetter64Spec)

/-- 'laws.FnReadAgain64', WHERE WHAT IT READS IS OF BULK AT MOST 1048576: true; the input reads as it did. -/
def fnReadAgain64UptoRow : OpenClaim := { program := "ytmbglgepomeilaa", sum := "490b5cda58b5fe361601f426826e6acfadc1ccf8b537bc7df72f298a3f0edc12", func := "loop.example/lib-g01421/laws.FnReadAgain64", spec := "fnReadAgain64", apart := false, narrowed := true }
def FnReadAgain64UptoSaid : Prop := fnReadAgain64UptoRow.holds Try.pinned (OpenSpec.upto fnReadAgain64Spec)

/-- 'laws.FnEnds64', WHERE WHAT IT READS IS OF BULK AT MOST 1048576: true; the input reads as it did. -/
def fnEnds64UptoRow : OpenClaim := { program := "ytmbglgepomeilaa", sum := "490b5cda58b5fe361601f426826e6acfadc1ccf8b537bc7df72f298a3f0edc12", func := "loop.example/lib-g01421/laws.FnEnds64", spec := "fnEnds64", apart := false, narrowed := true }
def FnEnds64UptoSaid : Prop := fnEnds64UptoRow.holds Try.pinned (OpenSpec.upto fnEnds64Spec)

/-- 'laws.FnFullLetters64', WHERE WHAT IT READS IS OF BULK AT MOST 1048576: true; the input reads as it did. -/
def fnFullLetters64UptoRow : OpenClaim := { program := "ytmbglgepomeilaa", sum := "490b5cda58b5fe361601f426826e6acfadc1ccf8b537bc7df72f298a3f0edc12", func := "loop.example/lib-g01421/laws.FnFullLetters64", spec := "fnFullLetters64", apart := false, narrowed := true }
def FnFullLetters64UptoSaid : Prop := fnFullLetters64UptoRow.holds Try.pinned (OpenSpec.upto fnFullLetters64Spec)

/-- 'laws.FnOneBit64', WHERE WHAT IT READS IS OF BULK AT MOST 1048576: true; the input reads as it did. -/
def fnOneBit64UptoRow : OpenClaim := { program := "ytmbglgepomeilaa", sum := "490b5cda58b5fe361601f426826e6acfadc1ccf8b537bc7df72f298a3f0edc12", func := "loop.example/lib-g01421/laws.FnOneBit64", spec := "fnOneBit64", apart := false, narrowed := true }
def FnOneBit64UptoSaid : Prop := fnOneBit64UptoRow.holds Try.pinned (OpenSpec.upto fnOneBit64Spec)

/-- 'laws.FnOrder64', WHERE WHAT IT READS IS OF BULK AT MOST 1048576: true; the input reads as it did. -/
def fnOrder64UptoRow : OpenClaim := { program := "ytmbglgepomeilaa", sum := "490b5cda58b5fe361601f426826e6acfadc1ccf8b537bc7df72f298a3f0edc12", func := "loop.example/lib-g01421/laws.FnOrder64", spec := "fnOrder64", apart := false, narrowed := true }
def FnOrder64UptoSaid : Prop := fnOrder64UptoRow.holds Try.pinned (OpenSpec.upto fnOrder64Spec)

/-- 'laws.FnParts64', WHERE WHAT IT READS IS OF BULK AT MOST 1048576: true; the input reads as it did. -/
def fnParts64UptoRow : OpenClaim := { program := "ytmbglgepomeilaa", sum := "490b5cda58b5fe361601f426826e6acfadc1ccf8b537bc7df72f298a3f0edc12", func := "loop.example/lib-g01421/laws.FnParts64", spec := "fnParts64", apart := false, narrowed := true }
def FnParts64UptoSaid : Prop := fnParts64UptoRow.holds Try.pinned (OpenSpec.upto fnParts64Spec)

/-- 'laws.FnXor64', WHERE WHAT IT READS IS OF BULK AT MOST 1048576: true; the input reads as it did. -/
def fnXor64UptoRow : OpenClaim := { program := "ytmbglgepomeilaa", sum := "490b5cda58b5fe361601f426826e6acfadc1ccf8b537bc7df72f298a3f0edc12", func := "loop.example/lib-g01421/laws.FnXor64", spec := "fnXor64", apart := false, narrowed := true }
def FnXor64UptoSaid : Prop := fnXor64UptoRow.holds Try.pinned (OpenSpec.upto fnXor64Spec)

/-- 'laws.FnStreamRoads64', WHERE WHAT IT READS IS OF BULK AT MOST 1048576: true; the input reads as it did. -/
def fnStreamRoads64UptoRow : OpenClaim := { program := "ytmbglgepomeilaa", sum := "490b5cda58b5fe361601f426826e6acfadc1ccf8b537bc7df72f298a3f0edc12", func := "loop.example/lib-g01421/laws.FnStreamRoads64", spec := "fnStreamRoads64", unfollowed := true, recurses := true, apart := false, narrowed := true }
def FnStreamRoads64UptoSaid : Prop := fnStreamRoads64UptoRow.holds Try.pinned (OpenSpec.upto fnStreamRoads64Spec)

end Rows
end Go.Proofs.Ytmbglgepomeilaa
