/-
  No cell of these rows narrows 'for every input' (looked for: loops, veiled, ifaces, maps, wideKeys, modest, calm, conditions, laid).
  DERIVED. THE GIVEN ROWS OF THIS SEAT. 12 by the template 'for every input the law returns true; each argument reads behind the call as it read before'; 0 by the template 'total and deterministic' (their statements: YtlbnglmfbnnhjaaTotals.lean).
  GIVEN WITH THE SEED: the statements are not yours to turn. If you find one false, say at which input.
  Laid BY PROGRAM, IN A SANDBOX (cutbox-rows.mjs): the forced cells as the released guide's own fill.sh prints them over the translation 6245e9e0513d664b… (all of the seat's roots in one cut). By AI agents, Wed Nov 11 2026. No macro, syntax, notation, axiom, sorry.
-/
import Derived.Test.YtlbnglmfbnnhjaaChecked
import GoSem.Claim
import GoSem.ClaimJoined
import GoSem.ClaimMapViews
import Derived.JoinedTies
import Derived.KernelRfl
namespace Go.Proofs.Ytlbnglmfbnnhjaa
/- THE CELL 'sum', in the pinned program and in every row, IS THE sha256 OF THE DUMP (.gsa) THAT YtlbnglmfbnnhjaaProg.lean LOADS. Nothing in Lean hashes anything: it is a label: what it is worth is what the hold of that sum in a sandbox is worth. -/
noncomputable def Try.pinned : Pinned := { name := "ytlbnglmfbnnhjaa", sum := "6245e9e0513d664b0a3751622915b46ea16b8ce2d6bffeb956ca2f499e628464", checked := Try.checked }
namespace Rows
def none {H : Type} : Left H := { results := [], args := [] }

/-- 'laws.FnOpen32': WHATEVER THE INPUT: true; the input reads as it did. -/
def fnOpen32Spec : ChangeSpec := { name := "fnOpen32", fn := fun _ => fun
  | [d1, d2, d3] => { results := [.lit (.bool true)], args := [d1, d2, d3] }
  | _ => none }
def fnOpen32Row : OpenClaim := { program := "ytlbnglmfbnnhjaa", sum := "6245e9e0513d664b0a3751622915b46ea16b8ce2d6bffeb956ca2f499e628464", func := "loop.example/lib-g01421/laws.FnOpen32", spec := "fnOpen32", unfollowed := true, recurses := true, apart := false }
def FnOpen32Said : Prop := fnOpen32Row.holds Try.pinned (OpenSpec.ofChange fnOpen32Spec)

/-- ITS FALSE NEIGHBOUR: 'it returns false'. Refute it at one input. -/
def fnOpen32Wrong : ChangeSpec := { name := "fnOpen32", fn := fun _ => fun
  | [d1, d2, d3] => { results := [.lit (.bool false)], args := [d1, d2, d3] }
  | _ => none }
def FnOpen32WrongFalsely : Prop := fnOpen32Row.holds Try.pinned (OpenSpec.ofChange fnOpen32Wrong)

/-- 'laws.FnStream32': WHATEVER THE INPUT: true; the input reads as it did. -/
def fnStream32Spec : ChangeSpec := { name := "fnStream32", fn := fun _ => fun
  | [d1, d2, d3] => { results := [.lit (.bool true)], args := [d1, d2, d3] }
  | _ => none }
def fnStream32Row : OpenClaim := { program := "ytlbnglmfbnnhjaa", sum := "6245e9e0513d664b0a3751622915b46ea16b8ce2d6bffeb956ca2f499e628464", func := "loop.example/lib-g01421/laws.FnStream32", spec := "fnStream32", unfollowed := true, recurses := true, apart := false }
def FnStream32Said : Prop := fnStream32Row.holds Try.pinned (OpenSpec.ofChange fnStream32Spec)

/-- ITS FALSE NEIGHBOUR: 'it returns false'. Refute it at one input. -/
def fnStream32Wrong : ChangeSpec := { name := "fnStream32", fn := fun _ => fun
  | [d1, d2, d3] => { results := [.lit (.bool false)], args := [d1, d2, d3] }
  | _ => none }
def FnStream32WrongFalsely : Prop := fnStream32Row.holds Try.pinned (OpenSpec.ofChange fnStream32Wrong)

/-- 'laws.FnExactOrdered32': WHATEVER THE INPUT: true; the input reads as it did. -/
def fnExactOrdered32Spec : ChangeSpec := { name := "fnExactOrdered32", fn := fun _ => fun
  | [d] => { results := [.lit (.bool true)], args := [d] }
  | _ => none }
def fnExactOrdered32Row : OpenClaim := { program := "ytlbnglmfbnnhjaa", sum := "6245e9e0513d664b0a3751622915b46ea16b8ce2d6bffeb956ca2f499e628464", func := "loop.example/lib-g01421/laws.FnExactOrdered32", spec := "fnExactOrdered32", unfollowed := true, recurses := true, apart := false }
def FnExactOrdered32Said : Prop := fnExactOrdered32Row.holds Try.pinned (OpenSpec.ofChange fnExactOrdered32Spec)

/-- ITS FALSE NEIGHBOUR: 'it returns false'. Refute it at one input. -/
def fnExactOrdered32Wrong : ChangeSpec := { name := "fnExactOrdered32", fn := fun _ => fun
  | [d] => { results := [.lit (.bool false)], args := [d] }
  | _ => none }
def FnExactOrdered32WrongFalsely : Prop := fnExactOrdered32Row.holds Try.pinned (OpenSpec.ofChange fnExactOrdered32Wrong)

/-- 'laws.FnReadAgain32': WHATEVER THE INPUT: true; the input reads as it did. -/
def fnReadAgain32Spec : ChangeSpec := { name := "fnReadAgain32", fn := fun _ => fun
  | [d1, d2, d3, d4] => { results := [.lit (.bool true)], args := [d1, d2, d3, d4] }
  | _ => none }
def fnReadAgain32Row : OpenClaim := { program := "ytlbnglmfbnnhjaa", sum := "6245e9e0513d664b0a3751622915b46ea16b8ce2d6bffeb956ca2f499e628464", func := "loop.example/lib-g01421/laws.FnReadAgain32", spec := "fnReadAgain32", apart := false }
def FnReadAgain32Said : Prop := fnReadAgain32Row.holds Try.pinned (OpenSpec.ofChange fnReadAgain32Spec)

/-- ITS FALSE NEIGHBOUR: 'it returns false'. Refute it at one input. -/
def fnReadAgain32Wrong : ChangeSpec := { name := "fnReadAgain32", fn := fun _ => fun
  | [d1, d2, d3, d4] => { results := [.lit (.bool false)], args := [d1, d2, d3, d4] }
  | _ => none }
def FnReadAgain32WrongFalsely : Prop := fnReadAgain32Row.holds Try.pinned (OpenSpec.ofChange fnReadAgain32Wrong)

/-- 'laws.FnEnds32': WHATEVER THE INPUT: true; the input reads as it did. -/
def fnEnds32Spec : ChangeSpec := { name := "fnEnds32", fn := fun _ => fun
  | [d1, d2, d3] => { results := [.lit (.bool true)], args := [d1, d2, d3] }
  | _ => none }
def fnEnds32Row : OpenClaim := { program := "ytlbnglmfbnnhjaa", sum := "6245e9e0513d664b0a3751622915b46ea16b8ce2d6bffeb956ca2f499e628464", func := "loop.example/lib-g01421/laws.FnEnds32", spec := "fnEnds32", apart := false }
def FnEnds32Said : Prop := fnEnds32Row.holds Try.pinned (OpenSpec.ofChange fnEnds32Spec)

/-- ITS FALSE NEIGHBOUR: 'it returns false'. Refute it at one input. -/
def fnEnds32Wrong : ChangeSpec := { name := "fnEnds32", fn := fun _ => fun
  | [d1, d2, d3] => { results := [.lit (.bool false)], args := [d1, d2, d3] }
  | _ => none }
def FnEnds32WrongFalsely : Prop := fnEnds32Row.holds Try.pinned (OpenSpec.ofChange fnEnds32Wrong)

/-- 'laws.FnFullLetters32': WHATEVER THE INPUT: true; the input reads as it did. -/
def fnFullLetters32Spec : ChangeSpec := { name := "fnFullLetters32", fn := fun _ => fun
  | [d1, d2, d3, d4] => { results := [.lit (.bool true)], args := [d1, d2, d3, d4] }
  | _ => none }
def fnFullLetters32Row : OpenClaim := { program := "ytlbnglmfbnnhjaa", sum := "6245e9e0513d664b0a3751622915b46ea16b8ce2d6bffeb956ca2f499e628464", func := "loop.example/lib-g01421/laws.FnFullLetters32", spec := "fnFullLetters32", apart := false }
def FnFullLetters32Said : Prop := fnFullLetters32Row.holds Try.pinned (OpenSpec.ofChange fnFullLetters32Spec)

/-- ITS FALSE NEIGHBOUR: 'it returns false'. Refute it at one input. -/
def fnFullLetters32Wrong : ChangeSpec := { name := "fnFullLetters32", fn := fun _ => fun
  | [d1, d2, d3, d4] => { results := [.lit (.bool false)], args := [d1, d2, d3, d4] }
  | _ => none }
def FnFullLetters32WrongFalsely : Prop := fnFullLetters32Row.holds Try.pinned (OpenSpec.ofChange fnFullLetters32Wrong)

/-- 'laws.FnOneBit32': WHATEVER THE INPUT: true; the input reads as it did. -/
def fnOneBit32Spec : ChangeSpec := { name := "fnOneBit32", fn := fun _ => fun
  | [d1, d2, d3, d4] => { results := [.lit (.bool true)], args := [d1, d2, d3, d4] }
  | _ => none }
def fnOneBit32Row : OpenClaim := { program := "ytlbnglmfbnnhjaa", sum := "6245e9e0513d664b0a3751622915b46ea16b8ce2d6bffeb956ca2f499e628464", func := "loop.example/lib-g01421/laws.FnOneBit32", spec := "fnOneBit32", apart := false }
def FnOneBit32Said : Prop := fnOneBit32Row.holds Try.pinned (OpenSpec.ofChange fnOneBit32Spec)

/-- ITS FALSE NEIGHBOUR: 'it returns false'. Refute it at one input. -/
def fnOneBit32Wrong : ChangeSpec := { name := "fnOneBit32", fn := fun _ => fun
  | [d1, d2, d3, d4] => { results := [.lit (.bool false)], args := [d1, d2, d3, d4] }
  | _ => none }
def FnOneBit32WrongFalsely : Prop := fnOneBit32Row.holds Try.pinned (OpenSpec.ofChange fnOneBit32Wrong)

/-- 'laws.FnOrder32': WHATEVER THE INPUT: true; the input reads as it did. -/
def fnOrder32Spec : ChangeSpec := { name := "fnOrder32", fn := fun _ => fun
  | [d1, d2, d3, d4] => { results := [.lit (.bool true)], args := [d1, d2, d3, d4] }
  | _ => none }
def fnOrder32Row : OpenClaim := { program := "ytlbnglmfbnnhjaa", sum := "6245e9e0513d664b0a3751622915b46ea16b8ce2d6bffeb956ca2f499e628464", func := "loop.example/lib-g01421/laws.FnOrder32", spec := "fnOrder32", apart := false }
def FnOrder32Said : Prop := fnOrder32Row.holds Try.pinned (OpenSpec.ofChange fnOrder32Spec)

/-- ITS FALSE NEIGHBOUR: 'it returns false'. Refute it at one input. -/
def fnOrder32Wrong : ChangeSpec := { name := "fnOrder32", fn := fun _ => fun
  | [d1, d2, d3, d4] => { results := [.lit (.bool false)], args := [d1, d2, d3, d4] }
  | _ => none }
def FnOrder32WrongFalsely : Prop := fnOrder32Row.holds Try.pinned (OpenSpec.ofChange fnOrder32Wrong)

/-- 'laws.FnParts32': WHATEVER THE INPUT: true; the input reads as it did. -/
def fnParts32Spec : ChangeSpec := { name := "fnParts32", fn := fun _ => fun
  | [d1, d2, d3, d4] => { results := [.lit (.bool true)], args := [d1, d2, d3, d4] }
  | _ => none }
def fnParts32Row : OpenClaim := { program := "ytlbnglmfbnnhjaa", sum := "6245e9e0513d664b0a3751622915b46ea16b8ce2d6bffeb956ca2f499e628464", func := "loop.example/lib-g01421/laws.FnParts32", spec := "fnParts32", apart := false }
def FnParts32Said : Prop := fnParts32Row.holds Try.pinned (OpenSpec.ofChange fnParts32Spec)

/-- ITS FALSE NEIGHBOUR: 'it returns false'. Refute it at one input. -/
def fnParts32Wrong : ChangeSpec := { name := "fnParts32", fn := fun _ => fun
  | [d1, d2, d3, d4] => { results := [.lit (.bool false)], args := [d1, d2, d3, d4] }
  | _ => none }
def FnParts32WrongFalsely : Prop := fnParts32Row.holds Try.pinned (OpenSpec.ofChange fnParts32Wrong)

/-- 'laws.FnXor32': WHATEVER THE INPUT: true; the input reads as it did. -/
def fnXor32Spec : ChangeSpec := { name := "fnXor32", fn := fun _ => fun
  | [d1, d2, d3, d4] => { results := [.lit (.bool true)], args := [d1, d2, d3, d4] }
  | _ => none }
def fnXor32Row : OpenClaim := { program := "ytlbnglmfbnnhjaa", sum := "6245e9e0513d664b0a3751622915b46ea16b8ce2d6bffeb956ca2f499e628464", func := "loop.example/lib-g01421/laws.FnXor32", spec := "fnXor32", apart := false }
def FnXor32Said : Prop := fnXor32Row.holds Try.pinned (OpenSpec.ofChange fnXor32Spec)

/-- ITS FALSE NEIGHBOUR: 'it returns false'. Refute it at one input. -/
def fnXor32Wrong : ChangeSpec := { name := "fnXor32", fn := fun _ => fun
  | [d1, d2, d3, d4] => { results := [.lit (.bool false)], args := [d1, d2, d3, d4] }
  | _ => none }
def FnXor32WrongFalsely : Prop := fnXor32Row.holds Try.pinned (OpenSpec.ofChange fnXor32Wrong)

/-- 'laws.FnOneLetter32': WHATEVER THE INPUT: true; the input reads as it did. -/
def fnOneLetter32Spec : ChangeSpec := { name := "fnOneLetter32", fn := fun _ => fun
  | [d1, d2, d3, d4, d5] => { results := [.lit (.bool true)], args := [d1, d2, d3, d4, d5] }
  | _ => none }
def fnOneLetter32Row : OpenClaim := { program := "ytlbnglmfbnnhjaa", sum := "6245e9e0513d664b0a3751622915b46ea16b8ce2d6bffeb956ca2f499e628464", func := "loop.example/lib-g01421/laws.FnOneLetter32", spec := "fnOneLetter32", apart := false }
def FnOneLetter32Said : Prop := fnOneLetter32Row.holds Try.pinned (OpenSpec.ofChange fnOneLetter32Spec)

/-- ITS FALSE NEIGHBOUR: 'it returns false'. Refute it at one input. -/
def fnOneLetter32Wrong : ChangeSpec := { name := "fnOneLetter32", fn := fun _ => fun
  | [d1, d2, d3, d4, d5] => { results := [.lit (.bool false)], args := [d1, d2, d3, d4, d5] }
  | _ => none }
def FnOneLetter32WrongFalsely : Prop := fnOneLetter32Row.holds Try.pinned (OpenSpec.ofChange fnOneLetter32Wrong)

/-- 'laws.FnStreamRoads32': WHATEVER THE INPUT: true; the input reads as it did. -/
def fnStreamRoads32Spec : ChangeSpec := { name := "fnStreamRoads32", fn := fun _ => fun
  | [d1, d2, d3, d4] => { results := [.lit (.bool true)], args := [d1, d2, d3, d4] }
  | _ => none }
def fnStreamRoads32Row : OpenClaim := { program := "ytlbnglmfbnnhjaa", sum := "6245e9e0513d664b0a3751622915b46ea16b8ce2d6bffeb956ca2f499e628464", func := "loop.example/lib-g01421/laws.FnStreamRoads32", spec := "fnStreamRoads32", unfollowed := true, recurses := true, apart := false }
def FnStreamRoads32Said : Prop := fnStreamRoads32Row.holds Try.pinned (OpenSpec.ofChange fnStreamRoads32Spec)

/-- ITS FALSE NEIGHBOUR: 'it returns false'. Refute it at one input. -/
def fnStreamRoads32Wrong : ChangeSpec := { name := "fnStreamRoads32", fn := fun _ => fun
  | [d1, d2, d3, d4] => { results := [.lit (.bool false)], args := [d1, d2, d3, d4] }
  | _ => none }
def FnStreamRoads32WrongFalsely : Prop := fnStreamRoads32Row.holds Try.pinned (OpenSpec.ofChange fnStreamRoads32Wrong)

/- THE SECOND FORM. 'bulk': how many values and letters a reading holds, each counted each time it is reached (what is shared counts as often as it is met; a slice's spare places count too). A statement '..UptoSaid' is the law's where the arguments, and the package variables that the reading takes, are together of bulk at most 1048576: NARROWER than '..Said'. Prove '..Said' where nothing that the law and all that it calls make is longer than what came in: it says more and counts as full. Else prove '..UptoSaid'. A law counts once. -/
mutual
def uptoBulk {H : Type} : DataW H → Nat
  | .lit (.string bytes) => bytes.length + 1
  | .lit _ => 1
  | .nil => 1
  | .ptr d => uptoBulk d + 1
  | .slice elems spare => uptoBulkAll elems + uptoBulkAll spare + 1
  | .agg parts => uptoBulkAll parts + 1
  | .iface _ d => uptoBulk d + 1
  | .map entries => uptoBulkEntries entries + 1
  | .held _ => 1
def uptoBulkAll {H : Type} : List (DataW H) → Nat
  | [] => 0
  | d :: r => uptoBulk d + uptoBulkAll r
def uptoBulkEntries {H : Type} : List (Lit × DataW H) → Nat
  | [] => 0
  | x :: r => uptoBulkEntry x + uptoBulkEntries r
def uptoBulkEntry {H : Type} : Lit × DataW H → Nat
  | (.string bytes, d) => bytes.length + uptoBulk d + 1
  | (_, d) => uptoBulk d + 1
 end
def uptoSmall : (H : Type) → List (DataW H) → Bool := fun _ ds => decide (uptoBulkAll ds ≤ 1048576)
def OpenSpec.upto (s : _root_.Go.ChangeSpec) : _root_.Go.OpenSpec := { _root_.Go.OpenSpec.ofChange s with cond := some uptoSmall }

/-- 'laws.FnOpen32', WHERE WHAT IT READS IS OF BULK AT MOST 1048576: true; the input reads as it did. -/
def fnOpen32UptoRow : OpenClaim := { program := "ytlbnglmfbnnhjaa", sum := "6245e9e0513d664b0a3751622915b46ea16b8ce2d6bffeb956ca2f499e628464", func := "loop.example/lib-g01421/laws.FnOpen32", spec := "fnOpen32", unfollowed := true, recurses := true, apart := false, narrowed := true }
def FnOpen32UptoSaid : Prop := fnOpen32UptoRow.holds Try.pinned (OpenSpec.upto fnOpen32Spec)

/-- 'laws.FnStream32', WHERE WHAT IT READS IS OF BULK AT MOST 1048576: true; the input reads as it did. -/
def fnStream32UptoRow : OpenClaim := { program := "ytlbnglmfbnnhjaa", sum := "6245e9e0513d664b0a3751622915b46ea16b8ce2d6bffeb956ca2f499e628464", func := "loop.example/lib-g01421/laws.FnStream32", spec := "fnStream32", unfollowed := true, recurses := true, apart := false, narrowed := true }
def FnStream32UptoSaid : Prop := fnStream32UptoRow.holds Try.pinned (OpenSpec.upto fnStream32Spec)

/-- 'laws.FnExactOrdered32', WHERE WHAT IT READS IS OF BULK AT MOST 1048576: true; the input reads as it did. -/
def fnExactOrdered32UptoRow : OpenClaim := { program := "ytlbnglmfbnnhjaa", sum := "6245e9e0513d664b0a3751622915b46ea16b8ce2d6bffeb956ca2f499e628464", func := "loop.example/lib-g01421/laws.FnExactOrdered32", spec := "fnExactOrdered32", unfollowed := true, recurses := true, apart := false, narrowed := true }
def FnExactOrdered32UptoSaid : Prop := fnExactOrdered32UptoRow.holds Try.pinned (OpenSpec.upto fnExactOrdered32Spec)

/-- 'laws.FnReadAgain32', WHERE WHAT IT READS IS OF BULK AT MOST 1048576: true; the input reads as it did. -/
def fnReadAgain32UptoRow : OpenClaim := { program := "ytlbnglmfbnnhjaa", sum := "6245e9e0513d664b0a3751622915b46ea16b8ce2d6bffeb956ca2f499e628464", func := "loop.example/lib-g01421/laws.FnReadAgain32", spec := "fnReadAgain32", apart := false, narrowed := true }
def FnReadAgain32UptoSaid : Prop := fnReadAgain32UptoRow.holds Try.pinned (OpenSpec.upto fnReadAgain32Spec)

/-- 'laws.FnEnds32', WHERE WHAT IT READS IS OF BULK AT MOST 1048576: true; the input reads as it did. -/
def fnEnds32UptoRow : OpenClaim := { program := "ytlbnglmfbnnhjaa", sum := "6245e9e0513d664b0a3751622915b46ea16b8ce2d6bffeb956ca2f499e628464", func := "loop.example/lib-g01421/laws.FnEnds32", spec := "fnEnds32", apart := false, narrowed := true }
def FnEnds32UptoSaid : Prop := fnEnds32UptoRow.holds Try.pinned (OpenSpec.upto fnEnds32Spec)

/-- 'laws.FnFullLetters32', WHERE WHAT IT READS IS OF BULK AT MOST 1048576: true; the input reads as it did. -/
def fnFullLetters32UptoRow : OpenClaim := { program := "ytlbnglmfbnnhjaa", sum := "6245e9e0513d664b0a3751622915b46ea16b8ce2d6bffeb956ca2f499e628464", func := "loop.example/lib-g01421/laws.FnFullLetters32", spec := "fnFullLetters32", apart := false, narrowed := true }
def FnFullLetters32UptoSaid : Prop := fnFullLetters32UptoRow.holds Try.pinned (OpenSpec.upto fnFullLetters32Spec)

/-- 'laws.FnOneBit32', WHERE WHAT IT READS IS OF BULK AT MOST 1048576: true; the input reads as it did. -/
def fnOneBit32UptoRow : OpenClaim := { program := "ytlbnglmfbnnhjaa", sum := "6245e9e0513d664b0a3751622915b46ea16b8ce2d6bffeb956ca2f499e628464", func := "loop.example/lib-g01421/laws.FnOneBit32", spec := "fnOneBit32", apart := false, narrowed := true }
def FnOneBit32UptoSaid : Prop := fnOneBit32UptoRow.holds Try.pinned (OpenSpec.upto fnOneBit32Spec)

/-- 'laws.FnOrder32', WHERE WHAT IT READS IS OF BULK AT MOST 1048576: true; the input reads as it did. -/
def fnOrder32UptoRow : OpenClaim := { program := "ytlbnglmfbnnhjaa", sum := "6245e9e0513d664b0a3751622915b46ea16b8ce2d6bffeb956ca2f499e628464", func := "loop.example/lib-g01421/laws.FnOrder32", spec := "fnOrder32", apart := false, narrowed := true }
def FnOrder32UptoSaid : Prop := fnOrder32UptoRow.holds Try.pinned (OpenSpec.upto fnOrder32Spec)

/-- 'laws.FnParts32', WHERE WHAT IT READS IS OF BULK AT MOST 1048576: true; the input reads as it did. -/
def fnParts32UptoRow : OpenClaim := { program := "ytlbnglmfbnnhjaa", sum := "6245e9e0513d664b0a3751622915b46ea16b8ce2d6bffeb956ca2f499e628464", func := "loop.example/lib-g01421/laws.FnParts32", spec := "fnParts32", apart := false, narrowed := true }
def FnParts32UptoSaid : Prop := fnParts32UptoRow.holds Try.pinned (OpenSpec.upto fnParts32Spec)

/-- 'laws.FnXor32', WHERE WHAT IT READS IS OF BULK AT MOST 1048576: true; the input reads as it did. -/
def fnXor32UptoRow : OpenClaim := { program := "ytlbnglmfbnnhjaa", sum := "6245e9e0513d664b0a3751622915b46ea16b8ce2d6bffeb956ca2f499e628464", func := "loop.example/lib-g01421/laws.FnXor32", spec := "fnXor32", apart := false, narrowed := true }
def FnXor32UptoSaid : Prop := fnXor32UptoRow.holds Try.pinned (OpenSpec.upto fnXor32Spec)

/-- 'laws.FnOneLetter32', WHERE WHAT IT READS IS OF BULK AT MOST 1048576: true; the input reads as it did. -/
def fnOneLetter32UptoRow : OpenClaim := { program := "ytlbnglmfbnnhjaa", sum := "6245e9e0513d664b0a3751622915b46ea16b8ce2d6bffeb956ca2f499e628464", func := "loop.example/lib-g01421/laws.FnOneLetter32", spec := "fnOneLetter32", apart := false, narrowed := true }
def FnOneLetter32UptoSaid : Prop := fnOneLetter32UptoRow.holds Try.pinned (OpenSpec.upto fnOneLetter32Spec)

/-- 'laws.FnStreamRoads32', WHERE WHAT IT READS IS OF BULK AT MOST 1048576: true; the input reads as it did. -/
def fnStreamRoads32UptoRow : OpenClaim := { program := "ytlbnglmfbnnhjaa", sum := "6245e9e0513d664b0a3751622915b46ea16b8ce2d6bffeb956ca2f499e628464", func := "loop.example/lib-g01421/laws.FnStreamRoads32", spec := "fnStreamRoads32", unfollowed := true, recurses := true, apart := false, narrowed := true }
def FnStreamRoads32UptoSaid : Prop := fnStreamRoads32UptoRow.holds Try.pinned (OpenSpec.upto fnStreamRoads32Spec)

end Rows
end Go.Proofs.Ytlbnglmfbnnhjaa
