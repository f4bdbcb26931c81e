/-
  DERIVED. GIVEN WITH THE SEED: THE CARDS: each row of YtlcbcedhbahbbaaDoorRows.lean that lists a variable, with what it lists TIED to the program's text (the seventh form; the later family's looks); each row that meets fmt, with fmt's text TOLD by the authors' own Lean function (tested against real Go, not proved from fmt's source: count such statements apart). THE CARD IS WHAT COUNTS. Prove the row's statement (the work); the ties are given (YtlcbcedhbahbbaaDoorTie.lean); close each card by the builder's one call (the guide's Derived/Test/ToyasCard.lean, 'card_holds'). Laid BY PROGRAM, IN A SANDBOX (cutbox-door.mjs). By AI agents, Wed Nov 11 2026. No macro, syntax, notation, axiom, sorry.
-/
import Derived.Test.YtlcbcedhbahbbaaDoorRows
import GoSem.ClaimSeven
namespace Go.Proofs.YtlcbcedhbahbbaaDoor
namespace Rows

/-- THE TIED CARD OF 'laws.FnStreamCounts32'. -/
def fnStreamCounts32Card : Claim7 := { stood := { row := fnStreamCounts32Row, standIns := [], harness := (true, "332429619d247e476c7dc6d22d89333b73af5ee83dad5d38703ff682d9ea9d6d"), looks := true }, kinds := [], alts := [], laidByText := true, laidKinds := [.sentinel], laidTests := true, laidLooks := .later }
def FnStreamCounts32CardSaid : Prop := Claim7.holds Tryd.pinned (.plain (OpenSpec.ofChange fnStreamCounts32Spec)) fnStreamCounts32Card

/-- THE TIED CARD OF 'laws.FnStreamLines32'. -/
def fnStreamLines32Card : Claim7 := { stood := { row := fnStreamLines32Row, standIns := [], harness := (true, "332429619d247e476c7dc6d22d89333b73af5ee83dad5d38703ff682d9ea9d6d"), looks := true }, kinds := [], alts := [], laidByText := true, laidKinds := [.sentinel], laidTests := true, laidLooks := .later }
def FnStreamLines32CardSaid : Prop := Claim7.holds Tryd.pinned (.plain (OpenSpec.ofChange fnStreamLines32Spec)) fnStreamLines32Card

/-- THE TIED CARD OF 'laws.FnStreamRead32'. -/
def fnStreamRead32Card : Claim7 := { stood := { row := fnStreamRead32Row, standIns := [], harness := (true, "332429619d247e476c7dc6d22d89333b73af5ee83dad5d38703ff682d9ea9d6d"), looks := true }, kinds := [], alts := [], laidByText := true, laidKinds := [.sentinel], laidTests := true, laidLooks := .later }
def FnStreamRead32CardSaid : Prop := Claim7.holds Tryd.pinned (.plain (OpenSpec.ofChange fnStreamRead32Spec)) fnStreamRead32Card

/-- THE TIED CARD OF 'laws.FnStreamCounts64'. -/
def fnStreamCounts64Card : Claim7 := { stood := { row := fnStreamCounts64Row, standIns := [], harness := (true, "332429619d247e476c7dc6d22d89333b73af5ee83dad5d38703ff682d9ea9d6d"), looks := true }, kinds := [], alts := [], laidByText := true, laidKinds := [.sentinel], laidTests := true, laidLooks := .later }
def FnStreamCounts64CardSaid : Prop := Claim7.holds Tryd.pinned (.plain (OpenSpec.ofChange fnStreamCounts64Spec)) fnStreamCounts64Card

/-- THE TIED CARD OF 'laws.FnStreamLines64'. -/
def fnStreamLines64Card : Claim7 := { stood := { row := fnStreamLines64Row, standIns := [], harness := (true, "332429619d247e476c7dc6d22d89333b73af5ee83dad5d38703ff682d9ea9d6d"), looks := true }, kinds := [], alts := [], laidByText := true, laidKinds := [.sentinel], laidTests := true, laidLooks := .later }
def FnStreamLines64CardSaid : Prop := Claim7.holds Tryd.pinned (.plain (OpenSpec.ofChange fnStreamLines64Spec)) fnStreamLines64Card

/-- THE TIED CARD OF 'laws.FnStreamRead64'. -/
def fnStreamRead64Card : Claim7 := { stood := { row := fnStreamRead64Row, standIns := [], harness := (true, "332429619d247e476c7dc6d22d89333b73af5ee83dad5d38703ff682d9ea9d6d"), looks := true }, kinds := [], alts := [], laidByText := true, laidKinds := [.sentinel], laidTests := true, laidLooks := .later }
def FnStreamRead64CardSaid : Prop := Claim7.holds Tryd.pinned (.plain (OpenSpec.ofChange fnStreamRead64Spec)) fnStreamRead64Card

/-- THE TIED CARD OF 'laws.FnStreamThrough32'. -/
def fnStreamThrough32Card : Claim7 := { stood := { row := fnStreamThrough32Row, standIns := [], harness := (true, "332429619d247e476c7dc6d22d89333b73af5ee83dad5d38703ff682d9ea9d6d"), looks := true }, kinds := [], alts := [], laidByText := true, laidKinds := [.sentinel], laidTests := true, laidLooks := .later }
def FnStreamThrough32CardSaid : Prop := Claim7.holds Tryd.pinned (.plain (OpenSpec.ofChange fnStreamThrough32Spec)) fnStreamThrough32Card

/-- THE TIED CARD OF 'laws.FnStreamThrough64'. -/
def fnStreamThrough64Card : Claim7 := { stood := { row := fnStreamThrough64Row, standIns := [], harness := (true, "332429619d247e476c7dc6d22d89333b73af5ee83dad5d38703ff682d9ea9d6d"), looks := true }, kinds := [], alts := [], laidByText := true, laidKinds := [.sentinel], laidTests := true, laidLooks := .later }
def FnStreamThrough64CardSaid : Prop := Claim7.holds Tryd.pinned (.plain (OpenSpec.ofChange fnStreamThrough64Spec)) fnStreamThrough64Card

/-- THE TIED CARD OF 'laws.FnStreamsBetween'. -/
def fnStreamsBetweenCard : Claim7 := { stood := { row := fnStreamsBetweenRow, standIns := [], harness := (true, "332429619d247e476c7dc6d22d89333b73af5ee83dad5d38703ff682d9ea9d6d"), looks := true }, kinds := [], alts := [], laidByText := true, laidKinds := [.sentinel], laidTests := true, laidLooks := .later }
def FnStreamsBetweenCardSaid : Prop := Claim7.holds Tryd.pinned (.plain (OpenSpec.ofChange fnStreamsBetweenSpec)) fnStreamsBetweenCard

/-- THE SECOND FORM's CARD OF 'laws.FnStreamCounts32'. -/
def fnStreamCounts32UptoCard : Claim7 := { stood := { row := fnStreamCounts32UptoRow, standIns := [], harness := (true, "332429619d247e476c7dc6d22d89333b73af5ee83dad5d38703ff682d9ea9d6d"), looks := true }, kinds := [], alts := [], laidByText := true, laidKinds := [.sentinel], laidTests := true, laidLooks := .later }
def FnStreamCounts32UptoCardSaid : Prop := Claim7.holds Tryd.pinned (.plain (OpenSpec.upto fnStreamCounts32Spec)) fnStreamCounts32UptoCard

/-- THE SECOND FORM's CARD OF 'laws.FnStreamLines32'. -/
def fnStreamLines32UptoCard : Claim7 := { stood := { row := fnStreamLines32UptoRow, standIns := [], harness := (true, "332429619d247e476c7dc6d22d89333b73af5ee83dad5d38703ff682d9ea9d6d"), looks := true }, kinds := [], alts := [], laidByText := true, laidKinds := [.sentinel], laidTests := true, laidLooks := .later }
def FnStreamLines32UptoCardSaid : Prop := Claim7.holds Tryd.pinned (.plain (OpenSpec.upto fnStreamLines32Spec)) fnStreamLines32UptoCard

/-- THE SECOND FORM's CARD OF 'laws.FnStreamRead32'. -/
def fnStreamRead32UptoCard : Claim7 := { stood := { row := fnStreamRead32UptoRow, standIns := [], harness := (true, "332429619d247e476c7dc6d22d89333b73af5ee83dad5d38703ff682d9ea9d6d"), looks := true }, kinds := [], alts := [], laidByText := true, laidKinds := [.sentinel], laidTests := true, laidLooks := .later }
def FnStreamRead32UptoCardSaid : Prop := Claim7.holds Tryd.pinned (.plain (OpenSpec.upto fnStreamRead32Spec)) fnStreamRead32UptoCard

/-- THE SECOND FORM's CARD OF 'laws.FnStreamCounts64'. -/
def fnStreamCounts64UptoCard : Claim7 := { stood := { row := fnStreamCounts64UptoRow, standIns := [], harness := (true, "332429619d247e476c7dc6d22d89333b73af5ee83dad5d38703ff682d9ea9d6d"), looks := true }, kinds := [], alts := [], laidByText := true, laidKinds := [.sentinel], laidTests := true, laidLooks := .later }
def FnStreamCounts64UptoCardSaid : Prop := Claim7.holds Tryd.pinned (.plain (OpenSpec.upto fnStreamCounts64Spec)) fnStreamCounts64UptoCard

/-- THE SECOND FORM's CARD OF 'laws.FnStreamLines64'. -/
def fnStreamLines64UptoCard : Claim7 := { stood := { row := fnStreamLines64UptoRow, standIns := [], harness := (true, "332429619d247e476c7dc6d22d89333b73af5ee83dad5d38703ff682d9ea9d6d"), looks := true }, kinds := [], alts := [], laidByText := true, laidKinds := [.sentinel], laidTests := true, laidLooks := .later }
def FnStreamLines64UptoCardSaid : Prop := Claim7.holds Tryd.pinned (.plain (OpenSpec.upto fnStreamLines64Spec)) fnStreamLines64UptoCard

/-- THE SECOND FORM's CARD OF 'laws.FnStreamRead64'. -/
def fnStreamRead64UptoCard : Claim7 := { stood := { row := fnStreamRead64UptoRow, standIns := [], harness := (true, "332429619d247e476c7dc6d22d89333b73af5ee83dad5d38703ff682d9ea9d6d"), looks := true }, kinds := [], alts := [], laidByText := true, laidKinds := [.sentinel], laidTests := true, laidLooks := .later }
def FnStreamRead64UptoCardSaid : Prop := Claim7.holds Tryd.pinned (.plain (OpenSpec.upto fnStreamRead64Spec)) fnStreamRead64UptoCard

/-- THE SECOND FORM's CARD OF 'laws.FnStreamThrough32'. -/
def fnStreamThrough32UptoCard : Claim7 := { stood := { row := fnStreamThrough32UptoRow, standIns := [], harness := (true, "332429619d247e476c7dc6d22d89333b73af5ee83dad5d38703ff682d9ea9d6d"), looks := true }, kinds := [], alts := [], laidByText := true, laidKinds := [.sentinel], laidTests := true, laidLooks := .later }
def FnStreamThrough32UptoCardSaid : Prop := Claim7.holds Tryd.pinned (.plain (OpenSpec.upto fnStreamThrough32Spec)) fnStreamThrough32UptoCard

/-- THE SECOND FORM's CARD OF 'laws.FnStreamThrough64'. -/
def fnStreamThrough64UptoCard : Claim7 := { stood := { row := fnStreamThrough64UptoRow, standIns := [], harness := (true, "332429619d247e476c7dc6d22d89333b73af5ee83dad5d38703ff682d9ea9d6d"), looks := true }, kinds := [], alts := [], laidByText := true, laidKinds := [.sentinel], laidTests := true, laidLooks := .later }
def FnStreamThrough64UptoCardSaid : Prop := Claim7.holds Tryd.pinned (.plain (OpenSpec.upto fnStreamThrough64Spec)) fnStreamThrough64UptoCard

/-- THE SECOND FORM's CARD OF 'laws.FnStreamsBetween'. -/
def fnStreamsBetweenUptoCard : Claim7 := { stood := { row := fnStreamsBetweenUptoRow, standIns := [], harness := (true, "332429619d247e476c7dc6d22d89333b73af5ee83dad5d38703ff682d9ea9d6d"), looks := true }, kinds := [], alts := [], laidByText := true, laidKinds := [.sentinel], laidTests := true, laidLooks := .later }
def FnStreamsBetweenUptoCardSaid : Prop := Claim7.holds Tryd.pinned (.plain (OpenSpec.upto fnStreamsBetweenSpec)) fnStreamsBetweenUptoCard
end Rows
end Go.Proofs.YtlcbcedhbahbbaaDoor
