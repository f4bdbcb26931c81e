/-
  A closed fact on the program.
-/
import Derived.Test.YtlcbcedhbahbbaaDoorE64
import Derived.Test.YtlcbcedhbahbbaaDoorProg
namespace Go.Proofs.YtlcbcedhbahbbaaDoor
open Go.RowKit
theorem mixed : Tryd.prog.follows .mixedOrders = true := by kernel_rfl
end Go.Proofs.YtlcbcedhbahbbaaDoor
