/-
  A closed fact on the program.
-/
import Derived.Test.YtlcbcedhbahbbaaE64
import Derived.Test.YtlcbcedhbahbbaaProg
namespace Go.Proofs.Ytlcbcedhbahbbaa
open Go.RowKit
theorem mixed : Try.prog.follows .mixedOrders = true := by kernel_rfl
end Go.Proofs.Ytlcbcedhbahbbaa
