/-
  Closed facts on the types and functions that the walks use.
-/
import Derived.Test.YtmbglgepomeilaaE64
import Derived.Test.YtmbglgepomeilaaProg
namespace Go.Proofs.Ytmbglgepomeilaa
open Go.RowKit
theorem siz4 : Siz Try.prog 4 1 := siz_of (by kernel_rfl)
theorem siz5 : Siz Try.prog 5 1 := siz_of (by kernel_rfl)
theorem siz21 : Siz Try.prog 21 1 := siz_of (by kernel_rfl)
theorem siz24 : Siz Try.prog 24 1 := siz_of (by kernel_rfl)
theorem siz82 : Siz Try.prog 82 64 := siz_of (by kernel_rfl)
theorem pl5 : Plain Try.prog 5 := plain_of Try.underlying5 rfl
theorem pl21 : Plain Try.prog 21 := plain_of Try.underlying21 rfl
theorem pl24 : Plain Try.prog 24 := plain_of Try.underlying24 rfl
theorem fld85_0 : Fld Try.prog 85 0 0 := fld_of (k := 63) Try.underlying85 (by kernel_rfl)
theorem fld85_1 : Fld Try.prog 85 1 64 := fld_of (k := 255) Try.underlying85 (by kernel_rfl)
theorem fld85_2 : Fld Try.prog 85 2 320 := fld_of (k := 0) Try.underlying85 (by kernel_rfl)
theorem fld85_3 : Fld Try.prog 85 3 321 := fld_of (k := 0) Try.underlying85 (by kernel_rfl)
theorem ent28 : Enters Try.prog 28 := enters_of Try.func28 (by kernel_rfl) rfl
theorem ent37 : Enters Try.prog 37 := enters_of Try.func37 (by kernel_rfl) rfl
theorem ent40 : Enters Try.prog 40 := enters_of Try.func40 (by kernel_rfl) rfl
theorem ent41 : Enters Try.prog 41 := enters_of Try.func41 (by kernel_rfl) rfl
theorem ent42 : Enters Try.prog 42 := enters_of Try.func42 (by kernel_rfl) rfl
theorem el24 : El Try.prog 24 5 1 := el_of Try.underlying24 (by kernel_rfl)
theorem mixed : Try.prog.follows .mixedOrders = true := by kernel_rfl
end Go.Proofs.Ytmbglgepomeilaa
