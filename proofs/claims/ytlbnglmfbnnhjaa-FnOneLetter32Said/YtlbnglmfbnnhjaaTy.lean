/-
  Closed facts on the types and functions that the walks use.
-/
import Derived.Test.YtlbnglmfbnnhjaaStr
import Derived.Test.YtlbnglmfbnnhjaaProg
namespace Go.Proofs.Ytlbnglmfbnnhjaa
open Go.RowKit
theorem siz3 : Siz Try.prog 3 1 := siz_of (by kernel_rfl)
theorem siz5 : Siz Try.prog 5 1 := siz_of (by kernel_rfl)
theorem siz21 : Siz Try.prog 21 1 := siz_of (by kernel_rfl)
theorem siz24 : Siz Try.prog 24 1 := siz_of (by kernel_rfl)
theorem siz55 : Siz Try.prog 55 1 := siz_of (by kernel_rfl)
theorem siz84 : Siz Try.prog 84 32 := siz_of (by kernel_rfl)
theorem pl3 : Plain Try.prog 3 := plain_of Try.underlying3 rfl
theorem pl5 : Plain Try.prog 5 := plain_of Try.underlying5 rfl
theorem pl21 : Plain Try.prog 21 := plain_of Try.underlying21 rfl
theorem pl24 : Plain Try.prog 24 := plain_of Try.underlying24 rfl
theorem pl51 : Plain Try.prog 51 := plain_of Try.underlying51 rfl
theorem pl55 : Plain Try.prog 55 := plain_of Try.underlying55 rfl
theorem pl76 : Plain Try.prog 76 := plain_of Try.underlying76 rfl
theorem fld62_0 : Fld Try.prog 62 0 0 := fld_of (k := 0) Try.underlying62 (by kernel_rfl)
theorem fld81_0 : Fld Try.prog 81 0 0 := fld_of (k := 0) Try.underlying81 (by kernel_rfl)
theorem fld81_1 : Fld Try.prog 81 1 1 := fld_of (k := 0) Try.underlying81 (by kernel_rfl)
theorem fld81_2 : Fld Try.prog 81 2 2 := fld_of (k := 0) Try.underlying81 (by kernel_rfl)
theorem fld81_3 : Fld Try.prog 81 3 3 := fld_of (k := 4) Try.underlying81 (by kernel_rfl)
theorem fld81_4 : Fld Try.prog 81 4 8 := fld_of (k := 0) Try.underlying81 (by kernel_rfl)
theorem fld81_5 : Fld Try.prog 81 5 9 := fld_of (k := 1023) Try.underlying81 (by kernel_rfl)
theorem fld87_0 : Fld Try.prog 87 0 0 := fld_of (k := 31) Try.underlying87 (by kernel_rfl)
theorem fld87_1 : Fld Try.prog 87 1 32 := fld_of (k := 255) Try.underlying87 (by kernel_rfl)
theorem fld87_2 : Fld Try.prog 87 2 288 := fld_of (k := 0) Try.underlying87 (by kernel_rfl)
theorem ent29 : Enters Try.prog 29 := enters_of Try.func29 (by kernel_rfl) rfl
theorem ent31 : Enters Try.prog 31 := enters_of Try.func31 (by kernel_rfl) rfl
theorem ent35 : Enters Try.prog 35 := enters_of Try.func35 (by kernel_rfl) rfl
theorem ent38 : Enters Try.prog 38 := enters_of Try.func38 (by kernel_rfl) rfl
theorem ent39 : Enters Try.prog 39 := enters_of Try.func39 (by kernel_rfl) rfl
theorem ent40 : Enters Try.prog 40 := enters_of Try.func40 (by kernel_rfl) rfl
theorem ent41 : Enters Try.prog 41 := enters_of Try.func41 (by kernel_rfl) rfl
theorem ent42 : Enters Try.prog 42 := enters_of Try.func42 (by kernel_rfl) rfl
theorem ent43 : Enters Try.prog 43 := enters_of Try.func43 (by kernel_rfl) rfl
theorem ent44 : Enters Try.prog 44 := enters_of Try.func44 (by kernel_rfl) rfl
theorem ent64 : Enters Try.prog 64 := enters_of Try.func64 (by kernel_rfl) rfl
theorem ent65 : Enters Try.prog 65 := enters_of Try.func65 (by kernel_rfl) rfl
theorem ent66 : Enters Try.prog 66 := enters_of Try.func66 (by kernel_rfl) rfl
theorem el24 : El Try.prog 24 5 1 := el_of Try.underlying24 (by kernel_rfl)
theorem eqNil55 : ∀ w, (Op.equal 55 .nilIface .nilIface).run Try.prog w = .ok true w := fun w => by kernel_rfl
theorem methKeep : Meth Try.prog 60 "Write" 64 := fun a w => by kernel_rfl
theorem methEnc32 : Meth Try.prog 77 "Write" 66 := fun a w => by kernel_rfl
theorem methClose32 : Meth Try.prog 77 "Close" 65 := fun a w => by kernel_rfl
theorem buildEnc32 (gc gk : Nat) (w : World) : (Instr.build 81 #[(1, .pointer (some ⟨gc, 0, none⟩)), (2, .iface 60 (.pointer (some ⟨gk, 0, none⟩)))]).run Try.prog w = .ok (.agg (((zc Try.prog 81).setIfInBounds 1 (.pointer (some ⟨gc, 0, none⟩))).setIfInBounds 2 (.iface 60 (.pointer (some ⟨gk, 0, none⟩))))) w := by kernel_rfl
theorem zcEnc32 : (zc Try.prog 81).size = 1033 ∧ (zc Try.prog 81)[0]? = some .nilIface ∧ (zc Try.prog 81)[8]? = some (.int .i64 0) := ⟨by kernel_rfl, by kernel_rfl, by kernel_rfl⟩
theorem nilEnc32 : NilA Try.prog 77 "Write" := fun a w => by kernel_rfl
theorem buildKeep (w : World) : (Instr.build 62 #[]).run Try.prog w = .ok (.agg #[.slice none 0 0]) w := by kernel_rfl
theorem mixed : Try.prog.follows .mixedOrders = true := by kernel_rfl
end Go.Proofs.Ytlbnglmfbnnhjaa
