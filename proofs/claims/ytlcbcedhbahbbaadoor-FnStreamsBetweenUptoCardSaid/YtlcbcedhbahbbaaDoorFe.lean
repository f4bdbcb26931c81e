/-
  What the row's list gives: io.EOF holds a pointer; a world for the witness.
-/
import Derived.Test.YtlcbcedhbahbbaaDoorFd
import Derived.Test.YtlcbcedhbahbbaaDoorCards
import Derived.Test.YtlcbcedhbahbbaaDoorTie
import Derived.Stop.LaidErr
import Derived.Deep.DeepHandedRow
import Derived.SevenTiedAt
namespace Go.Proofs.YtlcbcedhbahbbaaDoor
open Go.ChangeShapes Go.WideShapes Go.ChangeAt Go.RowKit Go.Deep
open Go.Extern.Stop Go.Stop Go.Extern
theorem gE : Tryd.prog.globalNamed "io.EOF" = some 0 := by kernel_rfl
theorem gEType : (Tryd.prog.globals[0]?).map (·.type) = some 47 := by kernel_rfl
theorem cellsE : Tryd.prog.cellsOf 154 = 1 := by kernel_rfl
theorem cellsS : Tryd.prog.cellsOf 9 = 1 := by kernel_rfl
theorem starE : "*" ++ "errors.errorString" = "*errors.errorString" := by decide
theorem rowE (u : TypeId) (h : Tryd.prog.typeName? 3 u = some "*errors.errorString") : u = 116 :=
  typeName_ptr_named (nm := "errors.errorString") (by rw [starE]; kernel_rfl) (by kernel_rfl) (by decide) u (by rw [starE]; exact h)
theorem of_laid {W : World} (h : laidMetH Tryd.prog [("io.EOF", Rows.laid_io_EOF)] W) : ∃ ae, W.cell? ⟨0, 0, none⟩ = some (.iface 116 (.pointer (some ae))) := by
  have h2 : laidMet Tryd.prog [("io.EOF", Rows.laid_io_EOF)] W := h
  obtain ⟨a, s, hv, _, _, _⟩ := laid_sentinel h2 gE gEType Tryd.underlying47 rowE Tryd.underlying116 Tryd.underlying154 rfl rfl Tryd.underlying9 cellsE cellsS
  exact ⟨a, by simpa using World.var?_cell gE hv 0⟩
noncomputable def low : Nat := (World.holding Tryd.prog default ⟨#[], #[], []⟩).heap.size
noncomputable def laidWorld (os : Os) : World :=
  { World.holding Tryd.prog os ⟨#[.cells #[.string (ByteArray.mk #[69, 79, 70])] 154], #[], []⟩ with heap := (World.holding Tryd.prog os ⟨#[.cells #[.string (ByteArray.mk #[69, 79, 70])] 154], #[], []⟩).heap.modify 0 fun
      | .cells _ t frozen => .cells #[.iface 116 (.pointer (some ⟨low, 0, none⟩))] t frozen
      | o => o }
theorem laid_met (os : Os) (args : Array Value) : laidMetH Tryd.prog [("io.EOF", Rows.laid_io_EOF)] ((laidWorld os).forCall (fun _ _ => 0) ⟨#[], args, []⟩).memory :=
  show laidMet Tryd.prog [("io.EOF", Rows.laid_io_EOF)] ((laidWorld os).forCall (fun _ _ => 0) ⟨#[], args, []⟩).memory from laidMet_of_run (ps := [.cell 0 0, .cell low 0]) 8 (by kernel_rfl) (by kernel_rfl) (by kernel_rfl)
end Go.Proofs.YtlcbcedhbahbbaaDoor
