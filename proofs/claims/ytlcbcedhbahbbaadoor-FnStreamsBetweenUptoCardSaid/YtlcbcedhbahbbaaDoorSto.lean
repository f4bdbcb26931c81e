/-
  A reader that leaves out new lines; a decoder's cells. No program in sight.
-/
import Derived.Test.YtlcbcedhbahbbaaDoorStn
namespace Go.Proofs.YtlcbcedhbahbbaaDoor
open Go.RowKit
/-- a reader that leaves out new lines, over a giver; what it still has -/
def Src (tf TG tg tr : TypeId) (w : World) (gf gg gr : Nat) (R : List UInt8) : Prop :=
  Bk w gf #[.iface TG (.pointer (some ⟨gg, 0, none⟩))] tf (0, 0) ∧ ∃ T, Gv w gg gr tg tr T ∧ strip T = R
theorem Src.kept {tf TG tg tr : TypeId} {w w' : World} {gf gg gr : Nat} {R : List UInt8} {S : Nat → Prop} (h : Src tf TG tg tr w gf gg gr R) (hk : Kp S w w') (h0 : ¬ S gf) (h1 : ¬ S gg) (h2 : ¬ S gr) : Src tf TG tg tr w' gf gg gr R := by
  obtain ⟨hb, T, hg, e⟩ := h
  exact ⟨hb.kept hk h0, T, hg.kept hk h1 h2, e⟩
end Go.Proofs.YtlcbcedhbahbbaaDoor
