/-
  The reach of an argument of bytes: what the first form's own premise gives.
-/
import Derived.Test.YtmbglgepomeilaaFr
import Derived.SizedLaws
namespace Go.Proofs.Ytmbglgepomeilaa
open Go.ChangeShapes Go.WideShapes Go.ChangeAt Go.RowKit Go.Deep
section
variable {H : Type} {enc : TypeId × Value → H} {P : Program} {w : World}
theorem sized_bytes {ts : List TypeId} {ds : List (DataW H)} {j : Nat} {t e : TypeId} {A : Option Addr} {n c : Nat} {d : DataW H} {ps : List MemPlace} (hsz : (DataW.weightsEach P ts ds).all (· ≤ reachBytes) = true)
    (hj : ts[j]? = some t) (hd : ds[j]? = some d) (ht : P.underlying t = some (.slice e)) (he : P.underlying e = some (.int .u8)) (hc : P.cellsOf e = 1) (hb : P.bytesOf e = 1)
    (h : DataW.Trod enc P w 0 (fun _ => true) true t (.slice A n c) d ps) : n ≤ 140737488351232 := by
  obtain ⟨fuel, hf⟩ := h
  rcases open_ints ht he hc hf with ⟨h1, h2⟩ | ⟨a, len, cap, zs, h1, _, hl, hm, hz, h2, hcell, hw⟩
  · injection h2 with h2 h3
    subst h2
    simp [Value.cells] at h1
    obtain ⟨rfl, rfl, rfl⟩ := h1
    omega
  · injection h2 with h2 h3
    subst h2
    simp [Value.cells] at h1
    obtain ⟨rfl, rfl, rfl⟩ := h1
    simp only [if_true] at hz
    have h4 := sized_slice hsz hj hd ht
    rw [hb] at h4
    simp [lits, reachBytes] at h4
    omega
end
end Go.Proofs.Ytmbglgepomeilaa
