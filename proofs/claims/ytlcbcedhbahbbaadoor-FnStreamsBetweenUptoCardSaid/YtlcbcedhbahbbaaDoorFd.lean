/-
  The frame of the cards: arguments opened as rows of numbers.
-/
import Derived.Test.YtlcbcedhbahbbaaDoorFr
import Derived.Test.YtlcbcedhbahbbaaDoorStr2
namespace Go.Proofs.YtlcbcedhbahbbaaDoor
open Go.ChangeShapes Go.WideShapes Go.ChangeAt Go.RowKit Go.Deep
theorem Rd.of_i64s {w : World} {a : Addr} {zs : List Int} {n : Nat} (hn : n ≤ zs.length) (h : ∀ i, i < n → w.cell? (a.add i) = some (.int .i64 (zs.getD i 0))) : Rd w (some a) (iv (zs.take n)) := by
  rcases Nat.eq_zero_or_pos n with h0 | h0
  · subst h0; exact .inl (by simp [iv])
  · have hs := spot_of (h 0 h0)
    have hs' : a = ⟨a.block, a.off, none⟩ := by simpa [Addr.add] using hs
    refine .inr ⟨a.block, a.off, congrArg some hs', fun i u hu => ?_⟩
    simp only [iv, List.getElem?_map, Option.map_eq_some_iff] at hu
    obtain ⟨z, hz, rfl⟩ := hu
    rw [List.getElem?_take] at hz
    split at hz
    · next hi =>
      have h2 := h i hi
      rw [hs', add_flat] at h2
      rw [h2, List.getD_eq_getElem?_getD, hz]
      rfl
    · cases hz
section
variable {H : Type} {enc : TypeId × Value → H} {P : Program} {w : World}
theorem open_i64s {t e : TypeId} {r : Reach} {b0 : Nat} {v : Value} {d : DataW H} {ps : List MemPlace} (ht : P.underlying t = some (.slice e)) (he : P.underlying e = some (.int .i64)) (hc : P.cellsOf e = 1)
    (hval : Value.okWide P w r b0 t v) (h : DataW.Trod enc P w 0 (fun _ => true) true t v d ps) :
    ∃ A n c zs, v = .slice A n c ∧ zs.length = n ∧ n ≤ c ∧ Rd w A (iv zs) ∧ zs.length + 1 ≤ Rows.uptoBulk d := by
  obtain ⟨fuel, hf⟩ := h
  obtain ⟨A, n, c, rfl⟩ := okWide_slice ht hval
  rcases open_ints ht he hc hf with ⟨h1, h2⟩ | ⟨a, len, cap, zs, h1, hb, hl, hm, hz, h2, hcell, hw⟩
  · injection h2 with h2 h3
    subst h2
    simp [Value.cells] at h1
    obtain ⟨rfl, rfl, rfl⟩ := h1
    exact ⟨none, 0, 0, [], rfl, rfl, Nat.le_refl _, .inl rfl, by simp [Rows.uptoBulk]⟩
  · injection h2 with h2 h3
    subst h2
    simp [Value.cells] at h1
    obtain ⟨rfl, rfl, rfl⟩ := h1
    simp only [if_true] at hz
    refine ⟨some a, n, c, zs.take n, rfl, by rw [List.length_take]; omega, hl, Rd.of_i64s (by omega) (fun i hi => hcell i (by omega)), ?_⟩
    simp only [Rows.uptoBulk, bulk_lits]
    simp
end
end Go.Proofs.YtlcbcedhbahbbaaDoor
