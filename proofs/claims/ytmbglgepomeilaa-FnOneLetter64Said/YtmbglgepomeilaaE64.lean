/-
  Groups and tails of base64, as the program reckons them. No program in sight.
-/
import Derived.Test.YtmbglgepomeilaaLaw
namespace Go.Proofs.Ytmbglgepomeilaa
open Go.RowKit
theorem group64 (al : List UInt8) (b0 b1 b2 : UInt8) {v : Nat} (hv : v = b0.toNat * 2 ^ 16 + b1.toNat * 2 ^ 8 + b2.toNat) :
    bv (Pl.letters 6 al [b0, b1, b2]) = [u8 (Pl.letter al (v / 2 ^ 18 % 2 ^ 6)), u8 (Pl.letter al (v / 2 ^ 12 % 2 ^ 6)), u8 (Pl.letter al (v / 2 ^ 6 % 2 ^ 6)), u8 (Pl.letter al (v % 2 ^ 6))] := by
  have h0 := b0.toNat_lt; have h1 := b1.toNat_lt; have h2 := b2.toNat_lt
  subst hv
  simp only [Pl.letters, Pl.nums64_3, bv, List.map_cons, List.map_nil, List.cons.injEq, and_true]
  refine ⟨?_, ?_, ?_, ?_⟩ <;> first | trivial | (refine congrArg (fun i => u8 (Pl.letter al i)) ?_; omega)
theorem tail64_2 (al : List UInt8) (b0 b1 : UInt8) {v : Nat} (hv : v = b0.toNat * 2 ^ 16 + b1.toNat * 2 ^ 8) :
    bv (Pl.letters 6 al [b0, b1]) = [u8 (Pl.letter al (v / 2 ^ 18 % 2 ^ 6)), u8 (Pl.letter al (v / 2 ^ 12 % 2 ^ 6)), u8 (Pl.letter al (v / 2 ^ 6 % 2 ^ 6))] := by
  have h0 := b0.toNat_lt; have h1 := b1.toNat_lt
  subst hv
  simp only [Pl.letters, Pl.nums64_2, bv, List.map_cons, List.map_nil, List.cons.injEq, and_true]
  refine ⟨?_, ?_, ?_⟩ <;> first | trivial | (refine congrArg (fun i => u8 (Pl.letter al i)) ?_; omega)
theorem tail64_1 (al : List UInt8) (b0 : UInt8) {v : Nat} (hv : v = b0.toNat * 2 ^ 16) :
    bv (Pl.letters 6 al [b0]) = [u8 (Pl.letter al (v / 2 ^ 18 % 2 ^ 6)), u8 (Pl.letter al (v / 2 ^ 12 % 2 ^ 6))] := by
  have h0 := b0.toNat_lt
  subst hv
  simp only [Pl.letters, Pl.nums64_1, bv, List.map_cons, List.map_nil, List.cons.injEq, and_true]
  refine ⟨?_, ?_⟩ <;> first | trivial | (refine congrArg (fun i => u8 (Pl.letter al i)) ?_; omega)
theorem letters_take64 (al : List UInt8) {src : List UInt8} {k : Nat} {b0 b1 b2 : UInt8} (h0 : src[3 * k]? = some b0) (h1 : src[3 * k + 1]? = some b1) (h2 : src[3 * k + 2]? = some b2) :
    Pl.letters 6 al (src.take (3 * (k + 1))) = Pl.letters 6 al (src.take (3 * k)) ++ Pl.letters 6 al [b0, b1, b2] := by
  have hlt := get_lt h2
  have e : src.take (3 * (k + 1)) = src.take (3 * k) ++ [b0, b1, b2] := by
    rw [show 3 * (k + 1) = 3 * k + 1 + 1 + 1 by omega]
    rw [List.take_add_one, List.take_add_one, List.take_add_one, h0, h1, h2]
    simp
  rw [e]
  exact Pl.letters_append (k := 4 * k) (by omega) al _ _ (by rw [List.length_take]; omega)
theorem letters_len64 {al src : List UInt8} {k : Nat} (h : src.length = 3 * k) : (Pl.letters 6 al src).length = 4 * k := by
  rw [Pl.letters_length, h, Pl.nlet_whole (k := 4 * k) (by omega) (by omega)]
theorem zr_of2 {P : Program} {t : TypeId} {k j : Nat} {u : Value} (h : ((P.info? t).bind (·.zero)).map (fun z => z.cells.size) = some k) (h2 : (((P.info? t).bind (·.zero)).bind fun z => z.cells[j]?) = some u) :
    ∃ z, (∀ w, (zeroValue t).run P w = .ok z w) ∧ z.cells.size = k ∧ z.cells[j]? = some u := by
  simp only [Option.map_eq_some_iff, Option.bind_eq_some_iff] at h h2
  obtain ⟨z, ⟨i, hi, hz⟩, hk⟩ := h
  obtain ⟨z', ⟨i', hi', hz'⟩, hk'⟩ := h2
  rw [hi] at hi'
  cases hi'
  rw [hz] at hz'
  cases hz'
  exact ⟨z, fun w => by simp [zeroValue, typeInfo, hi, hz], hk, hk'⟩
theorem EncD.other {N : Nat} {cs : Array Value} {al ald : List UInt8} {p : Int} (h : EncD N cs al ald p) {i : Nat} (hi : N + 257 ≤ i) (v : Value) : EncD N (cs.setIfInBounds i v) al ald p := by
  refine ⟨h.len, fun j c hj => ?_, fun b hb => ?_, ?_⟩
  · have := get_lt hj
    have hl := h.len
    rw [Array.getElem?_setIfInBounds, if_neg (by omega)]
    exact h.enc j c hj
  · rw [Array.getElem?_setIfInBounds, if_neg (by omega)]
    exact h.dec b hb
  · rw [Array.getElem?_setIfInBounds, if_neg (by omega)]
    exact h.pad_
end Go.Proofs.Ytmbglgepomeilaa
