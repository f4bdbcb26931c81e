/-
  Five letters of base64 and six of base32 tell the same thirty bits. No program in sight.
-/
import Derived.Test.YtlcbcedhbahbbaaLaw
namespace Go.Proofs.Ytlcbcedhbahbbaa
open Go.RowKit
theorem numF_add (a b : Nat) (f : Nat → Nat) (p : Nat) : Pl.numF (a + b) f p = 2 ^ b * Pl.numF a f p + Pl.numF b f (p + a) := by
  induction b with
  | zero => simp [Pl.numF]
  | succ b ih =>
    rw [show a + (b + 1) = (a + b) + 1 by omega]
    simp only [Pl.numF]
    rw [ih, Nat.pow_succ, show p + (a + b) = p + a + b by omega]
    generalize Pl.numF a f p = x
    generalize Pl.numF b f (p + a) = y
    rw [Nat.mul_add, ← Nat.mul_assoc, Nat.mul_comm 2 (2 ^ b)]
    omega
/-- one letter more -/
theorem num_more (bits i p : Nat) (f : Nat → Nat) : Pl.numF (bits * (i + 1)) f p = 2 ^ bits * Pl.numF (bits * i) f p + Pl.numF bits f (p + bits * i) := by
  rw [show bits * (i + 1) = bits * i + bits by rw [Nat.mul_add, Nat.mul_one], numF_add]
theorem text_nopad_len {bits block : Nat} {al src : List UInt8} : (Pl.text bits block al (-1) src).length = Pl.nlet bits src.length := by
  rw [text_nopad, Pl.letters_length]
theorem num30 {f : Nat → Nat} {p n : Nat} (h : ∀ j, f j < 2) (hn : n ≤ 30) : Pl.numF n f p < 1073741824 := by
  have h1 := Pl.numF_lt (b := n) (p := p) h
  have h2 : 2 ^ n ≤ 2 ^ 30 := Nat.pow_le_pow_right (by omega) hn
  omega
end Go.Proofs.Ytlcbcedhbahbbaa
