/-
  More laws: tests on strings that are decided, bytes of one's own, splitting of texts. No program in sight.
-/
import Derived.Test.YtlbnglmfbnnhjaaStr
namespace Go.Proofs.Ytlbnglmfbnnhjaa
open Go.RowKit
section
variable {P : Program} {n : Nat} {l : Env} {w : World} {x y : Operand} {ds : Option Nat} {t t' ty : TypeId} {pos : String} {af : Array Edge} {gd : Option (Nat × Bool)}
theorem y_eqsT {a b : List UInt8} (hx : ev l x = some (str a)) (hy : ev l y = some (str b)) (h : a = b) : Does P n l w ⟨ds, .binOp .eql t x y t', ty, pos, af, gd⟩ (.bool true) w := by
  have := y_eqs (P := P) (n := n) (w := w) (ds := ds) (t := t) (t' := t') (ty := ty) (pos := pos) (af := af) (gd := gd) hx hy
  rwa [decide_eq_true h] at this
theorem y_eqsF {a b : List UInt8} (hx : ev l x = some (str a)) (hy : ev l y = some (str b)) (h : ¬ a = b) : Does P n l w ⟨ds, .binOp .eql t x y t', ty, pos, af, gd⟩ (.bool false) w := by
  have := y_eqs (P := P) (n := n) (w := w) (ds := ds) (t := t) (t' := t') (ty := ty) (pos := pos) (af := af) (gd := gd) hx hy
  rwa [decide_eq_false h] at this
theorem y_nesF {a b : List UInt8} (hx : ev l x = some (str a)) (hy : ev l y = some (str b)) (h : a = b) : Does P n l w ⟨ds, .binOp .neq t x y t', ty, pos, af, gd⟩ (.bool false) w := by
  have := y_nes (P := P) (n := n) (w := w) (ds := ds) (t := t) (t' := t') (ty := ty) (pos := pos) (af := af) (gd := gd) hx hy
  rwa [decide_eq_false (fun e => e h)] at this
theorem y_nesT {a b : List UInt8} (hx : ev l x = some (str a)) (hy : ev l y = some (str b)) (h : ¬ a = b) : Does P n l w ⟨ds, .binOp .neq t x y t', ty, pos, af, gd⟩ (.bool true) w := by
  have := y_nes (P := P) (n := n) (w := w) (ds := ds) (t := t) (t' := t') (ty := ty) (pos := pos) (af := af) (gd := gd) hx hy
  rwa [decide_eq_true (show a ≠ b from h)] at this
end
theorem Own.bytes {w : World} {e : TypeId} {v : Value} {s : List UInt8} (h : Own w e v (bv s)) : ∃ A c, v = .slice A s.length c ∧ Rd w A (bv s) ∧ s.length ≤ c ∧ ∀ a : Addr, A = some a → v.ownBlock = some a.block := by
  obtain ⟨A, c, h1, h2, h3, h4⟩ := h.slice
  rw [bv_length] at h1 h3
  exact ⟨A, c, h1, h2, h3, h4⟩
theorem Rd.takeB {w : World} {A : Option Addr} {s : List UInt8} (h : Rd w A (bv s)) (k : Nat) : Rd w A (bv (s.take k)) := by
  have := h.take k
  simpa [bv, List.map_take] using this
theorem Kp.wide {w w' : World} (h : Kp (fun _ => False) w w') (Q : Nat → Prop) : Kp Q w w' := h.mono fun _ _ e => e.elim
theorem Pcs.on {w w' : World} {A : Option Addr} {ps : List (List UInt8)} (h : Pcs w.heap.size w A ps) (hk : Kp (fun _ => False) w w') : Pcs w'.heap.size w' A ps := (h.kept (hk.wide _)).mono hk.size
theorem whole32 {n : Nat} {s : List UInt8} (h : s.length = n / 5 * 5) : Pl.nlet 5 s.length % 8 = 0 := by
  rw [h]; unfold Pl.nlet; omega
theorem whole64 {n : Nat} {s : List UInt8} (h : s.length = n / 3 * 3) : Pl.nlet 6 s.length % 4 = 0 := by
  rw [h]; unfold Pl.nlet; omega
end Go.Proofs.Ytlbnglmfbnnhjaa
