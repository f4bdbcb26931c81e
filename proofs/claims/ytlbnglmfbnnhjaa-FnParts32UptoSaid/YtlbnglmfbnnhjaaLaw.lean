/-
  More laws: tests on strings that are decided, bytes of one's own, splitting of texts. No program in sight.
-/
import Derived.Test.YtlbnglmfbnnhjaaStr
namespace Go.Proofs.Ytlbnglmfbnnhjaa
open Go.RowKit
section
variable {P : Program} {n : Nat} {l : Env} {w : World} {x y : Operand} {ds : Option Nat} {t t' ty : TypeId} {pos : String} {af : Array Edge} {gd : Option (Nat × Bool)}
theorem y_eqsT {a b : List UInt8} (hx : ev l x = some (str a)) (hy : ev l y = some (str b)) (h : a = b) : Does P n l w ⟨ds, .binOp .eql t x y t', ty, pos, af, gd⟩ (.bool true) w := by
  have := y_eqs (P := P) (n := n) (w := w) (ds := ds) (t := t) (t' := t') (ty := ty) (pos := pos) (af := af) (gd := gd) hx hy
  rwa [decide_eq_true h] at this
theorem y_eqsF {a b : List UInt8} (hx : ev l x = some (str a)) (hy : ev l y = some (str b)) (h : ¬ a = b) : Does P n l w ⟨ds, .binOp .eql t x y t', ty, pos, af, gd⟩ (.bool false) w := by
  have := y_eqs (P := P) (n := n) (w := w) (ds := ds) (t := t) (t' := t') (ty := ty) (pos := pos) (af := af) (gd := gd) hx hy
  rwa [decide_eq_false h] at this
theorem y_nesF {a b : List UInt8} (hx : ev l x = some (str a)) (hy : ev l y = some (str b)) (h : a = b) : Does P n l w ⟨ds, .binOp .neq t x y t', ty, pos, af, gd⟩ (.bool false) w := by
  have := y_nes (P := P) (n := n) (w := w) (ds := ds) (t := t) (t' := t') (ty := ty) (pos := pos) (af := af) (gd := gd) hx hy
  rwa [decide_eq_false (fun e => e h)] at this
theorem y_nesT {a b : List UInt8} (hx : ev l x = some (str a)) (hy : ev l y = some (str b)) (h : ¬ a = b) : Does P n l w ⟨ds, .binOp .neq t x y t', ty, pos, af, gd⟩ (.bool true) w := by
  have := y_nes (P := P) (n := n) (w := w) (ds := ds) (t := t) (t' := t') (ty := ty) (pos := pos) (af := af) (gd := gd) hx hy
  rwa [decide_eq_true (show a ≠ b from h)] at this
theorem extract0 (s : List UInt8) (i : Nat) : (ByteArray.mk s.toArray).extract 0 i = ByteArray.mk (s.take i).toArray := by
  apply ByteArray.ext
  simp [ByteArray.data_extract]
theorem extractL (s : List UInt8) (i : Nat) : (ByteArray.mk s.toArray).extract i s.length = ByteArray.mk (s.drop i).toArray := by
  apply ByteArray.ext
  simp only [ByteArray.data_extract]
  apply Array.ext'
  simp only [List.extract_toArray, List.extract_eq_take_drop]
  exact List.take_of_length_le (by simp)
theorem y_scuth' {s : List UInt8} {i : Nat} {k : IntKind} (hx : ev l x = some (str s)) (hy : ev l y = some (.int k (i : Int))) (ht : P.underlying t = some .string) (h : i ≤ s.length) :
    Does P n l w ⟨ds, .slice t x none (some y) none, ty, pos, af, gd⟩ (str (s.take i)) w := by
  have := y_scuth (P := P) (n := n) (w := w) (ds := ds) (ty := ty) (pos := pos) (af := af) (gd := gd) hx hy ht (by simpa [ByteArray.size] using h)
  rwa [extract0] at this
theorem y_scutl' {s : List UInt8} {i : Nat} {k : IntKind} (hx : ev l x = some (str s)) (hy : ev l y = some (.int k (i : Int))) (ht : P.underlying t = some .string) (h : i ≤ s.length) :
    Does P n l w ⟨ds, .slice t x (some y) none none, ty, pos, af, gd⟩ (str (s.drop i)) w := by
  have := y_scutl (P := P) (n := n) (w := w) (ds := ds) (ty := ty) (pos := pos) (af := af) (gd := gd) hx hy ht (by simpa [ByteArray.size] using h)
  rwa [show (ByteArray.mk s.toArray).size = s.length from by simp [ByteArray.size], extractL] at this
theorem Does.as {o : Oper} {v v' : Value} {w' : World} (h : Does P n l w o v w') (e : v = v') : Does P n l w o v' w' := e ▸ h
theorem vint {k : IntKind} {a b : Int} (h : a = b) : Value.int k a = Value.int k b := by rw [h]
end
theorem Own.bytes {w : World} {e : TypeId} {v : Value} {s : List UInt8} (h : Own w e v (bv s)) : ∃ A c, v = .slice A s.length c ∧ Rd w A (bv s) ∧ s.length ≤ c ∧ ∀ a : Addr, A = some a → v.ownBlock = some a.block := by
  obtain ⟨A, c, h1, h2, h3, h4⟩ := h.slice
  rw [bv_length] at h1 h3
  exact ⟨A, c, h1, h2, h3, h4⟩
theorem Rd.takeB {w : World} {A : Option Addr} {s : List UInt8} (h : Rd w A (bv s)) (k : Nat) : Rd w A (bv (s.take k)) := by
  have := h.take k
  simpa [bv, List.map_take] using this
theorem Kp.wide {w w' : World} (h : Kp (fun _ => False) w w') (Q : Nat → Prop) : Kp Q w w' := h.mono fun _ _ e => e.elim
theorem Pcs.on {w w' : World} {A : Option Addr} {ps : List (List UInt8)} (h : Pcs w.heap.size w A ps) (hk : Kp (fun _ => False) w w') : Pcs w'.heap.size w' A ps := (h.kept (hk.wide _)).mono hk.size
theorem Rd.src {w : World} {A : Option Addr} {s : List UInt8} (h : Rd w A (bv s)) : ∃ sb so, (s.length = 0 ∨ (A = some ⟨sb, so, none⟩ ∧ Bs w sb so s)) ∧ (sb < w.heap.size ∨ so + s.length = 0) := by
  by_cases h0 : s.length = 0
  · exact ⟨0, 0, .inl h0, .inr (by omega)⟩
  · rcases h.bs with h1 | ⟨g, o, e, hb⟩
    · exact absurd h1 h0
    · refine ⟨g, o, .inr ⟨e, hb⟩, .inl ?_⟩
      have hlt : 0 < s.length := by omega
      exact World.block_lt_of_cell? w _ (hb 0 s[0] (List.getElem?_eq_getElem hlt))
theorem made_size {z : Array Value} {N : Nat} (hz : z.size = 1) : (madeCells z N).size = N := by simp [madeCells, hz]
theorem Bs.on {w w' : World} {g o : Nat} {s : List UInt8} (h : Bs w g o s) (hk : Kp (fun _ => False) w w') : Bs w' g o s := fun i c hc => by
  have h1 := h i c hc
  rw [← h1]
  exact World.cell?_of_block (hk.block g (World.block_lt_of_cell? w _ h1) id)
theorem letters_nil {bits : Nat} (al : List UInt8) (h : 0 < bits) : Pl.letters bits al [] = [] := by
  refine List.eq_nil_of_length_eq_zero ?_
  rw [Pl.letters_length]
  unfold Pl.nlet
  rw [Nat.div_eq_of_lt (by simp only [List.length_nil]; omega)]
theorem text_get {bits block : Nat} {al src : List UInt8} {pad : Int} {i : Nat} (h : i < Pl.nlet bits src.length) : (Pl.text bits block al pad src)[i]? = some (Pl.letter al (Pl.numF bits (Pl.bit src) (bits * i))) := by
  unfold Pl.text
  rw [List.getElem?_append_left (by rw [Pl.letters_length]; exact h)]
  unfold Pl.letters
  rw [List.getElem?_map, Pl.nums_getElem h]
  rfl
theorem text_ge {bits block : Nat} {al src : List UInt8} {pad : Int} : Pl.nlet bits src.length ≤ (Pl.text bits block al pad src).length := by
  have h := Pl.letters_length bits al src
  unfold Pl.text
  generalize Pl.letters bits al src = L at *
  rw [List.length_append]
  omega
theorem letter_get {al : List UInt8} {i N : Nat} (hi : i < N) (hl : al.length = N) : al[i]? = some (Pl.letter al i) := by
  unfold Pl.letter
  rw [List.getElem?_eq_getElem (by omega)]
  rfl
theorem num_lt {bits : Nat} (src : List UInt8) (p : Nat) : Pl.numF bits (Pl.bit src) p < 2 ^ bits := Pl.numF_lt (Pl.bit_lt src)
theorem numF_app {bits p : Nat} {a r : List UInt8} (h : p + bits ≤ 8 * a.length) : Pl.numF bits (Pl.bit (a ++ r)) p = Pl.numF bits (Pl.bit a) p :=
  Pl.numF_congr fun j hj => by
    unfold Pl.bit
    rw [Pl.nats_append, Pl.bitK_append_left (by simp [Pl.nats]; omega)]
theorem nlet_full {bits L : Nat} : 8 * L / bits ≤ Pl.nlet bits L := by unfold Pl.nlet; exact Nat.div_le_div_right (by omega)
theorem text_take_full {bits block : Nat} {al a r : List UInt8} {pad : Int} (hb : 0 < bits) : (Pl.text bits block al pad (a ++ r)).take (8 * a.length / bits) = (Pl.text bits block al pad a).take (8 * a.length / bits) := by
  apply List.ext_getElem?
  intro i
  rw [List.getElem?_take, List.getElem?_take]
  split
  · next hi =>
    have h1 : (i + 1) * bits ≤ 8 * a.length := (Nat.le_div_iff_mul_le hb).1 hi
    have h2 : bits * i + bits ≤ 8 * a.length := by rw [Nat.mul_comm bits i, ← Nat.succ_mul]; exact h1
    have h3 := nlet_full (bits := bits) (L := a.length)
    have h4 := nlet_full (bits := bits) (L := (a ++ r).length)
    have h5 : 8 * a.length / bits ≤ 8 * (a ++ r).length / bits := Nat.div_le_div_right (by rw [List.length_append]; omega)
    rw [text_get (by omega), text_get (by omega), numF_app h2]
  · rfl
/-- the whole groups of some pieces, one behind another -/
def whole (G : Nat) (ps : List (List UInt8)) : List UInt8 := (ps.map fun p => p.take (p.length / G * G)).flatten
theorem cut_len (G : Nat) (p : List UInt8) : (p.take (p.length / G * G)).length = p.length / G * G := by
  rw [List.length_take]
  exact Nat.min_eq_left (Nat.div_mul_le_self _ _)
theorem whole_take {G : Nat} {ps : List (List UInt8)} {i : Nat} {p : List UInt8} (h : ps[i]? = some p) : whole G (ps.take (i + 1)) = whole G (ps.take i) ++ p.take (p.length / G * G) := by
  unfold whole
  rw [List.take_add_one, h]
  simp
theorem whole_len (G : Nat) : ∀ ps : List (List UInt8), ∃ k, (whole G ps).length = k * G ∧ (whole G ps).length ≤ ps.flatten.length
  | [] => ⟨0, by simp [whole], by simp [whole]⟩
  | p :: r => by
    obtain ⟨k, h1, h2⟩ := whole_len G r
    refine ⟨p.length / G + k, ?_, ?_⟩
    · have : whole G (p :: r) = p.take (p.length / G * G) ++ whole G r := by simp [whole]
      rw [this, List.length_append, cut_len, h1, Nat.add_mul]
    · have : whole G (p :: r) = p.take (p.length / G * G) ++ whole G r := by simp [whole]
      rw [this, List.length_append, cut_len, List.flatten_cons, List.length_append]
      have := Nat.div_mul_le_self p.length G
      omega
theorem y_eqbool {P : Program} {n : Nat} {l : Env} {w : World} {x y : Operand} {ds : Option Nat} {t t' ty : TypeId} {pos : String} {af : Array Edge} {gd : Option (Nat × Bool)} {a b : Bool} (hx : ev l x = some (.bool a)) (hy : ev l y = some (.bool b))
    (ht : P.underlying t = some .bool) : Does P n l w ⟨ds, .binOp .eql t x y t', ty, pos, af, gd⟩ (.bool (a == b)) w := fun f hf => by
  have h : (Op.equalIn Op.maxDepth t (.bool a) (.bool b)).run P w = .ok (a == b) w := by
    unfold Op.maxDepth Op.equalIn
    simp [run_underlying ht]
  simp [execOp, hf.eval hx, hf.eval hy, binOp, Op.equal, eqGuard, h]
theorem whole32 {n : Nat} {s : List UInt8} (h : s.length = n / 5 * 5) : Pl.nlet 5 s.length % 8 = 0 := by
  rw [h]; unfold Pl.nlet; omega
theorem whole64 {n : Nat} {s : List UInt8} (h : s.length = n / 3 * 3) : Pl.nlet 6 s.length % 4 = 0 := by
  rw [h]; unfold Pl.nlet; omega
end Go.Proofs.Ytlbnglmfbnnhjaa
