/-
  More laws: tests on strings that are decided, bytes of one's own, splitting of texts. No program in sight.
-/
import Derived.Test.YtlbnglmfbnnhjaaStr
namespace Go.Proofs.Ytlbnglmfbnnhjaa
open Go.RowKit
section
variable {P : Program} {n : Nat} {l : Env} {w : World} {x y : Operand} {ds : Option Nat} {t t' ty : TypeId} {pos : String} {af : Array Edge} {gd : Option (Nat × Bool)}
theorem y_eqsT {a b : List UInt8} (hx : ev l x = some (str a)) (hy : ev l y = some (str b)) (h : a = b) : Does P n l w ⟨ds, .binOp .eql t x y t', ty, pos, af, gd⟩ (.bool true) w := by
  have := y_eqs (P := P) (n := n) (w := w) (ds := ds) (t := t) (t' := t') (ty := ty) (pos := pos) (af := af) (gd := gd) hx hy
  rwa [decide_eq_true h] at this
theorem y_eqsF {a b : List UInt8} (hx : ev l x = some (str a)) (hy : ev l y = some (str b)) (h : ¬ a = b) : Does P n l w ⟨ds, .binOp .eql t x y t', ty, pos, af, gd⟩ (.bool false) w := by
  have := y_eqs (P := P) (n := n) (w := w) (ds := ds) (t := t) (t' := t') (ty := ty) (pos := pos) (af := af) (gd := gd) hx hy
  rwa [decide_eq_false h] at this
theorem y_nesF {a b : List UInt8} (hx : ev l x = some (str a)) (hy : ev l y = some (str b)) (h : a = b) : Does P n l w ⟨ds, .binOp .neq t x y t', ty, pos, af, gd⟩ (.bool false) w := by
  have := y_nes (P := P) (n := n) (w := w) (ds := ds) (t := t) (t' := t') (ty := ty) (pos := pos) (af := af) (gd := gd) hx hy
  rwa [decide_eq_false (fun e => e h)] at this
theorem y_nesT {a b : List UInt8} (hx : ev l x = some (str a)) (hy : ev l y = some (str b)) (h : ¬ a = b) : Does P n l w ⟨ds, .binOp .neq t x y t', ty, pos, af, gd⟩ (.bool true) w := by
  have := y_nes (P := P) (n := n) (w := w) (ds := ds) (t := t) (t' := t') (ty := ty) (pos := pos) (af := af) (gd := gd) hx hy
  rwa [decide_eq_true (show a ≠ b from h)] at this
theorem extract0 (s : List UInt8) (i : Nat) : (ByteArray.mk s.toArray).extract 0 i = ByteArray.mk (s.take i).toArray := by
  apply ByteArray.ext
  simp [ByteArray.data_extract]
theorem extractL (s : List UInt8) (i : Nat) : (ByteArray.mk s.toArray).extract i s.length = ByteArray.mk (s.drop i).toArray := by
  apply ByteArray.ext
  simp only [ByteArray.data_extract]
  apply Array.ext'
  simp only [List.extract_toArray, List.extract_eq_take_drop]
  exact List.take_of_length_le (by simp)
theorem y_scuth' {s : List UInt8} {i : Nat} {k : IntKind} (hx : ev l x = some (str s)) (hy : ev l y = some (.int k (i : Int))) (ht : P.underlying t = some .string) (h : i ≤ s.length) :
    Does P n l w ⟨ds, .slice t x none (some y) none, ty, pos, af, gd⟩ (str (s.take i)) w := by
  have := y_scuth (P := P) (n := n) (w := w) (ds := ds) (ty := ty) (pos := pos) (af := af) (gd := gd) hx hy ht (by simpa [ByteArray.size] using h)
  rwa [extract0] at this
theorem y_scutl' {s : List UInt8} {i : Nat} {k : IntKind} (hx : ev l x = some (str s)) (hy : ev l y = some (.int k (i : Int))) (ht : P.underlying t = some .string) (h : i ≤ s.length) :
    Does P n l w ⟨ds, .slice t x (some y) none none, ty, pos, af, gd⟩ (str (s.drop i)) w := by
  have := y_scutl (P := P) (n := n) (w := w) (ds := ds) (ty := ty) (pos := pos) (af := af) (gd := gd) hx hy ht (by simpa [ByteArray.size] using h)
  rwa [show (ByteArray.mk s.toArray).size = s.length from by simp [ByteArray.size], extractL] at this
theorem Does.as {o : Oper} {v v' : Value} {w' : World} (h : Does P n l w o v w') (e : v = v') : Does P n l w o v' w' := e ▸ h
theorem vint {k : IntKind} {a b : Int} (h : a = b) : Value.int k a = Value.int k b := by rw [h]
end
theorem Own.bytes {w : World} {e : TypeId} {v : Value} {s : List UInt8} (h : Own w e v (bv s)) : ∃ A c, v = .slice A s.length c ∧ Rd w A (bv s) ∧ s.length ≤ c ∧ ∀ a : Addr, A = some a → v.ownBlock = some a.block := by
  obtain ⟨A, c, h1, h2, h3, h4⟩ := h.slice
  rw [bv_length] at h1 h3
  exact ⟨A, c, h1, h2, h3, h4⟩
theorem Rd.takeB {w : World} {A : Option Addr} {s : List UInt8} (h : Rd w A (bv s)) (k : Nat) : Rd w A (bv (s.take k)) := by
  have := h.take k
  simpa [bv, List.map_take] using this
theorem Kp.wide {w w' : World} (h : Kp (fun _ => False) w w') (Q : Nat → Prop) : Kp Q w w' := h.mono fun _ _ e => e.elim
theorem Pcs.on {w w' : World} {A : Option Addr} {ps : List (List UInt8)} (h : Pcs w.heap.size w A ps) (hk : Kp (fun _ => False) w w') : Pcs w'.heap.size w' A ps := (h.kept (hk.wide _)).mono hk.size
theorem Rd.src {w : World} {A : Option Addr} {s : List UInt8} (h : Rd w A (bv s)) : ∃ sb so, (s.length = 0 ∨ (A = some ⟨sb, so, none⟩ ∧ Bs w sb so s)) ∧ (sb < w.heap.size ∨ so + s.length = 0) := by
  by_cases h0 : s.length = 0
  · exact ⟨0, 0, .inl h0, .inr (by omega)⟩
  · rcases h.bs with h1 | ⟨g, o, e, hb⟩
    · exact absurd h1 h0
    · refine ⟨g, o, .inr ⟨e, hb⟩, .inl ?_⟩
      have hlt : 0 < s.length := by omega
      exact World.block_lt_of_cell? w _ (hb 0 s[0] (List.getElem?_eq_getElem hlt))
theorem made_size {z : Array Value} {N : Nat} (hz : z.size = 1) : (madeCells z N).size = N := by simp [madeCells, hz]
theorem Bs.on {w w' : World} {g o : Nat} {s : List UInt8} (h : Bs w g o s) (hk : Kp (fun _ => False) w w') : Bs w' g o s := fun i c hc => by
  have h1 := h i c hc
  rw [← h1]
  exact World.cell?_of_block (hk.block g (World.block_lt_of_cell? w _ h1) id)
theorem letters_nil {bits : Nat} (al : List UInt8) (h : 0 < bits) : Pl.letters bits al [] = [] := by
  refine List.eq_nil_of_length_eq_zero ?_
  rw [Pl.letters_length]
  unfold Pl.nlet
  rw [Nat.div_eq_of_lt (by simp only [List.length_nil]; omega)]
theorem text_get {bits block : Nat} {al src : List UInt8} {pad : Int} {i : Nat} (h : i < Pl.nlet bits src.length) : (Pl.text bits block al pad src)[i]? = some (Pl.letter al (Pl.numF bits (Pl.bit src) (bits * i))) := by
  unfold Pl.text
  rw [List.getElem?_append_left (by rw [Pl.letters_length]; exact h)]
  unfold Pl.letters
  rw [List.getElem?_map, Pl.nums_getElem h]
  rfl
theorem text_ge {bits block : Nat} {al src : List UInt8} {pad : Int} : Pl.nlet bits src.length ≤ (Pl.text bits block al pad src).length := by
  have h := Pl.letters_length bits al src
  unfold Pl.text
  generalize Pl.letters bits al src = L at *
  rw [List.length_append]
  omega
theorem letter_get {al : List UInt8} {i N : Nat} (hi : i < N) (hl : al.length = N) : al[i]? = some (Pl.letter al i) := by
  unfold Pl.letter
  rw [List.getElem?_eq_getElem (by omega)]
  rfl
theorem num_lt {bits : Nat} (src : List UInt8) (p : Nat) : Pl.numF bits (Pl.bit src) p < 2 ^ bits := Pl.numF_lt (Pl.bit_lt src)
theorem numF_app {bits p : Nat} {a r : List UInt8} (h : p + bits ≤ 8 * a.length) : Pl.numF bits (Pl.bit (a ++ r)) p = Pl.numF bits (Pl.bit a) p :=
  Pl.numF_congr fun j hj => by
    unfold Pl.bit
    rw [Pl.nats_append, Pl.bitK_append_left (by simp [Pl.nats]; omega)]
theorem nlet_full {bits L : Nat} : 8 * L / bits ≤ Pl.nlet bits L := by unfold Pl.nlet; exact Nat.div_le_div_right (by omega)
theorem text_take_full {bits block : Nat} {al a r : List UInt8} {pad : Int} (hb : 0 < bits) : (Pl.text bits block al pad (a ++ r)).take (8 * a.length / bits) = (Pl.text bits block al pad a).take (8 * a.length / bits) := by
  apply List.ext_getElem?
  intro i
  rw [List.getElem?_take, List.getElem?_take]
  split
  · next hi =>
    have h1 : (i + 1) * bits ≤ 8 * a.length := (Nat.le_div_iff_mul_le hb).1 hi
    have h2 : bits * i + bits ≤ 8 * a.length := by rw [Nat.mul_comm bits i, ← Nat.succ_mul]; exact h1
    have h3 := nlet_full (bits := bits) (L := a.length)
    have h4 := nlet_full (bits := bits) (L := (a ++ r).length)
    have h5 : 8 * a.length / bits ≤ 8 * (a ++ r).length / bits := Nat.div_le_div_right (by rw [List.length_append]; omega)
    rw [text_get (by omega), text_get (by omega), numF_app h2]
  · rfl
/-- the whole groups of some pieces, one behind another -/
def whole (G : Nat) (ps : List (List UInt8)) : List UInt8 := (ps.map fun p => p.take (p.length / G * G)).flatten
theorem cut_len (G : Nat) (p : List UInt8) : (p.take (p.length / G * G)).length = p.length / G * G := by
  rw [List.length_take]
  exact Nat.min_eq_left (Nat.div_mul_le_self _ _)
theorem whole_take {G : Nat} {ps : List (List UInt8)} {i : Nat} {p : List UInt8} (h : ps[i]? = some p) : whole G (ps.take (i + 1)) = whole G (ps.take i) ++ p.take (p.length / G * G) := by
  unfold whole
  rw [List.take_add_one, h]
  simp
theorem whole_len (G : Nat) : ∀ ps : List (List UInt8), ∃ k, (whole G ps).length = k * G ∧ (whole G ps).length ≤ ps.flatten.length
  | [] => ⟨0, by simp [whole], by simp [whole]⟩
  | p :: r => by
    obtain ⟨k, h1, h2⟩ := whole_len G r
    refine ⟨p.length / G + k, ?_, ?_⟩
    · have : whole G (p :: r) = p.take (p.length / G * G) ++ whole G r := by simp [whole]
      rw [this, List.length_append, cut_len, h1, Nat.add_mul]
    · have : whole G (p :: r) = p.take (p.length / G * G) ++ whole G r := by simp [whole]
      rw [this, List.length_append, cut_len, List.flatten_cons, List.length_append]
      have := Nat.div_mul_le_self p.length G
      omega
theorem y_eqbool {P : Program} {n : Nat} {l : Env} {w : World} {x y : Operand} {ds : Option Nat} {t t' ty : TypeId} {pos : String} {af : Array Edge} {gd : Option (Nat × Bool)} {a b : Bool} (hx : ev l x = some (.bool a)) (hy : ev l y = some (.bool b))
    (ht : P.underlying t = some .bool) : Does P n l w ⟨ds, .binOp .eql t x y t', ty, pos, af, gd⟩ (.bool (a == b)) w := fun f hf => by
  have h : (Op.equalIn Op.maxDepth t (.bool a) (.bool b)).run P w = .ok (a == b) w := by
    unfold Op.maxDepth Op.equalIn
    simp [run_underlying ht]
  simp [execOp, hf.eval hx, hf.eval hy, binOp, Op.equal, eqGuard, h]
theorem xor_bit (a b j : Nat) : (a ^^^ b) / 2 ^ j % 2 = (a / 2 ^ j % 2 + b / 2 ^ j % 2) % 2 := by
  have h := Nat.testBit_xor a b j
  simp only [Nat.testBit_eq_decide_div_mod_eq] at h
  rcases Nat.mod_two_eq_zero_or_one (a / 2 ^ j) with h1 | h1 <;> rcases Nat.mod_two_eq_zero_or_one (b / 2 ^ j) with h2 | h2 <;> rcases Nat.mod_two_eq_zero_or_one ((a ^^^ b) / 2 ^ j) with h3 | h3 <;> simp [h1, h2, h3] at h ⊢
theorem bit_at (src : List UInt8) (p : Nat) : Pl.bit src p = ((src[p / 8]?).map UInt8.toNat).getD 0 / 2 ^ (7 - p % 8) % 2 := by
  unfold Pl.bit Pl.bitK Pl.nats
  rw [List.getElem?_map]
theorem one_bit8 : ∀ a : Fin 8, ∀ b : Fin 8, 128 / 2 ^ a.val / 2 ^ (7 - b.val) % 2 = if a.val = b.val then 1 else 0 := by decide
theorem bit_set {src : List UInt8} {k : Nat} {c c' : UInt8} (hc : src[k / 8]? = some c) (hx : c'.toNat = c.toNat ^^^ 128 / 2 ^ (k % 8)) (p : Nat) : Pl.bit (src.set (k / 8) c') p = if p = k then (Pl.bit src p + 1) % 2 else Pl.bit src p := by
  have hlt := get_lt hc
  rw [bit_at, bit_at]
  by_cases h8 : p / 8 = k / 8
  · have h1 := one_bit8 ⟨k % 8, Nat.mod_lt _ (by omega)⟩ ⟨p % 8, Nat.mod_lt _ (by omega)⟩
    simp only at h1
    rw [h8, List.getElem?_set_self hlt, hc]
    simp only [Option.map_some, Option.getD_some]
    rw [hx, xor_bit, h1]
    by_cases hp : p = k
    · rw [if_pos (by rw [hp]), if_pos hp]
    · rw [if_neg (by omega), if_neg hp]; omega
  · rw [List.getElem?_set_ne (fun e => h8 e.symm), if_neg (fun e => h8 (by rw [e]))]
theorem letter_inj {N : Nat} {al : List UInt8} {pad : Int} (hf : Fit N al pad) {i j : Nat} (hi : i < N) (hj : j < N) (h : Pl.letter al i = Pl.letter al j) : i = j := by
  have h1 := letter_get hi hf.len
  have h2 := letter_get hj hf.len
  rcases Nat.lt_trichotomy i j with e | e | e
  · exact absurd h (hf.nodup i j _ _ e h1 h2)
  · exact e
  · exact absurd h.symm (hf.nodup j i _ _ e h2 h1)
theorem text_pads {bits block : Nat} {al a b : List UInt8} {pad : Int} {i : Nat} (hl : a.length = b.length) (hi : Pl.nlet bits a.length ≤ i) : (Pl.text bits block al pad a)[i]? = (Pl.text bits block al pad b)[i]? := by
  unfold Pl.text
  rw [List.getElem?_append_right (by rw [Pl.letters_length]; exact hi), List.getElem?_append_right (by rw [Pl.letters_length, ← hl]; exact hi), Pl.letters_length, Pl.letters_length, hl]
theorem onebit {bits block N k : Nat} {al src other : List UInt8} {pad : Int} (hb : 0 < bits) (hN : 2 ^ bits = N) (hf : Fit N al pad) (hl : src.length = other.length) (hk : k < 8 * src.length)
    (hbit : ∀ p, Pl.bit other p = if p = k then (Pl.bit src p + 1) % 2 else Pl.bit src p) {i : Nat} {x y : UInt8} (hx : (Pl.text bits block al pad src)[i]? = some x) (hy : (Pl.text bits block al pad other)[i]? = some y) : x = y ↔ ¬ i = k / bits := by
  have hkn : k / bits < Pl.nlet bits src.length := Nat.div_lt_of_lt_mul (Nat.lt_of_lt_of_le hk (Pl.nlet_ge hb _))
  by_cases hi : i < Pl.nlet bits src.length
  · rw [text_get hi] at hx
    rw [text_get (by rw [← hl]; exact hi)] at hy
    injection hx with hx
    injection hy with hy
    subst hx hy
    by_cases e : i = k / bits
    · refine ⟨fun h => absurd ?_ (Nat.lt_irrefl 0), fun h => absurd e h⟩
      have h1 := letter_inj hf (by rw [← hN]; exact num_lt src _) (by rw [← hN]; exact num_lt other _) h
      have h2 := Pl.numF_ext (Pl.bit_lt src) (Pl.bit_lt other) h1 (k % bits) (Nat.mod_lt _ hb)
      have h3 : bits * i + k % bits = k := by rw [e]; exact Nat.div_add_mod k bits
      rw [h3, hbit, if_pos rfl] at h2
      have := Pl.bit_lt src k
      omega
    · refine ⟨fun _ => e, fun _ => congrArg _ (Pl.numF_congr fun j hj => ?_)⟩
      rw [hbit, if_neg]
      intro h3
      apply e
      rw [← h3, Nat.mul_add_div hb, Nat.div_eq_of_lt hj, Nat.add_zero]
  · rw [text_pads hl (by omega), hy] at hx
    injection hx with hx
    exact ⟨fun _ => by omega, fun _ => hx.symm⟩
theorem xor8 {a b : Nat} (ha : a < 256) (hb : b < 256) : a ^^^ b < 256 := Nat.xor_lt_two_pow (n := 8) ha hb
theorem byte_of {a : Nat} (h : a < 256) : (UInt8.ofNat a).toNat = a := by rw [UInt8.toNat_ofNat']; omega
theorem shr8 (s : Nat) : 128 / 2 ^ s < 256 := Nat.lt_of_le_of_lt (Nat.div_le_self _ _) (by omega)
theorem y_xorI {P : Program} {n : Nat} {l : Env} {w : World} {x y : Operand} {ds : Option Nat} {t t' ty : TypeId} {pos : String} {af : Array Edge} {gd : Option (Nat × Bool)} {a b : Nat} (hx : ev l x = some (.int .i64 (a : Int))) (hy : ev l y = some (.int .i64 (b : Int)))
    (ha : a < 256) (hb : b < 256) : Does P n l w ⟨ds, .binOp .xor t x y t', ty, pos, af, gd⟩ (.int .i64 ((a ^^^ b : Nat) : Int)) w := fun f hf => by
  have hlt : a ^^^ b < 256 := xor8 ha hb
  have h : Go.bits .xor .i64 (a : Int) (b : Int) = ((a ^^^ b : Nat) : Int) := by
    show IntKind.i64.wrap ((BitVec.ofInt 64 (a : Int) ^^^ BitVec.ofInt 64 (b : Int)).toNat : Int) = _
    rw [BitVec.toNat_xor, BitVec.ofInt_natCast, BitVec.ofInt_natCast, BitVec.toNat_ofNat, BitVec.toNat_ofNat, Nat.mod_eq_of_lt (by omega), Nat.mod_eq_of_lt (by omega)]
    exact wi64 (by omega) (by omega)
  simp [execOp, hf.eval hx, hf.eval hy, eqGuard_xor, binOp_xor, intBits_xor, h]
/-- bytes joined by exclusive or -/
def xors (a b : List UInt8) : List UInt8 := List.zipWith (· ^^^ ·) a b
theorem xors_length {a b : List UInt8} (h : a.length = b.length) : (xors a b).length = a.length := by simp [xors, h]
theorem xors_get {a b : List UInt8} {i : Nat} {x y : UInt8} (hx : a[i]? = some x) (hy : b[i]? = some y) : (xors a b)[i]? = some (x ^^^ y) := by simp [xors, List.getElem?_zipWith, hx, hy]
theorem bit_xors {a b : List UInt8} (h : a.length = b.length) (p : Nat) : Pl.bit (xors a b) p = (Pl.bit a p + Pl.bit b p) % 2 := by
  rw [bit_at, bit_at, bit_at]
  by_cases hp : p / 8 < a.length
  · have h1 : a[p / 8]? = some a[p / 8] := List.getElem?_eq_getElem hp
    have h2 : b[p / 8]? = some b[p / 8] := List.getElem?_eq_getElem (by omega)
    rw [xors_get h1 h2, h1, h2]
    simp only [Option.map_some, Option.getD_some, UInt8.toNat_xor]
    exact xor_bit _ _ _
  · have h1 : a[p / 8]? = none := List.getElem?_eq_none (by omega)
    have h2 : b[p / 8]? = none := List.getElem?_eq_none (by omega)
    have h3 : (xors a b)[p / 8]? = none := List.getElem?_eq_none (by rw [xors_length h]; omega)
    rw [h1, h2, h3]
    simp
theorem num_xors {bits p : Nat} {a b : List UInt8} (h : a.length = b.length) : Pl.numF bits (Pl.bit (xors a b)) p = Pl.numF bits (Pl.bit a) p ^^^ Pl.numF bits (Pl.bit b) p := by
  refine Pl.numF_self (Nat.xor_lt_two_pow (num_lt a p) (num_lt b p)) fun j hj => ?_
  rw [xor_bit, Pl.numF_bit (Pl.bit_lt a) hj, Pl.numF_bit (Pl.bit_lt b) hj, bit_xors h]
theorem text_drop_eq {bits block : Nat} {al a b : List UInt8} {pad : Int} (hl : a.length = b.length) : (Pl.text bits block al pad a).drop (Pl.nlet bits a.length) = (Pl.text bits block al pad b).drop (Pl.nlet bits a.length) := by
  apply List.ext_getElem?
  intro i
  rw [List.getElem?_drop, List.getElem?_drop]
  exact text_pads hl (by omega)
theorem Rd.at_ {w : World} {A : Option Addr} {s : List UInt8} (h : Rd w A (bv s)) {i : Nat} (hi : i < s.length) : ∃ g o, A = some ⟨g, o, none⟩ ∧ Bs w g o s := h.bs.resolve_left (by omega)
theorem zero_run {P : Program} {t : TypeId} {v : Value} (h : (P.info? t).bind (·.zero) = some v) (w : World) : (zeroValue t).run P w = .ok v w := by
  simp only [Option.bind_eq_some_iff] at h
  obtain ⟨i, hi, hz⟩ := h
  simp [zeroValue, typeInfo, hi, hz]
theorem num_zero {bits k p : Nat} : Pl.numF bits (Pl.bit (List.replicate k 0)) p = 0 :=
  Pl.numF_self (Nat.pow_pos (by omega)) fun j _ => by
    rw [bit_at, List.getElem?_replicate]
    split <;> simp
theorem bit_ones {k p : Nat} (h : p < 8 * k) : Pl.bit (List.replicate k 255) p = 1 := by
  rw [bit_at, List.getElem?_replicate, if_pos (by omega)]
  have : ∀ j : Fin 8, 255 / 2 ^ (7 - j.val) % 2 = 1 := by decide
  exact this ⟨p % 8, Nat.mod_lt _ (by omega)⟩
theorem num_ones32 {k p : Nat} (h : p + 5 ≤ 8 * k) : Pl.numF 5 (Pl.bit (List.replicate k 255)) p = 31 :=
  Pl.numF_self (by omega) fun j hj => by
    rw [bit_ones (by omega)]
    have : ∀ j : Fin 5, 31 / 2 ^ (5 - 1 - j.val) % 2 = 1 := by decide
    exact (this ⟨j, hj⟩).symm
theorem num_ones64 {k p : Nat} (h : p + 6 ≤ 8 * k) : Pl.numF 6 (Pl.bit (List.replicate k 255)) p = 63 :=
  Pl.numF_self (by omega) fun j hj => by
    rw [bit_ones (by omega)]
    have : ∀ j : Fin 6, 63 / 2 ^ (6 - 1 - j.val) % 2 = 1 := by decide
    exact (this ⟨j, hj⟩).symm
theorem encLen32_whole (pad : Int) (k : Nat) : encLen32 pad (5 * k) = 8 * k := by unfold encLen32; split <;> omega
theorem encLen64_whole (pad : Int) (k : Nat) : encLen64 pad (3 * k) = 4 * k := by unfold encLen64; split <;> omega
theorem whole32 {n : Nat} {s : List UInt8} (h : s.length = n / 5 * 5) : Pl.nlet 5 s.length % 8 = 0 := by
  rw [h]; unfold Pl.nlet; omega
theorem whole64 {n : Nat} {s : List UInt8} (h : s.length = n / 3 * 3) : Pl.nlet 6 s.length % 4 = 0 := by
  rw [h]; unfold Pl.nlet; omega
end Go.Proofs.Ytlbnglmfbnnhjaa
