/-
  NUMBERS WITHOUT SIGN; BLOCKS OF CELLS; WHAT STAYS. No program in sight.
-/
import Derived.Test.YtmbglgepomeilaaOp
namespace Go.Proofs.Ytmbglgepomeilaa
open Go.RowKit

/-- a kind of numbers without sign, modulo N -/
structure Uk (k : IntKind) (b N : Nat) : Prop where
  bits : k.bits = b
  pow : 2 ^ b = N
  wrap : ∀ n : Int, k.wrap n = n % (N : Int)
  and_ : ∀ a b : Nat, a < N → b < N → Go.bits .and k (a : Int) (b : Int) = ((a &&& b : Nat) : Int)
  or_ : ∀ a b : Nat, a < N → b < N → Go.bits .or k (a : Int) (b : Int) = ((a ||| b : Nat) : Int)
  xor_ : ∀ a b : Nat, a < N → b < N → Go.bits .xor k (a : Int) (b : Int) = ((a ^^^ b : Nat) : Int)
theorem uk8 : Uk .u8 8 256 := ⟨rfl, rfl, IntKind.wrap_u8', u8_and_nat, u8_or_nat, u8_xor_nat⟩
theorem uk32 : Uk .u32 32 4294967296 := ⟨rfl, rfl, IntKind.wrap_u32', u32_and_nat, u32_or_nat, u32_xor_nat⟩
theorem uk64 : Uk .u64 64 18446744073709551616 := ⟨rfl, rfl, fun n => by simp [IntKind.wrap, IntKind.bits, IntKind.signed], u64_and_nat, u64_or_nat, u64_xor_nat⟩

section
variable {P : Program} {n : Nat} {l : Env} {w : World} {ds : Option Tmp} {ty : TypeId} {pos : String} {af : Array Edge} {gd : Option (Nat × Bool)} {x y : Operand} {k : IntKind} {N B : Nat} {t t' : TypeId}
theorem Uk.fit (hu : Uk k B N) {a : Nat} (h : a < N) : k.wrap (a : Int) = (a : Int) := by
  rw [hu.wrap]
  exact Int.emod_eq_of_lt (by omega) (by omega)
/-- conversion to a kind in which the number fits -/
theorem y_convN (hu : Uk k B N) {k' : IntKind} {d : TypeDesc} {a : Nat} (hx : ev l x = some (.int k' (a : Int))) (hs : P.underlying t = some d) (hd : P.underlying t' = some (.int k)) (h : a < N) :
    Does P n l w ⟨ds, .convert t t' x, ty, pos, af, gd⟩ (.int k (a : Int)) w := y_conv hx hs hd (hu.fit h)
theorem y_convM (hu : Uk k B N) {k' : IntKind} {d : TypeDesc} {a : Nat} (hx : ev l x = some (.int k' (a : Int))) (hs : P.underlying t = some d) (hd : P.underlying t' = some (.int k)) :
    Does P n l w ⟨ds, .convert t t' x, ty, pos, af, gd⟩ (.int k ((a % N : Nat) : Int)) w := y_conv hx hs hd (by rw [hu.wrap]; omega)
theorem y_convI {k' : IntKind} {d : TypeDesc} {a : Nat} (hx : ev l x = some (.int k' (a : Int))) (hs : P.underlying t = some d) (hd : P.underlying t' = some (.int .i64)) (h : a ≤ 9223372036854775807) :
    Does P n l w ⟨ds, .convert t t' x, ty, pos, af, gd⟩ (.int .i64 (a : Int)) w := y_conv hx hs hd (wi64 (by omega) (by omega))
theorem y_shlM (hu : Uk k B N) {k' : IntKind} {a s : Nat} (hx : ev l x = some (.int k (a : Int))) (hy : ev l y = some (.int k' (s : Int))) (hs : s ≤ B) :
    Does P n l w ⟨ds, .binOp .shl t x y t', ty, pos, af, gd⟩ (.int k ((a * 2 ^ s % N : Nat) : Int)) w := fun f hf => by
  have h0 : ¬ ((s : Int) < 0) := by omega
  have hm : min s k.bits = s := by rw [hu.bits]; omega
  simp [execOp, hf.eval hx, hf.eval hy, eqGuard_shl, binOp_shl, Op.shift, h0, hm, hu.wrap]
theorem y_shl (hu : Uk k B N) {k' : IntKind} {a s : Nat} (hx : ev l x = some (.int k (a : Int))) (hy : ev l y = some (.int k' (s : Int))) (hs : s ≤ B) (h : a * 2 ^ s < N) :
    Does P n l w ⟨ds, .binOp .shl t x y t', ty, pos, af, gd⟩ (.int k ((a * 2 ^ s : Nat) : Int)) w := by
  have := y_shlM (P := P) (n := n) (w := w) (ds := ds) (ty := ty) (pos := pos) (af := af) (gd := gd) (t := t) (t' := t') hu hx hy hs
  rwa [Nat.mod_eq_of_lt h] at this
theorem y_shr (hu : Uk k B N) {k' : IntKind} {a s : Nat} (hx : ev l x = some (.int k (a : Int))) (hy : ev l y = some (.int k' (s : Int))) (hs : s ≤ B) :
    Does P n l w ⟨ds, .binOp .shr t x y t', ty, pos, af, gd⟩ (.int k ((a / 2 ^ s : Nat) : Int)) w := fun f hf => by
  have h0 : ¬ ((s : Int) < 0) := by omega
  have hm : min s k.bits = s := by rw [hu.bits]; omega
  have he : Int.fdiv (a : Int) (2 ^ s) = (a : Int) / 2 ^ s := Int.fdiv_eq_ediv_of_nonneg _ (Int.le_of_lt (Int.pow_pos (by omega)))
  simp [execOp, hf.eval hx, hf.eval hy, eqGuard_shr, binOp_shr, Op.shift, h0, hm, he]
theorem y_and (hu : Uk k B N) {a b : Nat} (hx : ev l x = some (.int k (a : Int))) (hy : ev l y = some (.int k (b : Int))) (ha : a < N) (hb : b < N) :
    Does P n l w ⟨ds, .binOp .and t x y t', ty, pos, af, gd⟩ (.int k ((a &&& b : Nat) : Int)) w := fun f hf => by
  simp [execOp, hf.eval hx, hf.eval hy, eqGuard_and, binOp_and, intBits_and, hu.and_ a b ha hb]
/-- the least j bits -/
theorem y_mask (hu : Uk k B N) (j : Nat) {a b : Nat} (hx : ev l x = some (.int k (a : Int))) (hy : ev l y = some (.int k (b : Int))) (hb : b = 2 ^ j - 1) (ha : a < N) (hN : b < N) :
    Does P n l w ⟨ds, .binOp .and t x y t', ty, pos, af, gd⟩ (.int k ((a % 2 ^ j : Nat) : Int)) w := by
  have := y_and (P := P) (n := n) (w := w) (ds := ds) (ty := ty) (pos := pos) (af := af) (gd := gd) (t := t) (t' := t') hu hx hy ha hN
  rwa [hb, Nat.and_two_pow_sub_one_eq_mod] at this
theorem y_or (hu : Uk k B N) {a b : Nat} (hx : ev l x = some (.int k (a : Int))) (hy : ev l y = some (.int k (b : Int))) (ha : a < N) (hb : b < N) :
    Does P n l w ⟨ds, .binOp .or t x y t', ty, pos, af, gd⟩ (.int k ((a ||| b : Nat) : Int)) w := fun f hf => by
  simp [execOp, hf.eval hx, hf.eval hy, eqGuard_or, binOp_or, intBits_or, hu.or_ a b ha hb]
/-- bits that do not meet -/
theorem y_join (hu : Uk k B N) (j : Nat) {a b : Nat} (hx : ev l x = some (.int k (a : Int))) (hy : ev l y = some (.int k (b : Int))) (ha : a < N) (hb : b < N) (hm : a % 2 ^ j = 0) (hlt : b < 2 ^ j) :
    Does P n l w ⟨ds, .binOp .or t x y t', ty, pos, af, gd⟩ (.int k ((a + b : Nat) : Int)) w := by
  have := y_or (P := P) (n := n) (w := w) (ds := ds) (ty := ty) (pos := pos) (af := af) (gd := gd) (t := t) (t' := t') hu hx hy ha hb
  rwa [nat_join j a b hm hlt] at this
theorem y_join2 (hu : Uk k B N) (j : Nat) {a b : Nat} (hx : ev l x = some (.int k (a : Int))) (hy : ev l y = some (.int k (b : Int))) (ha : a < N) (hb : b < N) (hm : b % 2 ^ j = 0) (hlt : a < 2 ^ j) :
    Does P n l w ⟨ds, .binOp .or t x y t', ty, pos, af, gd⟩ (.int k ((b + a : Nat) : Int)) w := by
  have := y_or (P := P) (n := n) (w := w) (ds := ds) (ty := ty) (pos := pos) (af := af) (gd := gd) (t := t) (t' := t') hu hx hy ha hb
  rwa [Nat.or_comm, nat_join j b a hm hlt] at this
theorem y_xor (hu : Uk k B N) {a b : Nat} (hx : ev l x = some (.int k (a : Int))) (hy : ev l y = some (.int k (b : Int))) (ha : a < N) (hb : b < N) :
    Does P n l w ⟨ds, .binOp .xor t x y t', ty, pos, af, gd⟩ (.int k ((a ^^^ b : Nat) : Int)) w := fun f hf => by
  simp [execOp, hf.eval hx, hf.eval hy, eqGuard_xor, binOp_xor, intBits_xor, hu.xor_ a b ha hb]
end

/-- a block known whole -/
def Bk (w : World) (g : Nat) (cs : Array Value) (t : TypeId) (fz : Nat × Nat) : Prop := w.heap[g]? = some (.cells cs t fz)
section
variable {w w' : World} {g g' i : Nat} {cs : Array Value} {t : TypeId} {fz : Nat × Nat} {v : Value}
theorem Bk.lt (h : Bk w g cs t fz) : g < w.heap.size := by
  rcases Nat.lt_or_ge g w.heap.size with hlt | hge
  · exact hlt
  · unfold Bk at h; rw [Array.getElem?_eq_none hge] at h; cases h
theorem Bk.cell (h : Bk w g cs t fz) (i : Nat) : w.cell? ⟨g, i, none⟩ = cs[i]? := cell_of_row w g i cs t fz h
theorem Bk.at_ (h : Bk w g cs t fz) (hi : cs[i]? = some v) : w.cell? ⟨g, i, none⟩ = some v := (h.cell i).trans hi
theorem Bk.frozen (h : Bk w g cs t fz) (hi : i < fz.1 ∨ fz.2 ≤ i) : w.frozen? ⟨g, i, none⟩ = false := by
  unfold Bk at h
  obtain ⟨lo, hi'⟩ := fz
  simp only [World.frozen?, h]
  simp at hi ⊢
  omega
theorem Bk.some (h : Bk w g cs t fz) (hi : i < cs.size) : w.cell? ⟨g, i, none⟩ = Option.some cs[i] := h.at_ (Array.getElem?_eq_getElem hi)
theorem Bk.melt (h : Bk w g cs t (0, 0)) : w.frozen? ⟨g, i, none⟩ = false := h.frozen (.inr (Nat.zero_le _))
theorem Bk.set (h : Bk w g cs t fz) (i : Nat) (v : Value) : Bk (w.setCell ⟨g, i, none⟩ v) g (cs.setIfInBounds i v) t fz := by
  unfold Bk at h ⊢
  simp [World.setCell, Array.getElem?_modify, h]
theorem Bk.ne {a : Addr} (h : Bk w g cs t fz) (hne : g ≠ a.block) (v : Value) : Bk (w.setCell a v) g cs t fz := (heap_setCell_other w a g v hne).trans h
theorem Bk.drew (h : Bk w g cs t fz) : Bk w.drew g cs t fz := h
theorem Bk.alloc (h : Bk w g cs t fz) (o : Obj) : Bk (w.alloc o) g cs t fz := (Below.heap_alloc w o g h.lt).trans h
theorem Bk.new (w : World) (cs : Array Value) (t : TypeId) : Bk (w.alloc (.cells cs t)) w.heap.size cs t (0, 0) := heap_alloc_new w _
end

/-- an array that lies in a block is loaded whole -/
theorem y_loadRow {P : Program} {n : Nat} {l : Env} {w : World} {ds : Option Tmp} {ty : TypeId} {pos : String} {af : Array Edge} {gd : Option (Nat × Bool)} {x : Operand} {t e N g o : Nat} {cs : Array Value} {bt : TypeId} {fz : Nat × Nat}
    (hx : ev l x = some (.pointer (some ⟨g, o, none⟩))) (ht : P.underlying t = some (.array N e)) (hs : Siz P t N) (hb : Bk w g cs bt fz) (hN : o + N ≤ cs.size) :
    Does P n l w ⟨ds, .load t x, ty, pos, af, gd⟩ (.agg (cs.extract o (o + N))) w := fun f hf => by
  have hl := run_loadCells_list (P := P) w ⟨g, o, none⟩ (cs.extract o (o + N)).toList (fun j v hv => by
    rw [Addr.add_lit, hb.cell]
    simp only [Array.getElem?_toList] at hv
    rw [Array.getElem?_extract] at hv
    split at hv
    · exact hv
    · cases hv)
  have hz : (cs.extract o (o + N)).toList.length = N := by simp; omega
  rw [hz, Array.toArray_toList] at hl
  simp [execOp, hf.eval hx, Instr.loadAt, Instr.sureAddr, loadVar, isAgg, run_underlying ht, hs w, hl]

/-- what may have turned: the blocks in S; and there may be new ones -/
structure Kp (S : Nat → Prop) (w w' : World) : Prop where
  os : w'.os = w.os
  tape : w'.tape = w.tape
  output : w'.output = w.output
  size : w.heap.size ≤ w'.heap.size
  block : ∀ k, k < w.heap.size → ¬ S k → w'.heap[k]? = w.heap[k]?
section
variable {S S' : Nat → Prop} {w w' w'' : World}
theorem Kp.refl (S : Nat → Prop) (w : World) : Kp S w w := ⟨rfl, rfl, rfl, Nat.le_refl _, fun _ _ _ => rfl⟩
theorem Kp.trans (h : Kp S w w') (h' : Kp S w' w'') : Kp S w w'' :=
  ⟨h'.os.trans h.os, h'.tape.trans h.tape, h'.output.trans h.output, Nat.le_trans h.size h'.size, fun k hk hs => (h'.block k (Nat.lt_of_lt_of_le hk h.size) hs).trans (h.block k hk hs)⟩
/-- what turned was in S, or was new -/
theorem Kp.mono (h : Kp S w w') (hs : ∀ k, k < w.heap.size → S k → S' k) : Kp S' w w' := ⟨h.os, h.tape, h.output, h.size, fun k hk hn => h.block k hk fun e => hn (hs k hk e)⟩
theorem Kp.trans' (h : Kp S w w') (h' : Kp S' w' w'') (hs : ∀ k, k < w.heap.size → S' k → S k) : Kp S w w'' :=
  ⟨h'.os.trans h.os, h'.tape.trans h.tape, h'.output.trans h.output, Nat.le_trans h.size h'.size, fun k hk hn => (h'.block k (Nat.lt_of_lt_of_le hk h.size) fun e => hn (hs k hk e)).trans (h.block k hk hn)⟩
theorem Kp.drew (h : Kp S w w') : Kp S w w'.drew := ⟨h.os, h.tape, h.output, h.size, h.block⟩
theorem Kp.set (h : Kp S w w') {a : Addr} (ha : S a.block ∨ w.heap.size ≤ a.block) (v : Value) : Kp S w (w'.setCell a v) :=
  ⟨h.os, h.tape, h.output, by simpa [World.setCell] using h.size, fun k hk hn => (heap_setCell_other w' a k v (by
    rintro rfl
    rcases ha with ha | ha
    · exact hn ha
    · omega)).trans (h.block k hk hn)⟩
theorem Kp.alloc (h : Kp S w w') (o : Obj) : Kp S w (w'.alloc o) :=
  ⟨h.os, h.tape, h.output, Nat.le_trans h.size (by simp), fun k hk hn => (Below.heap_alloc w' o k (Nat.lt_of_lt_of_le hk h.size)).trans (h.block k hk hn)⟩
theorem Kp.grown {row : Option Nat} (h : Kp S w w') (hg : w'.grownBy w'' row) (hr : ∀ g, row = some g → S g ∨ w.heap.size ≤ g) : Kp S w w'' :=
  ⟨hg.os.trans h.os, hg.tape.trans h.tape, hg.output.trans h.output, Nat.le_trans h.size hg.size, fun k hk hn => (hg.block k (Nat.lt_of_lt_of_le hk h.size) (fun e => by
    rcases hr k e.symm with h1 | h1
    · exact hn h1
    · omega)).trans (h.block k hk hn)⟩
theorem Kp.below (h : Kp S w w') {B : Nat} (hB : B ≤ w.heap.size) (hs : ∀ k, k < B → ¬ S k) : Below B w w' :=
  ⟨h.os, h.tape, h.output, h.size, fun k hk => h.block k (by omega) (hs k hk)⟩
theorem Bk.kept {g : Nat} {cs : Array Value} {t : TypeId} {fz : Nat × Nat} (h : Bk w g cs t fz) (hk : Kp S w w') (hs : ¬ S g) : Bk w' g cs t fz := (hk.block g h.lt hs).trans h
end

/-- bytes that lie in a row from an address on -/
def Bs (w : World) (g o : Nat) (s : List UInt8) : Prop := ∀ i c, s[i]? = some c → w.cell? ⟨g, o + i, none⟩ = some (u8 c)
section
variable {w w' : World} {g o : Nat} {s r : List UInt8} {S : Nat → Prop}
theorem Bs.nil (w : World) (g o : Nat) : Bs w g o [] := fun i c h => by simp at h
theorem Bs.cut (h : Bs w g o s) (k : Nat) : Bs w g (o + k) (s.drop k) := fun i c hi => by
  rw [Nat.add_assoc]
  exact h (k + i) c (by rwa [List.getElem?_drop] at hi)
theorem Bs.take (h : Bs w g o s) (k : Nat) : Bs w g o (s.take k) := fun i c hi => by
  rw [List.getElem?_take] at hi
  split at hi
  · exact h i c hi
  · cases hi
theorem Bs.drew (h : Bs w g o s) : Bs w.drew g o s := h
theorem Bs.lt (h : Bs w g o s) (hs : 0 < s.length) : g < w.heap.size := by
  have := h 0 s[0] (by simp [hs])
  exact World.block_lt_of_cell? w _ this
theorem Bs.kept (h : Bs w g o s) (hk : Kp S w w') (hs : ¬ S g) : Bs w' g o s := fun i c hi => by
  have h1 := h i c hi
  rw [← h1]
  exact World.cell?_of_block (hk.block g (World.block_lt_of_cell? w _ h1) hs)
theorem Bs.of_row {cs : Array Value} {t : TypeId} {fz : Nat × Nat} (h : Bk w g cs t fz) (hc : ∀ i c, s[i]? = some c → cs[o + i]? = some (u8 c)) : Bs w g o s := fun i c hi => h.at_ (hc i c hi)
end

/-- a row in which some cells are set, one behind the other -/
def splice (cs : Array Value) : Nat → List Value → Array Value
  | _, [] => cs
  | o, v :: r => splice (cs.setIfInBounds o v) (o + 1) r
section
variable {cs : Array Value} {o : Nat} {vs us : List Value}
@[simp] theorem splice_size : ∀ {cs : Array Value} {o : Nat} {vs : List Value}, (splice cs o vs).size = cs.size
  | _, _, [] => rfl
  | cs, o, v :: r => by rw [splice, splice_size]; simp
theorem splice_append : ∀ {cs : Array Value} {o : Nat} {vs us : List Value}, splice cs o (vs ++ us) = splice (splice cs o vs) (o + vs.length) us
  | _, _, [], _ => by simp [splice]
  | cs, o, v :: r, us => by
    simp only [List.cons_append, splice, List.length_cons]
    rw [splice_append]
    congr 1
    omega
theorem splice_get : ∀ {cs : Array Value} {o : Nat} {vs : List Value} (i : Nat), o + vs.length ≤ cs.size → (splice cs o vs)[i]? = if o ≤ i ∧ i < o + vs.length then vs[i - o]? else cs[i]?
  | cs, o, [], i, _ => by simp [splice]; omega
  | cs, o, v :: r, i, h => by
    simp only [List.length_cons] at h ⊢
    rw [splice, splice_get i (by simp; omega), Array.getElem?_setIfInBounds]
    by_cases h1 : o = i
    · subst h1
      rw [if_neg (by omega), if_pos rfl, if_pos (by omega), if_pos (by omega)]
      simp
    · by_cases h2 : o + 1 ≤ i ∧ i < o + 1 + r.length
      · rw [if_pos h2, if_pos (by omega)]
        have e : i - o = (i - (o + 1)) + 1 := by omega
        rw [e, List.getElem?_cons_succ]
      · rw [if_neg h2, if_neg h1, if_neg (by omega)]
end

theorem far_addr {g i g' j : Nat} (h : g ≠ g' ∨ i ≠ j) : (⟨g, i, none⟩ : Addr) ≠ ⟨g', j, none⟩ := fun e => by
  injection e with e1 e2
  rcases h with h | h
  · exact h e1
  · exact h e2
/-- bytes that lie apart from what is set -/
theorem Bs.splice {w w' : World} {g o sb so : Nat} {cs : Array Value} {t : TypeId} {vs : List Value} {s : List UInt8} (h : Bs w sb so s) (hb : Bk w g cs t (0, 0)) (hb' : Bk w' g (splice cs o vs) t (0, 0)) (hk : Kp (· = g) w w')
    (ho : o + vs.length ≤ cs.size) (ha : sb ≠ g ∨ so + s.length ≤ o ∨ o + vs.length ≤ so) : Bs w' sb so s := by
  by_cases hg : sb = g
  · subst hg
    intro i c hi
    have hlt : i < s.length := by
      rcases Nat.lt_or_ge i s.length with h1 | h1
      · exact h1
      · simp [List.getElem?_eq_none h1] at hi
    rw [hb'.cell, splice_get _ ho, if_neg (by omega), ← hb.cell]
    exact h i c hi
  · exact h.kept hk hg
theorem splice_nil {cs : Array Value} {o : Nat} : splice cs o [] = cs := rfl

end Go.Proofs.Ytmbglgepomeilaa
