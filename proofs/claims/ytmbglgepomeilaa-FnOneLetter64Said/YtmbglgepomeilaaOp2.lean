/-
  OPERATIONS THAT MAKE OR WRITE MEMORY: alloc, box, make, copy, append, conversions between strings and bytes; operations on strings. No program in sight.
-/
import Derived.Test.YtmbglgepomeilaaMem
import Derived.Maps.AppendAt
namespace Go.Proofs.Ytmbglgepomeilaa
open Go.RowKit

/-- a string of bytes -/
def str (s : List UInt8) : Value := .string ⟨s.toArray⟩
theorem str_data (s : ByteArray) : Value.string s = str s.data.toList := by obtain ⟨d⟩ := s; simp [str]

/-- cells that can be read from an address on; of none nothing is asked -/
def Rd (w : World) (A : Option Addr) (r : List Value) : Prop := r = [] ∨ ∃ g o, A = some ⟨g, o, none⟩ ∧ ∀ i u, r[i]? = some u → w.cell? ⟨g, o + i, none⟩ = some u
theorem Rd.nil (w : World) (A : Option Addr) : Rd w A [] := .inl rfl
theorem Rd.of_bs {w : World} {g o : Nat} {s : List UInt8} (h : Bs w g o s) : Rd w (some ⟨g, o, none⟩) (bv s) := .inr ⟨g, o, rfl, fun i u hu => by
  simp only [bv, List.getElem?_map, Option.map_eq_some_iff] at hu
  obtain ⟨c, hc, rfl⟩ := hu
  exact h i c hc⟩
theorem Rd.bs {w : World} {A : Option Addr} {s : List UInt8} (h : Rd w A (bv s)) : s.length = 0 ∨ ∃ g o, A = some ⟨g, o, none⟩ ∧ Bs w g o s := by
  rcases h with h | ⟨g, o, e, h⟩
  · left; have := congrArg List.length h; simpa using this
  · exact .inr ⟨g, o, e, fun i c hc => h i _ (by simp [bv, hc])⟩
theorem Rd.drew {w : World} {A : Option Addr} {r : List Value} (h : Rd w A r) : Rd w.drew A r := h
theorem Rd.kept {S : Nat → Prop} {w w' : World} {A : Option Addr} {r : List Value} (h : Rd w A r) (hk : Kp S w w') (hs : ∀ g o, A = some ⟨g, o, none⟩ → ¬ S g) : Rd w' A r := by
  rcases h with h | ⟨g, o, e, h⟩
  · exact .inl h
  · refine .inr ⟨g, o, e, fun i u hu => ?_⟩
    have h1 := h i u hu
    rw [← h1]
    exact World.cell?_of_block (hk.block g (World.block_lt_of_cell? w _ h1) (hs g o e))
theorem Rd.take {w : World} {A : Option Addr} {r : List Value} (h : Rd w A r) (k : Nat) : Rd w A (r.take k) := by
  rcases h with h | ⟨g, o, e, h⟩
  · exact .inl (by rw [h]; simp)
  · refine .inr ⟨g, o, e, fun i u hu => h i u ?_⟩
    rw [List.getElem?_take] at hu
    split at hu
    · exact hu
    · cases hu

/-- cells set one behind the other -/
def setCells (w : World) (g : Nat) : Nat → List Value → World
  | _, [] => w
  | o, v :: r => setCells (w.setCell ⟨g, o, none⟩ v) g (o + 1) r
theorem setCells_bk {g : Nat} {t : TypeId} {fz : Nat × Nat} : ∀ {vs : List Value} {o : Nat} {w : World} {cs : Array Value}, Bk w g cs t fz → Bk (setCells w g o vs) g (splice cs o vs) t fz
  | [], _, _, _, h => h
  | v :: r, o, w, _, h => setCells_bk (vs := r) (o := o + 1) (w := w.setCell ⟨g, o, none⟩ v) (h.set _ _)
theorem setCells_kp {S : Nat → Prop} {g : Nat} {w0 : World} (hg : S g ∨ w0.heap.size ≤ g) : ∀ {vs : List Value} {o : Nat} {w : World}, Kp S w0 w → Kp S w0 (setCells w g o vs)
  | [], _, _, h => h
  | v :: r, o, w, h => setCells_kp hg (vs := r) (o := o + 1) (w := w.setCell ⟨g, o, none⟩ v) (h.set hg _)
@[simp] theorem setCells_size {g : Nat} : ∀ {vs : List Value} {o : Nat} {w : World}, (setCells w g o vs).heap.size = w.heap.size
  | [], _, _ => rfl
  | _ :: _, _, _ => by rw [setCells, setCells_size]; simp
theorem run_storeCells {P : Program} {g : Nat} {t : TypeId} {fz : Nat × Nat} : ∀ (vs : List Value) (i o : Nat) (cs : Array Value) (w : World), Bk w g cs t fz → o + i + vs.length ≤ cs.size → (o + i + vs.length ≤ fz.1 ∨ fz.2 ≤ o + i) → (∀ v ∈ vs, v.oneCell' = true) →
    (storeCells ⟨g, o, none⟩ vs i).run P w = .ok () (setCells w g (o + i) vs)
  | [], i, o, cs, w, _, _, _, _ => rfl
  | v :: r, i, o, cs, w, hb, hl, hf, h1 => by
    simp only [List.length_cons] at hl hf
    have hc := hb.some (i := o + i) (by omega)
    have hz := hb.frozen (i := o + i) (by omega)
    have ih := run_storeCells (P := P) r (i + 1) o _ _ (hb.set (o + i) v) (by simp; omega) (by omega) (fun u hu => h1 u (by simp [hu]))
    simp only [storeCells, Sem.run_bind, Addr.add_lit, run_store P w _ v _ (h1 v (by simp)), hc, hz, Result.andThen_ok, Bool.false_eq_true, if_false, ih, setCells, Nat.add_assoc]

theorem one_u8 (s : List UInt8) : ∀ v ∈ bv s, v.oneCell' = true := by
  intro v hv
  obtain ⟨c, _, rfl⟩ := List.mem_map.1 hv
  rfl

section
variable {P : Program} {n : Nat} {l : Env} {w w' : World} {ds : Option Tmp} {ty t t' e : TypeId} {pos : String} {af : Array Edge} {gd : Option (Nat × Bool)} {x y : Operand} {v u v' : Value}
theorem y_alloc {z : Value} (hz : (zeroValue t).run P w = .ok z w) : Does P n l w ⟨ds, .alloc t, ty, pos, af, gd⟩ (.pointer (some ⟨w.heap.size, 0, none⟩)) (w.alloc (.cells z.cells t)) := fun f _ => by
  simp [execOp, Instr.alloc, hz, newVar, newRow, newObj, Sem.run]
theorem y_box (hx : ev l x = some v) : Does P n l w ⟨ds, .box t x, ty, pos, af, gd⟩ (.pointer (some ⟨w.heap.size, 0, none⟩)) (w.alloc (.cells v.cells t)) := fun f hf => by
  simp [execOp, hf.eval hx, Instr.box, newVar, newRow, newObj, Sem.run]
theorem zr_of {k : Nat} (h : ((P.info? t).bind (·.zero)).map (fun z => z.cells.size) = some k) : ∃ z, (∀ w, (zeroValue t).run P w = .ok z w) ∧ z.cells.size = k := by
  simp only [Option.map_eq_some_iff, Option.bind_eq_some_iff] at h
  obtain ⟨z, ⟨i, hi, hz⟩, hk⟩ := h
  exact ⟨z, fun w => by simp [zeroValue, typeInfo, hi, hz], hk⟩
theorem y_loadStr {g : Nat} {cs : Array Value} {bt : TypeId} {fz : Nat × Nat} {d : TypeDesc} (hx : ev l x = some (.pointer (some ⟨g, 0, none⟩))) (hu : P.underlying t = some d) (hd : (match d with | .struct _ | .array _ _ => true | _ => false) = true)
    (hi : (P.info? t).map (·.size) = some cs.size) (hb : Bk w g cs bt fz) : Does P n l w ⟨ds, .load t x, ty, pos, af, gd⟩ (.agg cs) w := fun f hf => by
  simp [execOp, hf.eval hx, Instr.loadAt, Instr.sureAddr, run_loadVar_row w g bt t cs fz d hb hu hd hi]
theorem y_run2 {b : Builtin} {X : Sem Value} (hb : ∀ cs, builtin b #[t, t'] ty cs #[v, u] = (do pure (.value (← X)))) (hx : ev l x = some v) (hy : ev l y = some u) (hr : X.run P w = .ok v' w') :
    Does P n l w ⟨ds, .call { callee := .builtin b, args := #[x, y], argTypes := #[t, t'] }, ty, pos, af, gd⟩ v' w' := fun f hf => by
  have h : (#[x, y].map f.eval) = #[v, u] := by simp [hf.eval hx, hf.eval hy]
  simp only [execOp, resolve, invoke, Sem.run_bind, Sem.run_pure, Result.andThen_ok, h, hb, hr]
theorem y_app (hx : ev l x = some v) (hy : ev l y = some u) (hr : (Builtin.append_ #[t, t'] ty #[v, u]).run P w = .ok v' w') :
    Does P n l w ⟨ds, .call { callee := .builtin .append, args := #[x, y], argTypes := #[t, t'] }, ty, pos, af, gd⟩ v' w' := y_run2 (fun _ => rfl) hx hy hr
theorem y_copy (hx : ev l x = some v) (hy : ev l y = some u) (hr : (Builtin.copy_ #[t, t'] ty #[v, u]).run P w = .ok v' w') :
    Does P n l w ⟨ds, .call { callee := .builtin .copy, args := #[x, y], argTypes := #[t, t'] }, ty, pos, af, gd⟩ v' w' := y_run2 (fun _ => rfl) hx hy hr
theorem y_make (hx : ev l x = some v) (hy : ev l y = some u) (hr : (Instr.makeSlice t v u).run P w = .ok v' w') : Does P n l w ⟨ds, .makeSlice t x y, ty, pos, af, gd⟩ v' w' := fun f hf => by
  simp only [execOp, hf.eval hx, hf.eval hy, Sem.run_bind, Sem.run_pure, Result.andThen_ok, hr]
theorem y_cvt (hx : ev l x = some v) (hr : (convert t t' v).run P w = .ok v' w') : Does P n l w ⟨ds, .convert t t' x, ty, pos, af, gd⟩ v' w' := fun f hf => by
  simp only [execOp, hf.eval hx, Sem.run_bind, Sem.run_pure, Result.andThen_ok, hr]
/-- facts on a slice type t over elements e of one cell and b bytes -/
structure El (P : Program) (t e b : Nat) : Prop where
  und : P.underlying t = some (.slice e)
  info : ∃ i z, P.info? e = some i ∧ i.zero = some z ∧ i.size = 1 ∧ i.bytes = b ∧ z.cells.size = 1
theorem el_of {t e b : Nat} (h : P.underlying t = some (.slice e)) (hi : ((P.info? e).bind fun i => i.zero.map fun z => (i.size, i.bytes, z.cells.size)) = some (1, b, 1)) : El P t e b := by
  refine ⟨h, ?_⟩
  simp only [Option.bind_eq_some_iff, Option.map_eq_some_iff, Prod.mk.injEq] at hi
  obtain ⟨i, hi, z, hz, h1, h2, h3⟩ := hi
  exact ⟨i, z, hi, hz, h1, h2, h3⟩
theorem El.siz {t e b : Nat} (F : El P t e b) : Siz P e 1 := by
  obtain ⟨i, z, hi, _, h1, _⟩ := F.info
  exact siz_of (by simp [hi, h1])
/-- a row of one's own -/
def Own (w : World) (e : TypeId) (v : Value) (xs : List Value) : Prop := w.ownsRow 0 e 1 v xs.length xs
theorem Own.nil (w : World) (e : TypeId) : Own w e (.slice none 0 0) [] := World.ownsRow_nil w 0 e 1
theorem Own.form {e : TypeId} {xs : List Value} (h : Own w e v xs) : (v = .slice none 0 0 ∧ xs = []) ∨ ∃ g cap cs, v = .slice (some ⟨g, 0, none⟩) xs.length cap ∧ Bk w g cs e (0, 0) ∧ xs.length ≤ cap ∧ cs.size = cap ∧ ∀ (i : Nat) (u : Value), xs[i]? = some u → cs[i]? = some u := by
  rcases h.2 with ⟨rfl, h0⟩ | ⟨g, cap, cur, rfl, _, hb, hn, _, hs, ht⟩
  · exact .inl ⟨rfl, List.eq_nil_of_length_eq_zero h0⟩
  · refine .inr ⟨g, cap, cur, rfl, hb, hn, by simpa using hs, fun i u hu => ?_⟩
    rw [← ht, List.getElem?_take] at hu
    split at hu
    · simpa using hu
    · cases hu
theorem Own.rd {e : TypeId} {xs : List Value} {A : Option Addr} {m c : Nat} (h : Own w e (.slice A m c) xs) : m = xs.length ∧ Rd w A xs := by
  rcases h.form with ⟨e1, rfl⟩ | ⟨g, cap, cs, e1, hb, _, _, hc⟩
  · injection e1 with _ e2 _; exact ⟨e2, .inl rfl⟩
  · injection e1 with e2 e3 _; subst e2; exact ⟨e3, .inr ⟨g, 0, rfl, fun i u hu => by rw [Nat.zero_add]; exact hb.at_ (hc i u hu)⟩⟩
theorem Own.kept {S : Nat → Prop} {e : TypeId} {xs : List Value} (h : Own w e v xs) (hk : Kp S w w') (hs : ∀ g, v.ownBlock = some g → ¬ S g) : Own w' e v xs := by
  refine ⟨h.1, ?_⟩
  rcases h.2 with hn | ⟨g, cap, cur, rfl, h1, hb, rest⟩
  · exact .inl hn
  · exact .inr ⟨g, cap, cur, rfl, h1, (Bk.kept (t := e) hb hk (hs g rfl)), rest⟩
theorem Own.lt {e : TypeId} {xs : List Value} (h : Own w e v xs) {g : Nat} (hg : v.ownBlock = some g) : g < w.heap.size := (World.ownsRow.lt h g hg).2
theorem run_app {t e b ty : Nat} {A : Option Addr} {c : Nat} {xs r : List Value} (F : El P t e b) (ho : Own w e v xs) (hr : Rd w A r) (h1 : ∀ u ∈ r, u.oneCell' = true) (hb : (xs.length + r.length) * b ≤ 140737488355328) (hb0 : 1 ≤ b) :
    ∃ v' w', (Builtin.append_ #[t, t] ty #[v, .slice A r.length c]).run P w = .ok v' w' ∧ Own w' e v' (xs ++ r) ∧ w.grownBy w' v.ownBlock ∧ (v'.ownBlock = v.ownBlock ∨ v'.ownBlock = some w.heap.size) := by
  obtain ⟨i, z, hi, hz, hs, hby, hzs⟩ := F.info
  have h63 : xs.length + r.length ≤ maxLen := by
    have : (xs.length + r.length) * 1 ≤ (xs.length + r.length) * b := Nat.mul_le_mul_left _ hb0
    simp only [maxLen]; omega
  rcases A with _ | a
  · have hn : r = [] := by
      rcases hr with h | ⟨g, o, e, _⟩
      · exact h
      · cases e
    subst hn
    refine ⟨v, w, ?_, by simpa using ho, World.grownBy.refl w _, .inl rfl⟩
    rcases ho.2 with ⟨rfl, h0⟩ | ⟨g, cap, cur, rfl, _, _, hnc, _⟩
    · simp [Builtin.append_, run_underlying F.und, sizeOf, typeInfo, hi, Builtin.lenOf, Builtin.firstCells]
    · simp [Builtin.append_, run_underlying F.und, sizeOf, typeInfo, hi, Builtin.lenOf, Builtin.firstCells, hnc, storeCells]
  · have hcells : ∀ j u, r[j]? = some u → w.cell? (a.add j) = some u := by
      intro j u hu
      rcases hr with h | ⟨g, o, e, h⟩
      · subst h; simp at hu
      · injection e with e; subst e; rw [Addr.add_lit]; exact h j u hu
    obtain ⟨v', w', hrun, h2, h3, _, h5⟩ := run_append_own_at (P := P) w 0 t ty e i z 1 b F.und hi hz hs hby hzs (by omega) v xs.length xs ho a r.length c r (by simp) hcells h1 h63 hb (Nat.zero_le _)
    refine ⟨v', w', hrun, ?_, h3, h5⟩
    unfold Own
    rw [List.length_append]
    exact h2
theorem run_makeN {t e b N : Nat} {k k' : IntKind} (F : El P t e b) (hN : b * N ≤ 281474976710656) (hN' : N ≤ 9223372036854775807) :
    ∃ z, (∀ w, (zeroValue e).run P w = .ok z w) ∧ z.cells.size = 1 ∧ (Instr.makeSlice t (.int k (N : Int)) (.int k' (N : Int))).run P w = .ok (.slice (some ⟨w.heap.size, 0, none⟩) N N) (w.alloc (.cells (madeCells z.cells N) e)) := by
  obtain ⟨i, z, hi, hz, hs, hby, hzs⟩ := F.info
  have hb : (i.bytes : Int) * (N : Int) ≤ 281474976710656 := by
    have h : ((i.bytes * N : Nat) : Int) ≤ 281474976710656 := by rw [hby]; omega
    rwa [Int.natCast_mul] at h
  have hr := run_make (P := P) w t e i z F.und hi hz k k' N N (by omega) (by omega) hb (by omega)
  simp only [Int.toNat_natCast, hs, Nat.mul_one] at hr
  exact ⟨z, fun w => by simp [zeroValue, typeInfo, hi, hz], hzs, hr⟩
theorem made_get {z : Array Value} {N i : Nat} {v : Value} (hz : z = #[v]) (hi : i < N) : (madeCells z N)[i]? = some v := by
  subst hz
  simp [madeCells, hi, Nat.mod_one]
/-- bytes as a string -/
theorem run_b2s {s : List UInt8} {A : Option Addr} {c : Nat} (ht : P.underlying t = some (.slice e)) (he : P.underlying e = some (.int .u8)) (hd : P.underlying t' = some .string) (hr : Rd w A (bv s)) :
    (convert t t' (.slice A s.length c)).run P w = .ok (str s) w := by
  rcases A with _ | a
  · have hn : s = [] := by
      rcases hr.bs with h | ⟨g, o, e, _⟩
      · exact List.eq_nil_of_length_eq_zero h
      · cases e
    subst hn
    exact run_convert_bytes_nil w t e ht he _ _ t' hd
  · rcases hr.bs with h | ⟨g, o, e1, h⟩
    · have hn : s = [] := List.eq_nil_of_length_eq_zero h
      subst hn
      rw [run_convert_bytes_string w t t' e _ _ _ ht he hd, run_bytesToString w _ _ _ [] (by simp [loadCells, loadCellsFrom])]
      rfl
    · injection e1 with e1
      subst e1
      have := run_convert_bytes_arg (P := P) w t e ht he g o s.length c (s.map fun b => (b.toNat : Int)) (by simp) (fun i hi => by
        have h1 := h i s[i] (by simp [hi])
        rw [h1]
        simp [u8, hi]) t' hd
      rw [this]
      congr 2
      simp [strOfNums, Function.comp_def]
/-- a string as bytes -/
theorem run_s2b {s : List UInt8} (ht : P.underlying t = some .string) (hd : P.underlying t' = some (.slice e)) (he : P.underlying e = some (.int .u8)) :
    ∃ cap cs w', (convert t t' (str s)).run P w = .ok (.slice (some ⟨w.heap.size, 0, none⟩) s.length cap) w' ∧ Bk w' w.heap.size cs e (cap, cap + 1) ∧ cs.size = cap ∧ s.length ≤ cap ∧ (∀ (i : Nat) (c : UInt8), s[i]? = some c → cs[i]? = some (u8 c)) ∧
      Kp (fun _ => False) w w' ∧ w'.heap.size = w.heap.size + 1 := by
  let q : Question := .appendCap s.length 0 e
  let cap := q.cut (w.tape w.drawn q)
  have hge : s.length ≤ cap := by show s.length ≤ s.length + _; omega
  let cs : Array Value := (s.toArray.map fun b => Value.int .u8 b.toNat) ++ Array.replicate (cap - s.length) (.int .u8 0)
  have hcs : cs.size = cap := by simp [cs]; omega
  refine ⟨cap, cs, (w.drew.alloc (.cells cs e)).freeze ⟨w.heap.size, cap, none⟩ 1, ?_, ?_, hcs, hge, ?_, ?_, ?_⟩
  · have hsz : (ByteArray.mk s.toArray).size = s.length := by simp [ByteArray.size]
    have hsh : (w.drew.alloc (.cells cs e)).shape? w.heap.size = some (e, cap) := by
      unfold World.shape?
      rw [show (w.drew.alloc (.cells cs e)).heap[w.heap.size]? = some (.cells cs e) from heap_alloc_new w.drew _]
      simp [hcs]
    simp only [str, convert, Sem.run_bind, run_underlying ht, run_underlying hd, run_underlying he, Result.andThen_ok, Conv.stringToBytes, choose, Sem.run, hsz, Question.forced, Bool.false_eq_true, if_false, newRow, newObj, markStringish, shape, freeze,
      Sem.run_pure, World.drew_eq, World.alloc_eq]
    have hsh' : (w.drew.alloc (.cells ((s.toArray.map fun b => Value.int .u8 b.toNat) ++ Array.replicate (Question.cut (.appendCap s.length 0 e) (w.tape w.drawn (.appendCap s.length 0 e)) - s.length) (.int .u8 0)) e)).shape? w.drew.heap.size = some (e, cap) := hsh
    simp only [hsh']
    rfl
  · unfold Bk World.freeze
    simp only [show ¬ (1 = 0) by omega, if_false]
    have h0 : (w.drew.alloc (.cells cs e)).heap[w.heap.size]? = some (.cells cs e) := heap_alloc_new w.drew _
    rw [Array.getElem?_modify, if_pos rfl, h0]
    simp
  · intro i c hi
    have hlt : i < s.length := by
      rcases Nat.lt_or_ge i s.length with h | h
      · exact h
      · simp [List.getElem?_eq_none h] at hi
    simp only [cs]
    rw [Array.getElem?_append_left (by simpa using hlt)]
    simp [hi, u8]
  · refine ⟨by unfold World.freeze; split <;> rfl, by unfold World.freeze; split <;> rfl, by unfold World.freeze; split <;> rfl, ?_, fun k hk _ => ?_⟩
    · unfold World.freeze; split <;> simp
    · unfold World.freeze
      split
      · exact Below.heap_alloc w.drew _ k hk
      · simp only [Array.getElem?_modify]
        rw [if_neg (by omega)]
        exact Below.heap_alloc w.drew _ k hk
  · unfold World.freeze; split <;> simp
/-- copy from a string -/
theorem run_copyS {dT sT ty e g o dl dc : Nat} {cs : Array Value} {bt : TypeId} {fz : Nat × Nat} {s : List UInt8} (hu : P.underlying dT = some (.slice e)) (hs : Siz P e 1) (hb : Bk w g cs bt fz) (hl : s.length ≤ dl) (ho : o + s.length ≤ cs.size)
    (hf : o + s.length ≤ fz.1 ∨ fz.2 ≤ o) : (Builtin.copy_ #[dT, sT] ty #[.slice (some ⟨g, o, none⟩) dl dc, str s]).run P w = .ok (.int .i64 (s.length : Int)) (setCells w g o (bv s)) := by
  have hm : Nat.min s.length dl = s.length := Nat.min_eq_left hl
  have hst := run_storeCells (P := P) (bv s) 0 o cs w hb (by simpa using ho) (by simpa using hf) (one_u8 s)
  have hx : List.take s.length (List.map (fun b : UInt8 => Value.int .u8 b.toNat) s) = bv s := by
    rw [List.take_of_length_le (by simp)]; rfl
  have hsz : (ByteArray.mk s.toArray).size = s.length := by simp [ByteArray.size]
  simp only [Nat.add_zero] at hst
  simp [Builtin.copy_, str, run_underlying hu, Builtin.lenOf, hsz, hm, hs w, Builtin.firstCells, hx, hst, goInt]
/-- copy from a slice -/
theorem run_copyB {dT sT ty e g o dl dc sl sc : Nat} {cs : Array Value} {bt : TypeId} {fz : Nat × Nat} {A : Option Addr} {r : List Value} (hu : P.underlying dT = some (.slice e)) (hs : Siz P e 1) (hb : Bk w g cs bt fz) (hr : Rd w A r) (hm : r.length = Nat.min sl dl)
    (h1 : ∀ u ∈ r, u.oneCell' = true) (ho : o + r.length ≤ cs.size) (hf : o + r.length ≤ fz.1 ∨ fz.2 ≤ o) :
    (Builtin.copy_ #[dT, sT] ty #[.slice (some ⟨g, o, none⟩) dl dc, .slice A sl sc]).run P w = .ok (.int .i64 (r.length : Int)) (setCells w g o r) := by
  have hst := run_storeCells (P := P) r 0 o cs w hb (by simpa using ho) (by simpa using hf) h1
  simp only [Nat.add_zero] at hst
  have hfc : (Builtin.firstCells 1 r.length (.slice A sl sc)).run P w = .ok r.toArray w := by
    rcases hr with rfl | ⟨g', o', rfl, hc⟩
    · cases A <;> simp [Builtin.firstCells, loadCells, loadCellsFrom]
    · have := run_loadCells_list (P := P) w ⟨g', o', none⟩ r (fun j v hj => by rw [Addr.add_lit]; exact hc j v hj)
      simpa [Builtin.firstCells] using this
  simp [Builtin.copy_, run_underlying hu, Builtin.lenOf, ← hm, hs w, hfc, hst, goInt]
/-- operations on strings -/
theorem y_cat {a b : List UInt8} (hx : ev l x = some (str a)) (hy : ev l y = some (str b)) (h : a.length + b.length ≤ 9223372036854775807) : Does P n l w ⟨ds, .binOp .add t x y t', ty, pos, af, gd⟩ (str (a ++ b)) w := fun f hf => by
  have h1 : ¬ ((9223372036854775807 : Int) < ((a.length + b.length : Nat) : Int)) := by omega
  have h2 : ((ByteArray.mk a.toArray) ++ (ByteArray.mk b.toArray)) = ByteArray.mk (a ++ b).toArray := by
    apply ByteArray.ext
    simp [ByteArray.data_append]
  simp only [execOp, hf.eval hx, hf.eval hy, str, eqGuard_add, Sem.run_bind, Sem.run_pure, Result.andThen_ok, binOp, Op.stringOp, IntKind.max_i64]
  simp only [ByteArray.size, List.size_toArray, gt_iff_lt, h1, if_false, Sem.run_pure, Result.andThen_ok, h2]
theorem y_eqs {a b : List UInt8} (hx : ev l x = some (str a)) (hy : ev l y = some (str b)) : Does P n l w ⟨ds, .binOp .eql t x y t', ty, pos, af, gd⟩ (.bool (decide (a = b))) w := fun f hf => by
  simp only [execOp, hf.eval hx, hf.eval hy, str, eqGuard_at_string, Sem.run_bind, Sem.run_pure, Result.andThen_ok, binOp, Op.stringOp, ByteArray.toList_mk]
  by_cases h : a = b <;> simp [h]
theorem y_nes {a b : List UInt8} (hx : ev l x = some (str a)) (hy : ev l y = some (str b)) : Does P n l w ⟨ds, .binOp .neq t x y t', ty, pos, af, gd⟩ (.bool (decide (a ≠ b))) w := fun f hf => by
  simp only [execOp, hf.eval hx, hf.eval hy, str, eqGuard_at_string, Sem.run_bind, Sem.run_pure, Result.andThen_ok, binOp, Op.stringOp, ByteArray.toList_mk]
  by_cases h : a = b <;> simp [h]
theorem y_lts {a b : List UInt8} (hx : ev l x = some (str a)) (hy : ev l y = some (str b)) : Does P n l w ⟨ds, .binOp .lss t x y t', ty, pos, af, gd⟩ (.bool (Op.bytesLess a b)) w := fun f hf => by
  simp only [execOp, hf.eval hx, hf.eval hy, str, eqGuard_lss, Sem.run_bind, Sem.run_pure, Result.andThen_ok, binOp, Op.stringOp, ByteArray.toList_mk]
theorem y_len' {s : List UInt8} (hx : ev l x = some (str s)) (ht : P.underlying t = some .string) :
    Does P n l w ⟨ds, .call { callee := .builtin .len, args := #[x], argTypes := #[t] }, ty, pos, af, gd⟩ (.int .i64 (s.length : Int)) w := by
  have := y_lens (P := P) (n := n) (w := w) (ds := ds) (ty := ty) (pos := pos) (af := af) (gd := gd) hx ht
  simpa [ByteArray.size] using this
theorem y_ixs' {s : List UInt8} {k : IntKind} {i : Nat} {c : UInt8} (hx : ev l x = some (str s)) (hy : ev l y = some (.int k (i : Int))) (ht : P.underlying t = some .string) (hc : s[i]? = some c) :
    Does P n l w ⟨ds, .index t x y, ty, pos, af, gd⟩ (u8 c) w := y_ixs hx hy ht (by simpa using hc)
theorem y_iff {d : TypeDesc} (hx : ev l x = some v) (ht : P.underlying t = some d) (hd : (match d with | .interface _ => true | _ => false) = false) : Does P n l w ⟨ds, .makeInterface t x, ty, pos, af, gd⟩ (.iface t v) w :=
  y_iface hx fun w => by
    unfold Instr.makeInterface
    rw [Sem.run_bind, run_underlying ht w]
    cases d <;> simp_all
end

section
variable {P : Program} {n : Nat} {l : Env} {w w' : World} {ds : Option Tmp} {ty t e : TypeId} {pos : String} {af : Array Edge} {gd : Option (Nat × Bool)} {x y : Operand} {v u : Value}
theorem y_bs0 {b : Nat} (F : El P t e b) : Does P n l w ⟨ds, .buildSlice t 0 #[], ty, pos, af, gd⟩ (.slice (some ⟨w.heap.size, 0, none⟩) 0 0) (w.alloc (.cells #[] e)) := fun f _ => by
  have hr : Array.range 0 = #[] := rfl
  simp [execOp, Instr.buildSlice, run_underlying F.und, F.siz w, Instr.fill, newRow, newObj, Sem.run, hr]
theorem y_bs1 {b : Nat} (F : El P t e b) (hx : ev l x = some v) (h1 : v.oneCell' = true) : Does P n l w ⟨ds, .buildSlice t 1 #[(0, x)], ty, pos, af, gd⟩ (.slice (some ⟨w.heap.size, 0, none⟩) 1 1) (w.alloc (.cells #[v] e)) := fun f hf => by
  obtain ⟨i, z, hi, hz, hs, _, hzs⟩ := F.info
  have hc : v.cells = #[v] := by cases v <;> first | rfl | cases h1
  have hz' : (zeroValue e).run P w = .ok z w := by simp [zeroValue, typeInfo, hi, hz]
  have hr : Array.range 1 = #[0] := rfl
  simp [execOp, Instr.buildSlice, run_underlying F.und, F.siz w, Instr.fill, newRow, newObj, Sem.run, hf.eval hx, hz', hc, hr]
theorem Own.zero (w : World) (e : TypeId) : Own (w.alloc (.cells #[] e)) e (.slice (some ⟨w.heap.size, 0, none⟩) 0 0) [] :=
  ⟨rfl, .inr ⟨w.heap.size, 0, #[], rfl, Nat.zero_le _, heap_alloc_new w _, Nat.le_refl _, Nat.zero_le _, rfl, rfl⟩⟩
theorem Rd.one (w : World) (e : TypeId) (v : Value) : Rd (w.alloc (.cells #[v] e)) (some ⟨w.heap.size, 0, none⟩) [v] :=
  .inr ⟨_, _, rfl, fun i u hu => by
    have hb := Bk.new w #[v] e
    rw [Nat.zero_add, hb.cell]
    simpa using hu⟩
/-- what grows by an append turns the row alone -/
theorem grown_kp {row : Option Nat} {S : Nat → Prop} (hg : w.grownBy w' row) (hr : ∀ k, row = some k → S k ∨ w.heap.size ≤ k) : Kp S w w' := (Kp.refl S w).grown hg hr
end

end Go.Proofs.Ytmbglgepomeilaa
