/-
  THE OPERATIONS: what each gives, said of environments. No program in sight.
-/
import Derived.Test.YtmbglgepomeilaaWk
import Derived.Laws.BitsLemmas
import Derived.Laws.BitsAllLaws
namespace Go.Proofs.Ytmbglgepomeilaa
open Go.RowKit

/-- a byte, and bytes, as values -/
def u8 (b : UInt8) : Value := .int .u8 (b.toNat : Int)
def bv (s : List UInt8) : List Value := s.map u8
@[simp] theorem bv_length (s : List UInt8) : (bv s).length = s.length := by simp [bv]

/-- facts on a type, for every world -/
def Plain (P : Program) (t : TypeId) : Prop := ∀ w, (isAgg t).run P w = .ok false w
def Siz (P : Program) (t : TypeId) (k : Nat) : Prop := ∀ w, (sizeOf t).run P w = .ok k w
def Und (P : Program) (t : TypeId) (d : TypeDesc) : Prop := P.underlying t = some d
/-- field i of struct s lies at off -/
def Fld (P : Program) (s : TypeId) (i off : Nat) : Prop := ∀ g o w, (Instr.fieldAt s (.pointer (some ⟨g, o, none⟩)) i).run P w = .ok (.pointer (some ⟨g, o + off, none⟩)) w
theorem siz_of {P : Program} {t : TypeId} {k : Nat} (h : (P.info? t).map (·.size) = some k) : Siz P t k := by
  intro w
  cases hq : P.info? t with
  | none => simp [hq] at h
  | some i =>
    have : i.size = k := by simpa [hq] using h
    simp [sizeOf, typeInfo, hq, this]
theorem plain_of {P : Program} {t : TypeId} {d : TypeDesc} (h : P.underlying t = some d) (hd : (match d with | .struct _ | .array _ _ => true | _ => false) = false) : Plain P t := by
  intro w
  unfold isAgg
  rw [Sem.run_bind, run_underlying h w]
  cases d <;> simp_all
theorem fld_of {P : Program} {s : TypeId} {i off k : Nat} {fs : Array Field} (h : P.underlying s = some (.struct fs)) (hk : ((fs[i]?).bind fun f => (P.info? f.type).map fun j => (f.offset, j.size)) = some (off, k + 1)) : Fld P s i off := by
  intro g o w
  simp only [Option.bind_eq_some_iff, Option.map_eq_some_iff] at hk
  obtain ⟨f, hf, j, hj, he⟩ := hk
  simp only [Prod.mk.injEq] at he
  have hs := siz_of (P := P) (t := f.type) (k := k + 1) (by rw [hj]; simp [he.2]) w
  simp [Instr.fieldAt, run_underlying h, hf, Instr.sureAddr, fieldPlace, hs, Addr.add_lit, he.1]

section
variable {P : Program} {n : Nat} {l : Env} {w : World} {ds : Option Tmp} {ty : TypeId} {pos : String} {af : Array Edge} {gd : Option (Nat × Bool)} {x y z : Operand} {v u : Value}

theorem y_move (hx : ev l x = some v) : Does P n l w ⟨ds, .move x, ty, pos, af, gd⟩ v w := fun a ha => by simp [execOp, ha.eval hx]
theorem y_assign (hx : ev l x = some v) : Does P n l w ⟨ds, .assign x, ty, pos, af, gd⟩ v w := fun a ha => by simp [execOp, ha.eval hx]
theorem y_pick {b : Bool} (hc : ev l x = some (.bool b)) (hv : (bif b then ev l y else ev l z) = some v) : Does P n l w ⟨ds, .pick x y z, ty, pos, af, gd⟩ v w := fun a ha => by
  have h1 := ha.eval hc
  cases b
  · have h2 := ha.eval (x := z) (v := v) (by simpa using hv)
    simp [execOp, h1, h2, asBool]
  · have h2 := ha.eval (x := y) (v := v) (by simpa using hv)
    simp [execOp, h1, h2, asBool]
theorem y_nilp {a : Addr} (hx : ev l x = some (.pointer (some a))) : Does P n l w ⟨ds, .nilCheck x, ty, pos, af, gd⟩ (.pointer (some a)) w := fun f hf => by simp [execOp, hf.eval hx]
theorem y_nili {t : TypeId} (hx : ev l x = some (.iface t v)) : Does P n l w ⟨ds, .nilCheck x, ty, pos, af, gd⟩ (.iface t v) w := fun f hf => by simp [execOp, hf.eval hx]
theorem y_field {s i off g o : Nat} (hx : ev l x = some (.pointer (some ⟨g, o, none⟩))) (h : Fld P s i off) : Does P n l w ⟨ds, .fieldAddr s x i, ty, pos, af, gd⟩ (.pointer (some ⟨g, o + off, none⟩)) w := fun a ha => by
  simp only [execOp, ha.eval hx, Sem.run_bind, h g o w, Result.andThen_ok, Sem.run_pure]
theorem y_len {t e : TypeId} {a : Option Addr} {m c : Nat} (hx : ev l x = some (.slice a m c)) (ht : P.underlying t = some (.slice e)) :
    Does P n l w ⟨ds, .call { callee := .builtin .len, args := #[x], argTypes := #[t] }, ty, pos, af, gd⟩ (.int .i64 (m : Int)) w := fun f hf => by
  simp [execOp, resolve, invoke, builtin, Builtin.len_, run_underlying ht, hf.eval hx, goInt]
theorem y_lens {t : TypeId} {s : ByteArray} (hx : ev l x = some (.string s)) (ht : P.underlying t = some .string) :
    Does P n l w ⟨ds, .call { callee := .builtin .len, args := #[x], argTypes := #[t] }, ty, pos, af, gd⟩ (.int .i64 (s.size : Int)) w := fun f hf => by
  simp [execOp, resolve, invoke, builtin, Builtin.len_, run_underlying ht, hf.eval hx, goInt]
theorem y_ix {t e : TypeId} {g o m c : Nat} {k : IntKind} {i : Int} (hx : ev l x = some (.slice (some ⟨g, o, none⟩) m c)) (hy : ev l y = some (.int k i)) (ht : P.underlying t = some (.slice e)) (hs : Siz P e 1) (h0 : 0 ≤ i) (h1 : i < m) :
    Does P n l w ⟨ds, .indexAddr t x y, ty, pos, af, gd⟩ (.pointer (some ⟨g, o + i.toNat, none⟩)) w := fun f hf => by
  simp [execOp, hf.eval hx, hf.eval hy, Instr.indexAt, asIntOf, run_underlying ht, hs w, h0, h1, Addr.add_lit]
/-- an index that is a number of its own -/
theorem y_ixn {t e : TypeId} {g o m c : Nat} {k : IntKind} {i : Nat} (hx : ev l x = some (.slice (some ⟨g, o, none⟩) m c)) (hy : ev l y = some (.int k (i : Int))) (ht : P.underlying t = some (.slice e)) (hs : Siz P e 1) (h1 : i < m) :
    Does P n l w ⟨ds, .indexAddr t x y, ty, pos, af, gd⟩ (.pointer (some ⟨g, o + i, none⟩)) w := by
  have := y_ix (n := n) (w := w) (ds := ds) (ty := ty) (pos := pos) (af := af) (gd := gd) hx hy ht hs (by omega) (by omega)
  simpa using this
theorem y_ixa {t e : TypeId} {g o N : Nat} {k : IntKind} {i : Nat} (hx : ev l x = some (.pointer (some ⟨g, o, none⟩))) (hy : ev l y = some (.int k (i : Int))) (ht : P.underlying t = some (.array N e)) (hs : Siz P e 1) (h1 : i < N) :
    Does P n l w ⟨ds, .indexAddr t x y, ty, pos, af, gd⟩ (.pointer (some ⟨g, o + i, none⟩)) w := fun f hf => by
  simp [execOp, hf.eval hx, hf.eval hy, Instr.indexAt, asIntOf, run_underlying ht, hs w, h1, Addr.add_lit, Instr.sureAddr]
theorem y_load {t : TypeId} {a : Addr} (hx : ev l x = some (.pointer (some a))) (hp : Plain P t) (hc : w.cell? a = some v) : Does P n l w ⟨ds, .load t x, ty, pos, af, gd⟩ v w := fun f hf => by
  simp [execOp, hf.eval hx, Instr.loadAt, Instr.sureAddr, loadVar, hp w, load, Sem.run, hc]
theorem s_store {t : TypeId} {a : Addr} (hx : ev l x = some (.pointer (some a))) (hy : ev l y = some v) (h1 : v.oneCell' = true) (hs : Siz P t 1) (hc : w.cell? a = some u) (hf : w.frozen? a = false) :
    DoesS P n l w ⟨ds, .store t x y, ty, pos, af, gd⟩ (w.setCell a v) := fun f hfr => by
  have hcs : v.cells = #[v] := by cases v <;> first | rfl | cases h1
  simp only [execOp, hfr.eval hx, hfr.eval hy, Instr.storeAt, Instr.sureAddr, storeVar, hcs, Sem.run_bind, Sem.run_pure, Result.andThen_ok, hs w, storeCells, Addr.add_zero']
  simp [run_store P w a v _ h1, hc, hf]
theorem y_ext {i : Nat} {vs : List Value} (hx : ev l x = some (.tuple vs.toArray)) (hi : vs[i]? = some v) : Does P n l w ⟨ds, .extract x i, ty, pos, af, gd⟩ v w := fun f hf => by
  simp [execOp, hf.eval hx, Instr.extract, hi]
theorem y_iface {t : TypeId} (hx : ev l x = some v) (h : ∀ w, (Instr.makeInterface t v).run P w = .ok (.iface t v) w) : Does P n l w ⟨ds, .makeInterface t x, ty, pos, af, gd⟩ (.iface t v) w := fun f hf => by
  simp only [execOp, hf.eval hx, Sem.run_bind, h w, Result.andThen_ok, Sem.run_pure]
/-- integers -/
theorem wi64 {a : Int} (h0 : -9223372036854775808 ≤ a) (h1 : a ≤ 9223372036854775807) : IntKind.i64.wrap a = a := IntWalk.i64_in _ ⟨h0, h1⟩
section
variable {k : IntKind} {a b r : Int} {t t' : TypeId}
theorem y_add (hx : ev l x = some (.int k a)) (hy : ev l y = some (.int k b)) (hr : k.wrap (a + b) = r) : Does P n l w ⟨ds, .binOp .add t x y t', ty, pos, af, gd⟩ (.int k r) w := fun f hf => by
  simp [execOp, hf.eval hx, hf.eval hy, eqGuard_add, binOp_add, Op.intArith, hr]
theorem y_sub (hx : ev l x = some (.int k a)) (hy : ev l y = some (.int k b)) (hr : k.wrap (a - b) = r) : Does P n l w ⟨ds, .binOp .sub t x y t', ty, pos, af, gd⟩ (.int k r) w := fun f hf => by
  simp [execOp, hf.eval hx, hf.eval hy, eqGuard_sub, binOp_sub, Op.intArith, hr]
theorem y_mul (hx : ev l x = some (.int k a)) (hy : ev l y = some (.int k b)) (hr : k.wrap (a * b) = r) : Does P n l w ⟨ds, .binOp .mul t x y t', ty, pos, af, gd⟩ (.int k r) w := fun f hf => by
  simp [execOp, hf.eval hx, hf.eval hy, eqGuard_mul, binOp_mul, Op.intArith, hr]
theorem y_quo (hx : ev l x = some (.int .i64 a)) (hy : ev l y = some (.int .i64 b)) (h0 : 0 ≤ a) (h1 : a ≤ 9223372036854775807) (hb : 1 ≤ b) : Does P n l w ⟨ds, .binOp .quo t x y t', ty, pos, af, gd⟩ (.int .i64 (a / b)) w := fun f hf => by
  have hb0 : ¬ b = 0 := by omega
  have hd : a.tdiv b = a / b := Int.tdiv_eq_ediv_of_nonneg h0
  have h2 : a / b ≤ a := Int.ediv_le_self _ h0
  have h3 : 0 ≤ a / b := Int.ediv_nonneg h0 (by omega)
  simp [execOp, hf.eval hx, hf.eval hy, eqGuard_quo, binOp_quo, Op.intDiv, hb0, hd, wi64 (a := a / b) (by omega) (by omega)]
theorem y_rem (hx : ev l x = some (.int .i64 a)) (hy : ev l y = some (.int .i64 b)) (h0 : 0 ≤ a) (hb : 1 ≤ b) : Does P n l w ⟨ds, .binOp .rem t x y t', ty, pos, af, gd⟩ (.int .i64 (a % b)) w := fun f hf => by
  have hb0 : ¬ b = 0 := by omega
  have hd : a.tmod b = a % b := Int.tmod_eq_emod_of_nonneg h0
  simp [execOp, hf.eval hx, hf.eval hy, eqGuard_rem, binOp_rem, Op.intDiv, hb0, hd]
theorem y_lss (hx : ev l x = some (.int k a)) (hy : ev l y = some (.int k b)) : Does P n l w ⟨ds, .binOp .lss t x y t', ty, pos, af, gd⟩ (.bool (decide (a < b))) w := fun f hf => by
  simp [execOp, hf.eval hx, hf.eval hy, eqGuard_lss, binOp_lss]
theorem y_leq (hx : ev l x = some (.int k a)) (hy : ev l y = some (.int k b)) : Does P n l w ⟨ds, .binOp .leq t x y t', ty, pos, af, gd⟩ (.bool (decide (a ≤ b))) w := fun f hf => by
  simp [execOp, hf.eval hx, hf.eval hy, eqGuard_leq, binOp_leq]
theorem y_gtr (hx : ev l x = some (.int k a)) (hy : ev l y = some (.int k b)) : Does P n l w ⟨ds, .binOp .gtr t x y t', ty, pos, af, gd⟩ (.bool (decide (b < a))) w := fun f hf => by
  simp [execOp, hf.eval hx, hf.eval hy, eqGuard_gtr, binOp_gtr]
theorem y_geq (hx : ev l x = some (.int k a)) (hy : ev l y = some (.int k b)) : Does P n l w ⟨ds, .binOp .geq t x y t', ty, pos, af, gd⟩ (.bool (decide (b ≤ a))) w := fun f hf => by
  simp [execOp, hf.eval hx, hf.eval hy, eqGuard_geq, binOp_geq]
theorem y_eql (hx : ev l x = some (.int k a)) (hy : ev l y = some (.int k b)) : Does P n l w ⟨ds, .binOp .eql t x y t', ty, pos, af, gd⟩ (.bool (decide (a = b))) w := fun f hf => by
  simp [execOp, hf.eval hx, hf.eval hy, eqGuard_at_int, binOp_eql]; rfl
theorem y_neq (hx : ev l x = some (.int k a)) (hy : ev l y = some (.int k b)) : Does P n l w ⟨ds, .binOp .neq t x y t', ty, pos, af, gd⟩ (.bool (decide (a ≠ b))) w := fun f hf => by
  simp [execOp, hf.eval hx, hf.eval hy, eqGuard_at_int, binOp_neq]
  by_cases h : a = b <;> simp [h]
/-- tests that are decided -/
theorem y_lssT (hx : ev l x = some (.int k a)) (hy : ev l y = some (.int k b)) (h : a < b) : Does P n l w ⟨ds, .binOp .lss t x y t', ty, pos, af, gd⟩ (.bool true) w := by
  have := y_lss (P := P) (n := n) (w := w) (ds := ds) (ty := ty) (pos := pos) (af := af) (gd := gd) (t := t) (t' := t') hx hy
  rwa [decide_eq_true h] at this
theorem y_lssF (hx : ev l x = some (.int k a)) (hy : ev l y = some (.int k b)) (h : ¬ (a < b)) : Does P n l w ⟨ds, .binOp .lss t x y t', ty, pos, af, gd⟩ (.bool false) w := by
  have := y_lss (P := P) (n := n) (w := w) (ds := ds) (ty := ty) (pos := pos) (af := af) (gd := gd) (t := t) (t' := t') hx hy
  rwa [decide_eq_false h] at this
theorem y_leqT (hx : ev l x = some (.int k a)) (hy : ev l y = some (.int k b)) (h : a ≤ b) : Does P n l w ⟨ds, .binOp .leq t x y t', ty, pos, af, gd⟩ (.bool true) w := by
  have := y_leq (P := P) (n := n) (w := w) (ds := ds) (ty := ty) (pos := pos) (af := af) (gd := gd) (t := t) (t' := t') hx hy
  rwa [decide_eq_true h] at this
theorem y_leqF (hx : ev l x = some (.int k a)) (hy : ev l y = some (.int k b)) (h : ¬ (a ≤ b)) : Does P n l w ⟨ds, .binOp .leq t x y t', ty, pos, af, gd⟩ (.bool false) w := by
  have := y_leq (P := P) (n := n) (w := w) (ds := ds) (ty := ty) (pos := pos) (af := af) (gd := gd) (t := t) (t' := t') hx hy
  rwa [decide_eq_false h] at this
theorem y_gtrT (hx : ev l x = some (.int k a)) (hy : ev l y = some (.int k b)) (h : b < a) : Does P n l w ⟨ds, .binOp .gtr t x y t', ty, pos, af, gd⟩ (.bool true) w := by
  have := y_gtr (P := P) (n := n) (w := w) (ds := ds) (ty := ty) (pos := pos) (af := af) (gd := gd) (t := t) (t' := t') hx hy
  rwa [decide_eq_true h] at this
theorem y_gtrF (hx : ev l x = some (.int k a)) (hy : ev l y = some (.int k b)) (h : ¬ (b < a)) : Does P n l w ⟨ds, .binOp .gtr t x y t', ty, pos, af, gd⟩ (.bool false) w := by
  have := y_gtr (P := P) (n := n) (w := w) (ds := ds) (ty := ty) (pos := pos) (af := af) (gd := gd) (t := t) (t' := t') hx hy
  rwa [decide_eq_false h] at this
theorem y_geqT (hx : ev l x = some (.int k a)) (hy : ev l y = some (.int k b)) (h : b ≤ a) : Does P n l w ⟨ds, .binOp .geq t x y t', ty, pos, af, gd⟩ (.bool true) w := by
  have := y_geq (P := P) (n := n) (w := w) (ds := ds) (ty := ty) (pos := pos) (af := af) (gd := gd) (t := t) (t' := t') hx hy
  rwa [decide_eq_true h] at this
theorem y_geqF (hx : ev l x = some (.int k a)) (hy : ev l y = some (.int k b)) (h : ¬ (b ≤ a)) : Does P n l w ⟨ds, .binOp .geq t x y t', ty, pos, af, gd⟩ (.bool false) w := by
  have := y_geq (P := P) (n := n) (w := w) (ds := ds) (ty := ty) (pos := pos) (af := af) (gd := gd) (t := t) (t' := t') hx hy
  rwa [decide_eq_false h] at this
theorem y_eqlT (hx : ev l x = some (.int k a)) (hy : ev l y = some (.int k b)) (h : a = b) : Does P n l w ⟨ds, .binOp .eql t x y t', ty, pos, af, gd⟩ (.bool true) w := by
  have := y_eql (P := P) (n := n) (w := w) (ds := ds) (ty := ty) (pos := pos) (af := af) (gd := gd) (t := t) (t' := t') hx hy
  rwa [decide_eq_true h] at this
theorem y_eqlF (hx : ev l x = some (.int k a)) (hy : ev l y = some (.int k b)) (h : ¬ (a = b)) : Does P n l w ⟨ds, .binOp .eql t x y t', ty, pos, af, gd⟩ (.bool false) w := by
  have := y_eql (P := P) (n := n) (w := w) (ds := ds) (ty := ty) (pos := pos) (af := af) (gd := gd) (t := t) (t' := t') hx hy
  rwa [decide_eq_false h] at this
theorem y_neqT (hx : ev l x = some (.int k a)) (hy : ev l y = some (.int k b)) (h : a ≠ b) : Does P n l w ⟨ds, .binOp .neq t x y t', ty, pos, af, gd⟩ (.bool true) w := by
  have := y_neq (P := P) (n := n) (w := w) (ds := ds) (ty := ty) (pos := pos) (af := af) (gd := gd) (t := t) (t' := t') hx hy
  rwa [decide_eq_true h] at this
theorem y_neqF (hx : ev l x = some (.int k a)) (hy : ev l y = some (.int k b)) (h : ¬ (a ≠ b)) : Does P n l w ⟨ds, .binOp .neq t x y t', ty, pos, af, gd⟩ (.bool false) w := by
  have := y_neq (P := P) (n := n) (w := w) (ds := ds) (ty := ty) (pos := pos) (af := af) (gd := gd) (t := t) (t' := t') hx hy
  rwa [decide_eq_false h] at this
theorem y_conv {k' : IntKind} {d : TypeDesc} (hx : ev l x = some (.int k' a)) (hs : P.underlying t = some d) (hd : P.underlying t' = some (.int k)) (hr : k.wrap a = r) : Does P n l w ⟨ds, .convert t t' x, ty, pos, af, gd⟩ (.int k r) w := fun f hf => by
  have := run_convert_int (P := P) (w := w) t t' k' a
  simp [execOp, hf.eval hx, convert, run_underlying hs, run_underlying hd, Conv.intToInt, hr]
end
theorem y_not {b : Bool} {t : TypeId} (hx : ev l x = some (.bool b)) : Does P n l w ⟨ds, .unOp .not t x, ty, pos, af, gd⟩ (.bool (!b)) w := fun f hf => by
  simp [execOp, hf.eval hx, Op.unary]
theorem y_ixs {t : TypeId} {s : ByteArray} {k : IntKind} {i : Nat} {c : UInt8} (hx : ev l x = some (.string s)) (hy : ev l y = some (.int k (i : Int))) (ht : P.underlying t = some .string) (hc : s.data.toList[i]? = some c) :
    Does P n l w ⟨ds, .index t x y, ty, pos, af, gd⟩ (u8 c) w := fun f hf => by
  have hi : s[i]? = some c := by
    obtain ⟨d⟩ := s
    simp only [Array.getElem?_toList] at hc
    obtain ⟨hlt, he⟩ := Array.getElem?_eq_some_iff.1 hc
    have hlt' : i < (ByteArray.mk d).size := hlt
    have e1 : (ByteArray.mk d)[i]? = some ((ByteArray.mk d)[i]'hlt') := getElem?_pos (ByteArray.mk d) i hlt'
    rw [e1]
    exact congrArg some he
  simp [execOp, hf.eval hx, hf.eval hy, Instr.index, asIntOf, run_underlying ht, hi, u8]
/-- cuts of a slice -/
theorem y_cutl {t e : TypeId} {a : Option Addr} {m c i : Nat} {k : IntKind} (hx : ev l x = some (.slice a m c)) (hy : ev l y = some (.int k (i : Int))) (ht : P.underlying t = some (.slice e)) (hs : Siz P e 1) (h : i ≤ m) :
    Does P n l w ⟨ds, .slice t x (some y) none none, ty, pos, af, gd⟩ (.slice (if c = i then a else a.map (·.add i)) (m - i) (c - i)) w := fun f hf => by
  simp [execOp, hf.eval hx, hf.eval hy, Instr.sliceAt, Instr.slice, Instr.sliceBounds, Instr.sliceBound, asIntOf, run_underlying ht, hs w, h]
theorem y_cuth {t e : TypeId} {a : Option Addr} {m c i : Nat} {k : IntKind} (hx : ev l x = some (.slice a m c)) (hy : ev l y = some (.int k (i : Int))) (ht : P.underlying t = some (.slice e)) (hs : Siz P e 1) (h : i ≤ c) :
    Does P n l w ⟨ds, .slice t x none (some y) none, ty, pos, af, gd⟩ (.slice a i c) w := fun f hf => by
  have h2 : a.map (·.add 0) = a := by cases a <;> simp [Addr.add_zero']
  simp [execOp, hf.eval hx, hf.eval hy, Instr.sliceAt, Instr.slice, Instr.sliceBounds, Instr.sliceBound, asIntOf, run_underlying ht, hs w, h, h2]
theorem y_cutlh {t e : TypeId} {a : Option Addr} {m c i j : Nat} {k k' : IntKind} (hx : ev l x = some (.slice a m c)) (hy : ev l y = some (.int k (i : Int))) (hz : ev l z = some (.int k' (j : Int))) (ht : P.underlying t = some (.slice e)) (hs : Siz P e 1) (h : i ≤ j) (h' : j ≤ c) :
    Does P n l w ⟨ds, .slice t x (some y) (some z) none, ty, pos, af, gd⟩ (.slice (if c = i then a else a.map (·.add i)) (j - i) (c - i)) w := fun f hf => by
  simp [execOp, hf.eval hx, hf.eval hy, hf.eval hz, Instr.sliceAt, Instr.slice, Instr.sliceBounds, Instr.sliceBound, asIntOf, run_underlying ht, hs w, h, h']
theorem y_arr {t e : TypeId} {g o N : Nat} (hx : ev l x = some (.pointer (some ⟨g, o, none⟩))) (ht : P.underlying t = some (.array N e)) (hs : Siz P e 1) :
    Does P n l w ⟨ds, .slice t x none none none, ty, pos, af, gd⟩ (.slice (some ⟨g, o, none⟩) N N) w := fun f hf => by
  simp [execOp, hf.eval hx, Instr.sliceAt, Instr.sureAddr, Instr.sliceBounds, run_underlying ht, hs w, Addr.add_zero']
theorem y_arrlh {t e : TypeId} {g o N i j : Nat} {k k' : IntKind} (hx : ev l x = some (.pointer (some ⟨g, o, none⟩))) (hy : ev l y = some (.int k (i : Int))) (hz : ev l z = some (.int k' (j : Int))) (ht : P.underlying t = some (.array N e)) (hs : Siz P e 1) (h : i ≤ j) (h' : j ≤ N) (hi : i < N) :
    Does P n l w ⟨ds, .slice t x (some y) (some z) none, ty, pos, af, gd⟩ (.slice (some ⟨g, o + i, none⟩) (j - i) (N - i)) w := fun f hf => by
  have h4 : ¬ N = i := by omega
  simp [execOp, hf.eval hx, hf.eval hy, hf.eval hz, Instr.sliceAt, Instr.sureAddr, Instr.sliceBounds, Instr.sliceBound, asIntOf, run_underlying ht, hs w, h, h', h4, Addr.add_lit]
theorem y_arrl {t e : TypeId} {g o N i : Nat} {k : IntKind} (hx : ev l x = some (.pointer (some ⟨g, o, none⟩))) (hy : ev l y = some (.int k (i : Int))) (ht : P.underlying t = some (.array N e)) (hs : Siz P e 1) (hi : i < N) :
    Does P n l w ⟨ds, .slice t x (some y) none none, ty, pos, af, gd⟩ (.slice (some ⟨g, o + i, none⟩) (N - i) (N - i)) w := fun f hf => by
  have h1 := Nat.le_of_lt hi
  have h4 : ¬ N = i := by omega
  simp [execOp, hf.eval hx, hf.eval hy, Instr.sliceAt, Instr.sureAddr, Instr.sliceBounds, Instr.sliceBound, asIntOf, run_underlying ht, hs w, h1, h4, Addr.add_lit]
theorem y_arrh {t e : TypeId} {g o N j : Nat} {k : IntKind} (hx : ev l x = some (.pointer (some ⟨g, o, none⟩))) (hy : ev l y = some (.int k (j : Int))) (ht : P.underlying t = some (.array N e)) (hs : Siz P e 1) (hi : j ≤ N) :
    Does P n l w ⟨ds, .slice t x none (some y) none, ty, pos, af, gd⟩ (.slice (some ⟨g, o, none⟩) j N) w := fun f hf => by
  simp [execOp, hf.eval hx, hf.eval hy, Instr.sliceAt, Instr.sureAddr, Instr.sliceBounds, Instr.sliceBound, asIntOf, run_underlying ht, hs w, hi, Addr.add_zero']
/-- strings -/
theorem y_scutl {t : TypeId} {s : ByteArray} {i : Nat} {k : IntKind} (hx : ev l x = some (.string s)) (hy : ev l y = some (.int k (i : Int))) (ht : P.underlying t = some .string) (h : i ≤ s.size) :
    Does P n l w ⟨ds, .slice t x (some y) none none, ty, pos, af, gd⟩ (.string (s.extract i s.size)) w := fun f hf => by
  simp [execOp, hf.eval hx, hf.eval hy, Instr.sliceAt, Instr.slice, Instr.sliceBounds, Instr.sliceBound, asIntOf, run_underlying ht, h]
theorem y_scuth {t : TypeId} {s : ByteArray} {i : Nat} {k : IntKind} (hx : ev l x = some (.string s)) (hy : ev l y = some (.int k (i : Int))) (ht : P.underlying t = some .string) (h : i ≤ s.size) :
    Does P n l w ⟨ds, .slice t x none (some y) none, ty, pos, af, gd⟩ (.string (s.extract 0 i)) w := fun f hf => by
  simp [execOp, hf.eval hx, hf.eval hy, Instr.sliceAt, Instr.slice, Instr.sliceBounds, Instr.sliceBound, asIntOf, run_underlying ht, h]
/-- the comparison of an interface value with nil -/
theorem y_eqnil {t t' : TypeId} (hx : ev l x = some .nilIface) (h : ∀ w, (Op.equal t .nilIface .nilIface).run P w = .ok true w) : Does P n l w ⟨ds, .binOp .eql t x (.const .nilIface) t', ty, pos, af, gd⟩ (.bool true) w := fun f hf => by
  have hc : f.eval (.const .nilIface) = .nilIface := rfl
  simp [execOp, hf.eval hx, hc, eqGuard_nil_constR, binOp, h w]
theorem y_nenil {t t' : TypeId} (hx : ev l x = some .nilIface) (h : ∀ w, (Op.equal t .nilIface .nilIface).run P w = .ok true w) : Does P n l w ⟨ds, .binOp .neq t x (.const .nilIface) t', ty, pos, af, gd⟩ (.bool false) w := fun f hf => by
  have hc : f.eval (.const .nilIface) = .nilIface := rfl
  simp [execOp, hf.eval hx, hc, eqGuard_nil_constR, binOp, h w]
end

end Go.Proofs.Ytmbglgepomeilaa
