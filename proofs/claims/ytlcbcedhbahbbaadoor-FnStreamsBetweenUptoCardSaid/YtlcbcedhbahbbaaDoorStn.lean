/-
  More operations: interface values compared, a type asserted in vain, a string copied in part. No program in sight.
-/
import Derived.Test.YtlcbcedhbahbbaaDoorStm
import Derived.Test.YtlcbcedhbahbbaaDoorRoad
import Derived.LaidEql
namespace Go.Proofs.YtlcbcedhbahbbaaDoor
open Go.RowKit
section
variable {P : Program} {n : Nat} {l : Env} {w : World} {x y : Operand} {ds : Option Nat} {t t' ty : TypeId} {pos : String} {af : Array Edge} {gd : Option (Nat × Bool)}
/-- a value of an interface type that holds a pointer -/
structure Ifp (P : Program) (ti tp : TypeId) : Prop where
  un : ∃ ms, P.underlying ti = some (.interface ms)
  same : ∀ (a : Addr) (w : World), (binOp .eql ti (.iface tp (.pointer (some a))) (.iface tp (.pointer (some a)))).run P w = .ok (.bool true) w
theorem y_eqifS {tp : TypeId} {a : Addr} (hx : ev l x = some (.iface tp (.pointer (some a)))) (hy : ev l y = some (.iface tp (.pointer (some a)))) (h : Ifp P t tp) :
    Does P n l w ⟨ds, .binOp .eql t x y t', ty, pos, af, gd⟩ (.bool true) w := fun f hf => by
  simp [execOp, hf.eval hx, hf.eval hy, eqGuard, h.same a w]
theorem y_eqifN {u : TypeId} {v : Value} {ms : Array (String × TypeId)} (hx : ev l x = some (.iface u v)) (hi : P.underlying t = some (.interface ms)) :
    Does P n l w ⟨ds, .binOp .eql t x (.const .nilIface) t', ty, pos, af, gd⟩ (.bool false) w := fun f hf => by
  have hc : f.eval (.const .nilIface) = .nilIface := rfl
  have h : ∀ d : Nat, (Op.equalIn (d + 1) t (.iface u v) .nilIface).run P w = .ok false w := fun d => by simp [Op.equalIn, run_underlying hi]
  have h2 : (binOp .eql t (.iface u v) .nilIface).run P w = .ok (.bool false) w := by
    simp only [binOp]
    simp [Op.equal, Op.maxDepth, h 9999]
  simp [execOp, hf.eval hx, hc, eqGuard, h2]
theorem y_neifN {u : TypeId} {v : Value} {ms : Array (String × TypeId)} (hx : ev l x = some (.iface u v)) (hi : P.underlying t = some (.interface ms)) :
    Does P n l w ⟨ds, .binOp .neq t x (.const .nilIface) t', ty, pos, af, gd⟩ (.bool true) w := fun f hf => by
  have hc : f.eval (.const .nilIface) = .nilIface := rfl
  have h : ∀ d : Nat, (Op.equalIn (d + 1) t (.iface u v) .nilIface).run P w = .ok false w := fun d => by simp [Op.equalIn, run_underlying hi]
  have h2 : (binOp .neq t (.iface u v) .nilIface).run P w = .ok (.bool true) w := by
    simp only [binOp]
    simp [Op.equal, Op.maxDepth, h 9999]
  simp [execOp, hf.eval hx, hc, eqGuard, h2]
theorem y_tassF {u a xt : TypeId} {v z : Value} {k : IntKind} (hx : ev l x = some (.iface u v)) (ha : P.underlying a = some (.int k)) (hz : (zeroValue a).run P w = .ok z w) (hne : ¬ u = a) :
    Does P n l w ⟨ds, .typeAssert x xt a true, ty, pos, af, gd⟩ (.tuple #[z, .bool false]) w := fun f hf => by
  simp [execOp, hf.eval hx, Instr.typeAssert, run_underlying ha, hne, hz]
/-- copy from a string, as much as there is room for -/
theorem run_copySm {dT sT ty e g o dl dc k : Nat} {cs : Array Value} {bt : TypeId} {fz : Nat × Nat} {s : List UInt8} (hu : P.underlying dT = some (.slice e)) (hs : Siz P e 1) (hb : Bk w g cs bt fz) (hk : Nat.min s.length dl = k) (ho : o + k ≤ cs.size)
    (hf : o + k ≤ fz.1 ∨ fz.2 ≤ o) : (Builtin.copy_ #[dT, sT] ty #[.slice (some ⟨g, o, none⟩) dl dc, str s]).run P w = .ok (.int .i64 (k : Int)) (setCells w g o (bv (s.take k))) := by
  have hkl : k ≤ s.length := by rw [← hk]; exact Nat.min_le_left _ _
  have hl : (s.take k).length = k := by rw [List.length_take]; omega
  have hst := run_storeCells (P := P) (bv (s.take k)) 0 o cs w hb (by simpa [hl] using ho) (by simpa [hl] using hf) (one_u8 (s.take k))
  have hx : List.take k (List.map (fun b : UInt8 => Value.int .u8 b.toNat) s) = bv (s.take k) := by
    rw [← List.map_take]; rfl
  have hsz : (ByteArray.mk s.toArray).size = s.length := by simp [ByteArray.size]
  simp only [Nat.add_zero] at hst
  simp [Builtin.copy_, str, run_underlying hu, Builtin.lenOf, hsz, hk, hs w, Builtin.firstCells, hx, hst, goInt]
end
end Go.Proofs.YtlcbcedhbahbbaaDoor
