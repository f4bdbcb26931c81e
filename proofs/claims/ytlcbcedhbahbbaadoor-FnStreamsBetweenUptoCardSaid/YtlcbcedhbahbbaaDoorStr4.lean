/-
  A decoder of base64: what it will still give. No program in sight.
-/
import Derived.Test.YtlcbcedhbahbbaaDoorStr3
namespace Go.Proofs.YtlcbcedhbahbbaaDoor
open Go.RowKit
theorem nums_cut64 {s : List UInt8} {vs1 vs2 : List Nat} {nr : Nat} (h : vs1 ++ vs2 = Pl.nums 6 s) (hc : vs1.length = nr ∨ vs2 = []) (h4 : nr % 4 = 0) : (∃ t, vs1 = Pl.nums 6 t) ∧ ∃ t, vs2 = Pl.nums 6 t := by
  by_cases h2 : vs2 = []
  · subst h2
    rw [List.append_nil] at h
    exact ⟨⟨s, h⟩, ⟨[], rfl⟩⟩
  · have h1 : vs1.length = nr := hc.resolve_right h2
    have hl := congrArg List.length h
    rw [List.length_append, Pl.nums_length] at hl
    have hle : nr / 4 * 3 ≤ s.length := by unfold Pl.nlet at hl; omega
    have htl : (s.take (nr / 4 * 3)).length = nr / 4 * 3 := by rw [List.length_take]; omega
    have hap := Pl.nums_append (bits := 6) (k := nr) (by omega) (s.take (nr / 4 * 3)) (s.drop (nr / 4 * 3)) (by rw [htl]; omega)
    rw [List.take_append_drop] at hap
    rw [hap] at h
    have hl1 : vs1.length = (Pl.nums 6 (s.take (nr / 4 * 3))).length := by rw [Pl.nums_length, htl, h1]; unfold Pl.nlet; omega
    have := List.append_inj h hl1
    exact ⟨⟨_, this.1⟩, ⟨_, this.2⟩⟩
/-- the end of an array, cut off -/
theorem y_arrlG {P : Program} {n : Nat} {l : Env} {w : World} {ds : Option Tmp} {ty t e : TypeId} {pos : String} {af : Array Edge} {gd : Option (Nat × Bool)} {x y : Operand} {g o N i : Nat} {k : IntKind} (hx : ev l x = some (.pointer (some ⟨g, o, none⟩))) (hy : ev l y = some (.int k (i : Int))) (ht : P.underlying t = some (.array N e)) (hs : Siz P e 1) (hi : i ≤ N) :
    Does P n l w ⟨ds, .slice t x (some y) none none, ty, pos, af, gd⟩ (.slice (some ⟨g, if N = i then o else o + i, none⟩) (N - i) (N - i)) w := fun f hf => by
  by_cases h4 : N = i
  · subst h4
    simp [execOp, hf.eval hx, hf.eval hy, Instr.sliceAt, Instr.sureAddr, Instr.sliceBounds, Instr.sliceBound, asIntOf, run_underlying ht, hs w]
  · simp [execOp, hf.eval hx, hf.eval hy, Instr.sliceAt, Instr.sureAddr, Instr.sliceBounds, Instr.sliceBound, asIntOf, run_underlying ht, hs w, hi, h4, Addr.add_lit]
def St64 (td TF tf TG tg tr : TypeId) (w : World) (gd gc gf gg gr : Nat) (al : List UInt8) (pad : Int) (st : Bool) (eo : Value) (D : List UInt8) : Prop :=
  ∃ (ds : Array Value) (L R O : List UInt8) (vs : List Nat) (re : Bool), Bk w gd ds td (0, 0) ∧ DF 768 ds .nilIface (bif re then eo else .nilIface) (.pointer (some ⟨gc, 0, none⟩)) (.iface TF (.pointer (some ⟨gf, 0, none⟩))) L L.length ∧ OF 768 ds gd O ∧ Src tf TG tg tr w gf gg gr R ∧ L.length < 4 ∧ (re = true → R = []) ∧
    L ++ R = vs.map (Pl.letter al) ++ Pl.pads 4 pad vs.length ∧ (∀ v ∈ vs, v < 64) ∧ (∃ q, vs.length = Pl.nlet 6 q) ∧ (st = true → ∃ s, vs = Pl.nums 6 s) ∧ D = O ++ Pl.unpack 6 vs ∧ vs.length ≤ 1000000000000
theorem St64.kept {td TF tf TG tg tr : TypeId} {w w' : World} {gd gc gf gg gr : Nat} {al : List UInt8} {pad : Int} {st : Bool} {eo : Value} {D : List UInt8} {S : Nat → Prop} (h : St64 td TF tf TG tg tr w gd gc gf gg gr al pad st eo D) (hk : Kp S w w') (h0 : ¬ S gd) (h1 : ¬ S gf) (h2 : ¬ S gg) (h3 : ¬ S gr) :
    St64 td TF tf TG tg tr w' gd gc gf gg gr al pad st eo D := by
  obtain ⟨ds, L, R, O, vs, re, hb, hF, hO, hS, r⟩ := h
  exact ⟨ds, L, R, O, vs, re, hb.kept hk h0, hF, hO, hS.kept hk h1 h2 h3, r⟩
end Go.Proofs.YtlcbcedhbahbbaaDoor
