/-
  Numbers in rows, counts of a reader, streams kept. No program in sight.
-/
import Derived.Test.YtlcbcedhbahbbaaDoorStq
namespace Go.Proofs.YtlcbcedhbahbbaaDoor
open Go.RowKit
def iv (zs : List Int) : List Value := zs.map (Value.int .i64)
@[simp] theorem iv_length (zs : List Int) : (iv zs).length = zs.length := by simp [iv]
theorem iv_append (a b : List Int) : iv (a ++ b) = iv a ++ iv b := by simp [iv]
theorem one_iv (zs : List Int) : ∀ u ∈ iv zs, u.oneCell' = true := by
  intro u hu
  obtain ⟨z, _, rfl⟩ := List.mem_map.1 hu
  rfl
theorem one_str (ts : List (List UInt8)) : ∀ u ∈ ts.map str, u.oneCell' = true := by
  intro u hu
  obtain ⟨z, _, rfl⟩ := List.mem_map.1 hu
  rfl
/-- what the counts of a reader say -/
def Cnt (zs ks : List Int) (n : Nat) : Prop := ks.sum = (n : Int) ∧ ∀ (i : Nat) (k : Int), ks[i]? = some k → 0 ≤ k ∧ ∀ z, zs[i % zs.length]? = some z → k ≤ z
theorem Cnt.nil (zs : List Int) : Cnt zs [] 0 := ⟨rfl, fun i k h => by simp at h⟩
theorem Cnt.more {zs ks : List Int} {n k : Nat} {z : Int} (h : Cnt zs ks n) (hz : zs[ks.length % zs.length]? = some z) (hk : (k : Int) ≤ z) : Cnt zs (ks ++ [(k : Int)]) (n + k) := by
  refine ⟨by rw [List.sum_append, h.1]; simp, fun i x hx => ?_⟩
  by_cases hi : i < ks.length
  · rw [List.getElem?_append_left hi] at hx
    exact h.2 i x hx
  · have hl := (List.getElem?_eq_some_iff.1 hx).1
    rw [List.length_append, List.length_singleton] at hl
    obtain rfl : i = ks.length := by omega
    rw [List.getElem?_append_right (Nat.le_refl _), Nat.sub_self] at hx
    injection hx with hx
    subst hx
    refine ⟨by omega, fun z' hz' => ?_⟩
    rw [hz] at hz'
    injection hz' with hz'
    omega
theorem St32.kept {td TF tf TG tg tr : TypeId} {w w' : World} {gd gc gf gg gr : Nat} {al : List UInt8} {pad : Int} {D : List UInt8} {S : Nat → Prop} (h : St32 td TF tf TG tg tr w gd gc gf gg gr al pad D) (hk : Kp S w w') (h0 : ¬ S gd) (h1 : ¬ S gf) (h2 : ¬ S gg) (h3 : ¬ S gr) :
    St32 td TF tf TG tg tr w' gd gc gf gg gr al pad D := by
  obtain ⟨ds, L, R, O, vs, e, hb, hF, hO, hS, r⟩ := h
  exact ⟨ds, L, R, O, vs, e, hb.kept hk h0, hF, hO, hS.kept hk h1 h2 h3, r⟩
theorem eof_kept {w w' : World} {S : Nat → Prop} {v : Value} (h : w.cell? ⟨0, 0, none⟩ = some v) (hk : Kp S w w') (hs : ¬ S 0) : w'.cell? ⟨0, 0, none⟩ = some v := by
  rw [← h]
  exact World.cell?_of_block (hk.block 0 (World.block_lt_of_cell? w _ h) hs)
theorem y_build1 {P : Program} {n : Nat} {l : Env} {w : World} {ds : Option Tmp} {ty t : TypeId} {pos : String} {af : Array Edge} {gd : Option (Nat × Bool)} {x : Operand} {v r : Value} {i : Nat} (hx : ev l x = some v) (hr : (Instr.build t #[(i, v)]).run P w = .ok r w) : Does P n l w ⟨ds, .build t #[(i, x)], ty, pos, af, gd⟩ r w := fun f hf => by
  have h : (#[(i, x)].map fun (p : Nat × Operand) => (p.1, f.eval p.2)) = #[(i, v)] := by simp [hf.eval hx]
  have h' : (#[(i, x)].map fun | (a, b) => (a, f.eval b)) = #[(i, v)] := h
  simp only [execOp, h', Sem.run_bind, hr, Result.andThen_ok, Sem.run_pure]
/-- one cell of what can be read -/
theorem Rd.get {w : World} {A : Option Addr} {r : List Value} (h : Rd w A r) (hr : r ≠ []) : ∃ g o, A = some ⟨g, o, none⟩ ∧ g < w.heap.size ∧ ∀ (i : Nat) (u : Value), r[i]? = some u → w.cell? ⟨g, o + i, none⟩ = some u := by
  obtain ⟨g, o, e, hc⟩ := h.resolve_left hr
  refine ⟨g, o, e, ?_, hc⟩
  have hl := List.length_pos_iff.2 hr
  exact World.block_lt_of_cell? w _ (hc 0 r[0] (List.getElem?_eq_getElem hl))
end Go.Proofs.YtlcbcedhbahbbaaDoor
