/-
  A REGION THAT DRAWS ITS ORDER, WITH LOADS BESIDE CALLS: a condition on the world is kept through it; what yields its value under it is taken first. No program in sight.
-/
import Derived.Test.YtmbglgepomeilaaLaw
namespace Go.Proofs.Ytmbglgepomeilaa
open Go.RowKit
def AH (P : Program) (ops : Array Oper) (Q : Exit → Act → World → Prop) (K : World → Prop) (fuel : Nat) (listed : Array Bool) (n : Nat) (l : Env) (w : World) : Prop :=
  ∀ a, Fr n l a → wpAnyH P .any ops (NoPanic Q) K fuel listed a w
section
variable {P : Program} {ops : Array Oper} {Q : Exit → Act → World → Prop} {K : World → Prop} {fuel : Nat} {listed : Array Bool} {n : Nat} {l : Env} {w w' : World} {v : Value} {d : Nat} {op : Op} {ty : TypeId} {pos : String} {af : Array Edge}
theorem C.held {id : Nat} {os : List Oper} (K : World → Prop) (hm : P.follows .mixedOrders = true) (h : AH P os.toArray Q K os.length (Array.replicate os.length false) n l w.drew) : C P (.region id os.toArray true) Q n l w := fun a ha =>
  wp_region_noPanic (wp_region_held hm (by have := h a ha; simpa using this))
theorem AH.take (i : Nat) (hi : ops[i]? = some ⟨some d, op, ty, pos, af, none⟩) (hs : Region.noSelect ops = true) (hf : Region.free .any ops listed i = true) (hr : (Region.ready .any ops listed).contains i = true)
    (hy : ∀ w, K w → Does P n l w ⟨some d, op, ty, pos, af, none⟩ v w) (hK : K w) (hd : Nat.blt d n = true) (h : AH P ops Q K fuel (listed.setIfInBounds i true) n ((d, v) :: l) w) : AH P ops Q K (fuel + 1) listed n l w := fun a ha =>
  wpAnyH_take hi hs hf hr (fun _ _ _ hq => hq.elim) (.inl ⟨rfl, fun w hw => hy w hw a ha⟩) hK (h _ (ha.put hd v))
theorem AH.one (i : Nat) (hi : ops[i]? = some ⟨some d, op, ty, pos, af, none⟩) (hr : Region.ready .any ops listed = [i])
    (hy : Does P n l w ⟨some d, op, ty, pos, af, none⟩ v w') (hd : Nat.blt d n = true) (hK : K w') (h : AH P ops Q K fuel (listed.setIfInBounds i true) n ((d, v) :: l) w') : AH P ops Q K (fuel + 1) listed n l w := fun a ha =>
  wpAnyH_all hr (by simp) fun j hj => by
    obtain rfl : j = i := by simpa using hj
    unfold wpOp
    simp only [hi, Region.wanted, if_true]
    refine .inl ?_
    unfold Oper.wp
    rw [hy a ha]
    exact ⟨hK, h _ (ha.put hd v)⟩
theorem AH.oneS (i : Nat) (hi : ops[i]? = some ⟨none, op, ty, pos, af, none⟩) (hr : Region.ready .any ops listed = [i])
    (hy : DoesS P n l w ⟨none, op, ty, pos, af, none⟩ w') (hK : K w') (h : AH P ops Q K fuel (listed.setIfInBounds i true) n l w') : AH P ops Q K (fuel + 1) listed n l w := fun a ha =>
  wpAnyH_all hr (by simp) fun j hj => by
    obtain rfl : j = i := by simpa using hj
    unfold wpOp
    simp only [hi, Region.wanted, if_true]
    refine .inl ?_
    unfold Oper.wp
    rw [hy a ha]
    exact ⟨hK, h _ ha⟩
theorem AH.done (hr : Region.ready .any ops listed = []) (h : E Q .normal n l w) : AH P ops Q K fuel listed n l w := fun a ha => wpAnyH_done (Q := NoPanic Q) hr (h a ha) _
theorem AH.oneCall (i : Nat) {f : FuncId} {xs : List Operand} {ats : Array TypeId} {vs : List Value} {R : Value → World → Prop} (hi : ops[i]? = some ⟨some d, .call { callee := .value (.func f), args := xs.toArray, argTypes := ats }, ty, pos, af, none⟩)
    (hr : Region.ready .any ops listed = [i]) (he : Enters P f) (hv : evs l xs = some vs) (hc : Ret P f vs.toArray w R) (hd : Nat.blt d n = true)
    (h : ∀ v w', R v w' → K w' ∧ AH P ops Q K fuel (listed.setIfInBounds i true) n ((d, v) :: l) w') : AH P ops Q K (fuel + 1) listed n l w := fun a ha =>
  wpAnyH_all hr (by simp) fun j hj => by
    obtain rfl : j = i := by simpa using hj
    unfold wpOp
    simp only [hi, Region.wanted, if_true]
    refine .inl ?_
    unfold Oper.wp
    rw [exec_call he ha hv]
    simp only [Oper.upon]
    refine Calls.mono hc ?_
    rintro e w' ⟨v, rfl, r⟩
    exact ⟨(h v w' r).1, (h v w' r).2 _ (ha.put hd v)⟩
theorem AH.oneInv {xs : List Operand} {ats : Array TypeId} {vs : List Value} {f : FuncId} {R : Value → World → Prop} (i : Nat) {x : Operand} {name : String} {t : TypeId} {p : Addr}
    (hi : ops[i]? = some ⟨some d, .call { callee := .invoke x name, args := xs.toArray, argTypes := ats }, ty, pos, af, none⟩)
    (hr : Region.ready .any ops listed = [i]) (he : Enters P f) (hm : Meth P t name f) (hx : ev l x = some (.iface t (.pointer (some p)))) (hv : evs l xs = some vs) (hc : Ret P f (.pointer (some p) :: vs).toArray w R) (hd : Nat.blt d n = true)
    (h : ∀ v w', R v w' → K w' ∧ AH P ops Q K fuel (listed.setIfInBounds i true) n ((d, v) :: l) w') : AH P ops Q K (fuel + 1) listed n l w := fun a ha =>
  wpAnyH_all hr (by simp) fun j hj => by
    obtain rfl : j = i := by simpa using hj
    unfold wpOp
    simp only [hi, Region.wanted, if_true]
    refine .inl ?_
    unfold Oper.wp
    rw [exec_invoke he hm ha hx hv]
    simp only [Oper.upon]
    refine Calls.mono hc ?_
    rintro e w' ⟨v, rfl, r⟩
    exact ⟨(h v w' r).1, (h v w' r).2 _ (ha.put hd v)⟩
end
end Go.Proofs.Ytmbglgepomeilaa
