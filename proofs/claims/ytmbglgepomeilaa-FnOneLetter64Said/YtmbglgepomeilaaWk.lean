/-
  A WALKER OVER ENVIRONMENTS: a frame is known by a list of slots and what they hold (newest first); each operation by one law. No program in sight.
-/
import Derived.WalkKit
import Derived.StillTailTactics
import Derived.Lib.Hide
import Derived.Deep.RegionHeld3
namespace Go.Proofs.Ytmbglgepomeilaa
open Go.RowKit

abbrev Env := List (Nat × Value)
def look : Env → Nat → Option Value
  | [], _ => none
  | p :: r, j => bif Nat.beq p.1 j then some p.2 else look r j
def ev (l : Env) : Operand → Option Value
  | .tmp t => look l t
  | .const v => some v
  | .global g => some (.pointer (some ⟨g, 0, none⟩))
  | .func f => some (.func (.func f) #[] #[])
def evs (l : Env) : List Operand → Option (List Value)
  | [] => some []
  | x :: r => (ev l x).bind fun v => (evs l r).map (v :: ·)

def Fr (n : Nat) (l : Env) (a : Act) : Prop := a.tmps.size = n ∧ a.defers = [] ∧ ∀ j v, look l j = some v → a.tmps[j]? = some v

theorem Fr.eval {n : Nat} {l : Env} {a : Act} {x : Operand} {v : Value} (h : Fr n l a) (hx : ev l x = some v) : a.eval x = v := by
  cases x with
  | tmp t =>
    have := h.2.2 t v hx
    simp [Act.eval, this]
  | const u => simpa [ev, Act.eval] using hx
  | global g => simpa [ev, Act.eval] using hx
  | func f => simpa [ev, Act.eval] using hx

theorem Fr.evals {n : Nat} {l : Env} {a : Act} (h : Fr n l a) : ∀ {xs : List Operand} {vs : List Value}, evs l xs = some vs → xs.map a.eval = vs
  | [], vs, hx => by simpa [evs] using hx
  | x :: r, vs, hx => by
    simp only [evs, Option.bind_eq_some_iff, Option.map_eq_some_iff] at hx
    obtain ⟨v, hv, us, hus, rfl⟩ := hx
    rw [List.map_cons, h.eval hv, h.evals hus]

theorem Fr.put {n : Nat} {l : Env} {a : Act} {d : Nat} (h : Fr n l a) (hd : Nat.blt d n = true) (v : Value) : Fr n ((d, v) :: l) (a.put (some d) v) := by
  obtain ⟨h1, h2, h3⟩ := h
  have hd' : d < n := by simpa [Nat.blt_eq] using hd
  refine ⟨by simp [Act.put, h1], h2, fun j u hj => ?_⟩
  simp only [look] at hj
  by_cases e : d = j
  · subst e
    simp at hj
    subst hj
    simp [Act.put, h1, hd']
  · have : Nat.beq d j = false := by
      cases hb : Nat.beq d j with
      | false => rfl
      | true => exact absurd (Nat.eq_of_beq_eq_true hb) e
    rw [this] at hj
    simp only [cond_false] at hj
    simp only [Act.put]
    rw [Array.getElem?_setIfInBounds_ne e]
    exact h3 j u hj

def Sub (l' l : Env) : Prop := ∀ j v, look l' j = some v → look l j = some v
theorem Sub.refl (l : Env) : Sub l l := fun _ _ h => h
theorem Sub.nil (l : Env) : Sub [] l := fun _ _ h => by cases h
theorem Sub.cons {l r : Env} {k : Nat} {v : Value} (h : look l k = some v) (hs : Sub r l) : Sub ((k, v) :: r) l := by
  intro j u hj
  simp only [look] at hj
  cases hb : Nat.beq k j with
  | true =>
    rw [hb] at hj
    simp at hj
    rw [← Nat.eq_of_beq_eq_true hb, ← hj]
    exact h
  | false =>
    rw [hb] at hj
    exact hs j u hj
theorem Sub.tail {l : Env} {k : Nat} {v : Value} (h : look l k = none) : Sub l ((k, v) :: l) := by
  intro j u hj
  simp only [look]
  cases hb : Nat.beq k j with
  | true => rw [← Nat.eq_of_beq_eq_true hb, h] at hj; cases hj
  | false => exact hj
theorem Fr.sub {n : Nat} {l l' : Env} {a : Act} (h : Fr n l a) (hs : Sub l' l) : Fr n l' a := ⟨h.1, h.2.1, fun j v hj => h.2.2 j v (hs j v hj)⟩

/-- the operation gives a value -/
def Does (P : Program) (n : Nat) (l : Env) (w : World) (o : Oper) (v : Value) (w' : World) : Prop :=
  ∀ a, Fr n l a → (execOp a.eval o).run P w = .ok (.value v) w'
/-- the operation gives none -/
def DoesS (P : Program) (n : Nat) (l : Env) (w : World) (o : Oper) (w' : World) : Prop :=
  ∀ a, Fr n l a → (execOp a.eval o).run P w = .ok .skip w'

/-- a list of operations -/
def W (P : Program) (ops : Array Oper) (Q : Exit → Act → World → Prop) (rest : List Oper) (n : Nat) (l : Env) (w : World) : Prop :=
  ∀ a, Fr n l a → wpList P ops Q rest a w
def S (P : Program) (ops : Array Oper) (Q : Act → Prop) (rest : List Oper) (n : Nat) (l : Env) (w : World) : Prop :=
  ∀ a, Fr n l a → wpStill P ops w Q rest a
/-- a piece of code -/
def C (P : Program) (c : Code) (Q : Exit → Act → World → Prop) (n : Nat) (l : Env) (w : World) : Prop :=
  ∀ a, Fr n l a → c.wp P Q a w
/-- an end of a piece of code -/
def E (Q : Exit → Act → World → Prop) (e : Exit) (n : Nat) (l : Env) (w : World) : Prop := ∀ a, Fr n l a → Q e a w

section
variable {P : Program} {ops : Array Oper} {Q : Exit → Act → World → Prop} {rest : List Oper} {n : Nat} {l : Env} {w w' : World} {v : Value} {d : Nat} {op : Op} {ty : TypeId} {pos : String} {af : Array Edge}

theorem W.y (h : Does P n l w ⟨some d, op, ty, pos, af, none⟩ v w') (hd : Nat.blt d n = true) (hr : W P ops Q rest n ((d, v) :: l) w') :
    W P ops Q (⟨some d, op, ty, pos, af, none⟩ :: rest) n l w := fun a ha =>
  wpList_plain rfl fun K hK => by
    unfold Oper.wp
    rw [h a ha]
    exact hK _ _ (hr _ (ha.put hd v))
/-- a value that nobody keeps -/
theorem W.nk (h : Does P n l w ⟨none, op, ty, pos, af, none⟩ v w') (hr : W P ops Q rest n l w') :
    W P ops Q (⟨none, op, ty, pos, af, none⟩ :: rest) n l w := fun a ha =>
  wpList_plain rfl fun K hK => by
    unfold Oper.wp
    rw [h a ha]
    exact hK _ _ (hr _ ha)
theorem W.s (h : DoesS P n l w ⟨none, op, ty, pos, af, none⟩ w') (hr : W P ops Q rest n l w') :
    W P ops Q (⟨none, op, ty, pos, af, none⟩ :: rest) n l w := fun a ha =>
  wpList_plain rfl fun K hK => by
    unfold Oper.wp
    rw [h a ha]
    exact hK _ _ (hr _ ha)
theorem W.fin (h : E Q .normal n l w) : W P ops Q [] n l w := fun a ha => wpList_nil (h a ha)

theorem yielded_of {a : Act} {j dj : Nat} {b : Bool} (ha : Fr n l a) (hj : (ops[j]?).bind (·.dst) = some dj) (hb : look l dj = some (.bool b)) : yielded ops a.tmps j = some b := by
  unfold yielded
  rw [hj, Option.bind_some, ha.2.2 dj _ hb]
/-- a guard that says yes -/
theorem W.gy {j dj : Nat} {b : Bool} (hj : (ops[j]?).bind (·.dst) = some dj) (hb : look l dj = some (.bool b)) (h : Does P n l w ⟨some d, op, ty, pos, af, some (j, b)⟩ v w') (hd : Nat.blt d n = true)
    (hr : W P ops Q rest n ((d, v) :: l) w') : W P ops Q (⟨some d, op, ty, pos, af, some (j, b)⟩ :: rest) n l w := fun a ha =>
  wpList_step fun K hK => by
    simp only [Region.wanted, yielded_of ha hj hb, beq_self_eq_true, if_true]
    unfold Oper.wp
    rw [h a ha]
    exact hK _ _ (hr _ (ha.put hd v))
/-- a guard that says no -/
theorem W.gn {j dj : Nat} {b : Bool} (hj : (ops[j]?).bind (·.dst) = some dj) (hb : look l dj = some (.bool (!b))) (hd : Nat.blt d n = true)
    (hr : W P ops Q rest n ((d, undef) :: l) w) : W P ops Q (⟨some d, op, ty, pos, af, some (j, b)⟩ :: rest) n l w := fun a ha =>
  wpList_step fun K hK => by
    have : (some (!b) == some b) = false := by cases b <;> rfl
    simp only [Region.wanted, yielded_of ha hj hb, this, Bool.false_eq_true, if_false]
    exact hK _ _ (hr _ (ha.put hd undef))
/-- a guard on an operation that was itself passed over -/
theorem W.gu {j dj : Nat} {b : Bool} (hj : (ops[j]?).bind (·.dst) = some dj) (hb : look l dj = some undef) (hd : Nat.blt d n = true)
    (hr : W P ops Q rest n ((d, undef) :: l) w) : W P ops Q (⟨some d, op, ty, pos, af, some (j, b)⟩ :: rest) n l w := fun a ha =>
  wpList_step fun K hK => by
    have : yielded ops a.tmps j = none := by unfold yielded; rw [hj, Option.bind_some, ha.2.2 dj _ hb]; rfl
    simp only [Region.wanted, this]
    exact hK _ _ (hr _ (ha.put hd undef))

theorem S.y {Q : Act → Prop} (h : Does P n l w ⟨some d, op, ty, pos, af, none⟩ v w) (hd : Nat.blt d n = true) (hr : S P ops Q rest n ((d, v) :: l) w) :
    S P ops Q (⟨some d, op, ty, pos, af, none⟩ :: rest) n l w := fun a ha =>
  wpStill_step fun K hK => by
    simp only [Region.wanted, if_true]
    unfold Oper.still
    rw [h a ha]
    exact ⟨rfl, hK _ (hr _ (ha.put hd v))⟩
theorem S.gy {Q : Act → Prop} {j dj : Nat} {b : Bool} (hj : (ops[j]?).bind (·.dst) = some dj) (hb : look l dj = some (.bool b)) (h : Does P n l w ⟨some d, op, ty, pos, af, some (j, b)⟩ v w) (hd : Nat.blt d n = true)
    (hr : S P ops Q rest n ((d, v) :: l) w) : S P ops Q (⟨some d, op, ty, pos, af, some (j, b)⟩ :: rest) n l w := fun a ha =>
  wpStill_step fun K hK => by
    simp only [Region.wanted, yielded_of ha hj hb, beq_self_eq_true, if_true]
    unfold Oper.still
    rw [h a ha]
    exact ⟨rfl, hK _ (hr _ (ha.put hd v))⟩
theorem S.gn {Q : Act → Prop} {j dj : Nat} {b : Bool} (hj : (ops[j]?).bind (·.dst) = some dj) (hb : look l dj = some (.bool (!b))) (hd : Nat.blt d n = true)
    (hr : S P ops Q rest n ((d, undef) :: l) w) : S P ops Q (⟨some d, op, ty, pos, af, some (j, b)⟩ :: rest) n l w := fun a ha =>
  wpStill_step fun K hK => by
    have : (some (!b) == some b) = false := by cases b <;> rfl
    simp only [Region.wanted, yielded_of ha hj hb, this, Bool.false_eq_true, if_false]
    exact hK _ (hr _ (ha.put hd undef))
theorem S.gu {Q : Act → Prop} {j dj : Nat} {b : Bool} (hj : (ops[j]?).bind (·.dst) = some dj) (hb : look l dj = some undef) (hd : Nat.blt d n = true)
    (hr : S P ops Q rest n ((d, undef) :: l) w) : S P ops Q (⟨some d, op, ty, pos, af, some (j, b)⟩ :: rest) n l w := fun a ha =>
  wpStill_step fun K hK => by
    have : yielded ops a.tmps j = none := by unfold yielded; rw [hj, Option.bind_some, ha.2.2 dj _ hb]; rfl
    simp only [Region.wanted, this]
    exact hK _ (hr _ (ha.put hd undef))
theorem S.fin {Q : Act → Prop} (h : ∀ a, Fr n l a → Q a) : S P ops Q [] n l w := fun a ha => wpStill_nil (h a ha)
theorem S.end_ (h : E Q .normal n l w) : S P ops (fun a => Q .normal a w) [] n l w := S.fin h
theorem S.tail {r : List Oper} (h : W P ops Q r n l w) : S P ops (fun a => wpList P ops Q r a w) [] n l w := S.fin h

/-- code -/
theorem C.reg {id : Nat} {os : List Oper} (h : W P os.toArray Q os n l w) : C P (.region id os.toArray false) Q n l w := fun a ha => wp_region_lit (h a ha)
theorem C.still {id : Nat} {os : List Oper} (hm : P.follows .mixedOrders = true) (hB : Region.lexB .any os.toArray = true) (h : S P os.toArray (fun a => Q .normal a w.drew) os n l w.drew) :
    C P (.region id os.toArray true) Q n l w := fun a ha => wp_region_still_lit hm hB (h a ha)
theorem C.stillTail {id : Nat} {os : List Oper} (k : Nat) (hm : P.follows .mixedOrders = true) (hB : Region.lexTailB .any os.toArray k = true)
    (h : S P os.toArray (fun a => wpList P os.toArray Q (os.drop k) a w.drew) (os.take k) n l w.drew) :
    C P (.region id os.toArray true) Q n l w := fun a ha => wp_region_still_tail k hm hB (h a ha)
theorem C.seq {x y : Code} (h : C P x (Exit.then (y.wp P Q) Q) n l w) : C P (.seq x y) Q n l w := fun a ha => wp_seq (h a ha)
theorem C.block {id : Nat} {c : Code} (h : C P c (Exit.inBlock id Q) n l w) : C P (.block id c) Q n l w := fun a ha => wp_block (h a ha)
theorem C.skip (h : E Q .normal n l w) : C P .skip Q n l w := fun a ha => wp_skip (h a ha)
theorem C.exit {id : Nat} (h : E Q (.exit id) n l w) : C P (.exit id) Q n l w := fun a ha => wp_exit (h a ha)
theorem C.ret (h : E Q .ret n l w) : C P .ret Q n l w := fun a ha => wp_ret (h a ha)
theorem C.yes {c : Operand} {x y : Code} (hc : ev l c = some (.bool true)) (h : C P x Q n l w) : C P (.cond c x y) Q n l w := fun a ha => wp_cond_true (ha.eval hc) (h a ha)
theorem C.no {c : Operand} {x y : Code} (hc : ev l c = some (.bool false)) (h : C P y Q n l w) : C P (.cond c x y) Q n l w := fun a ha => wp_cond_false (ha.eval hc) (h a ha)
theorem C.if_ {c : Operand} {x y : Code} {p : Prop} [Decidable p] (hc : ev l c = some (.bool (decide p))) (ht : p → C P x Q n l w) (hf : ¬ p → C P y Q n l w) : C P (.cond c x y) Q n l w := by
  intro a ha
  by_cases hp : p
  · exact wp_cond_true (by rw [ha.eval hc, decide_eq_true hp]) (ht hp a ha)
  · exact wp_cond_false (by rw [ha.eval hc, decide_eq_false hp]) (hf hp a ha)
theorem C.ifB {c : Operand} {x y : Code} {b : Bool} (hc : ev l c = some (.bool b)) (ht : b = true → C P x Q n l w) (hf : b = false → C P y Q n l w) : C P (.cond c x y) Q n l w := by
  intro a ha
  cases b
  · exact wp_cond_false (ha.eval hc) (hf rfl a ha)
  · exact wp_cond_true (ha.eval hc) (ht rfl a ha)
theorem C.sub {c : Code} {l' : Env} (hs : Sub l' l) (h : C P c Q n l' w) : C P c Q n l w := fun a ha => h a (ha.sub hs)
theorem W.sub {l' : Env} (hs : Sub l' l) (h : W P ops Q rest n l' w) : W P ops Q rest n l w := fun a ha => h a (ha.sub hs)
theorem E.sub {e : Exit} {l' : Env} (hs : Sub l' l) (h : E Q e n l' w) : E Q e n l w := fun a ha => h a (ha.sub hs)

theorem E.next {y : Code} (h : C P y Q n l w) : E (Exit.then (y.wp P Q) Q) .normal n l w := h
theorem E.thenExit {f : Act → World → Prop} {id : Nat} (h : E Q (.exit id) n l w) : E (Exit.then f Q) (.exit id) n l w := h
theorem E.thenRet {f : Act → World → Prop} (h : E Q .ret n l w) : E (Exit.then f Q) .ret n l w := h
theorem E.blockNormal {id : Nat} (h : E Q .normal n l w) : E (Exit.inBlock id Q) .normal n l w := h
theorem E.blockRet {id : Nat} (h : E Q .ret n l w) : E (Exit.inBlock id Q) .ret n l w := h
theorem E.blockOut {id : Nat} (h : E Q .normal n l w) : E (Exit.inBlock id Q) (.exit id) n l w := fun a ha => by simp only [Exit.inBlock, if_true]; exact h a ha
theorem E.blockFar {id id' : Nat} (hne : Nat.beq id' id = false) (h : E Q (.exit id') n l w) : E (Exit.inBlock id Q) (.exit id') n l w := fun a ha => by
  have : ¬ id' = id := fun e => by rw [e, Nat.beq_refl] at hne; cases hne
  simp only [Exit.inBlock, if_neg this]; exact h a ha
end

/-- a loop by states of one's own -/
theorem wp_loop_on {P : Program} {Q : Exit → Act → World → Prop} {c : Code} {σ : Type} (I : σ → Act → World → Prop) (μ : σ → Nat)
    (round : ∀ s a w, I s a w → c.wp P (Exit.then (fun a' w' => ∃ s', I s' a' w' ∧ μ s' < μ s) Q) a w) {s0 : σ} {a : Act} {w : World} (h₀ : I s0 a w) : (Code.loop c).wp P Q a w := by
  intro b k cs
  have key : ∀ n s a w, μ s = n → I s a w →
      ∃ e a' w', Q e a' w' ∧ Arrives P (lone (b.at a (.code c :: .inLoop c :: k)) cs w) b k cs e a' w' := by
    intro n
    induction n using Nat.strongRecOn with
    | _ n ih =>
      intro s a w hn hI
      obtain ⟨e, a₁, w₁, hq, harr⟩ := round s a w hI b (.inLoop c :: k) cs
      cases e with
      | normal =>
        obtain ⟨s₁, hI₁, hlt⟩ := hq
        obtain ⟨e₂, a₂, w₂, hq₂, harr₂⟩ := ih (μ s₁) (hn ▸ hlt) s₁ a₁ w₁ rfl hI₁
        exact ⟨e₂, a₂, w₂, hq₂, .of_steps (Steps.trans harr (.one step_inLoop)) harr₂⟩
      | exit id => exact ⟨_, a₁, w₁, hq, .pass (x := .inLoop c) rfl (fun _ _ => .inl (by simp)) harr⟩
      | goto l => exact ⟨_, a₁, w₁, hq, .pass (x := .inLoop c) rfl (fun _ _ => .inl (by simp)) harr⟩
      | ret => exact ⟨_, a₁, w₁, hq, .pass (x := .inLoop c) rfl (fun _ _ => .inl (by simp)) harr⟩
      | panic ch => exact ⟨_, a₁, w₁, hq, .pass (x := .inLoop c) rfl (fun _ _ => .inl (by simp)) harr⟩
      | outgrown => exact ⟨_, a₁, w₁, hq, .pass (x := .inLoop c) rfl (fun _ _ => .inl (by simp)) harr⟩
  obtain ⟨e, a', w', hq, harr⟩ := key _ s0 a w rfl h₀
  exact ⟨e, a', w', hq, .of_steps (.one step_loop) harr⟩

/-- what a round's end owes -/
def Again {σ : Type} (n : Nat) (inv : σ → World → Prop) (env : σ → Env) (μ : σ → Nat) (s : σ) (a : Act) (w : World) : Prop :=
  ∃ s', (inv s' w ∧ Fr n (env s') a) ∧ μ s' < μ s

theorem C.loop {P : Program} {Q : Exit → Act → World → Prop} {n : Nat} {l : Env} {w : World} {c : Code} {σ : Type} (inv : σ → World → Prop) (env : σ → Env) (μ : σ → Nat) (s0 : σ) (h0 : inv s0 w) (hs : Sub (env s0) l)
    (round : ∀ s w, inv s w → C P c (Exit.then (Again n inv env μ s) Q) n (env s) w) : C P (.loop c) Q n l w := fun _ ha =>
  wp_loop_on (fun s a w => inv s w ∧ Fr n (env s) a) μ (fun s a w ⟨h1, h2⟩ => round s w h1 a h2) (s0 := s0) ⟨h0, ha.sub hs⟩

theorem E.again {Q : Exit → Act → World → Prop} {n : Nat} {l : Env} {w : World} {σ : Type} {inv : σ → World → Prop} {env : σ → Env} {μ : σ → Nat} {s : σ} (s' : σ) (h : inv s' w) (hs : Sub (env s') l) (hm : μ s' < μ s) :
    E (Exit.then (Again n inv env μ s) Q) .normal n l w := fun _ ha => ⟨s', ⟨h, ha.sub hs⟩, hm⟩

/-- where ways meet again -/
theorem C.mid {P : Program} {Q : Exit → Act → World → Prop} {n : Nat} {l : Env} {w : World} {x y : Code} {σ : Type} (M : σ → World → Prop) (env : σ → Env)
    (hx : C P x (Exit.then (fun a w => ∃ s, M s w ∧ Fr n (env s) a) Q) n l w) (hy : ∀ s w, M s w → C P y Q n (env s) w) : C P (.seq x y) Q n l w := fun a ha =>
  wp_seq (Code.wp_mono (fun e a w h => by
    cases e with
    | normal => obtain ⟨s, h1, h2⟩ := h; exact hy s w h1 a h2
    | _ => exact h) (hx a ha))
theorem E.mid {Q : Exit → Act → World → Prop} {n : Nat} {l : Env} {w : World} {σ : Type} {M : σ → World → Prop} {env : σ → Env} (s : σ) (h : M s w) (hs : Sub (env s) l) :
    E (Exit.then (fun a w => ∃ s, M s w ∧ Fr n (env s) a) Q) .normal n l w := fun _ ha => ⟨s, h, ha.sub hs⟩

/-- a call that comes back -/
def Ret (P : Program) (f : FuncId) (args : Array Value) (w : World) (R : Value → World → Prop) : Prop :=
  Calls P f args w fun e w' => ∃ v, e = .returned v ∧ R v w'
theorem Ret.mono {P : Program} {f : FuncId} {args : Array Value} {w : World} {R R' : Value → World → Prop} (h : Ret P f args w R) (hr : ∀ v w', R v w' → R' v w') : Ret P f args w R' :=
  Calls.mono h fun _ _ ⟨v, e, r⟩ => ⟨v, e, hr v _ r⟩

def env0 : Nat → List Value → Env
  | _, [] => []
  | i, v :: r => (i, v) :: env0 (i + 1) r
theorem look_env0 : ∀ (vs : List Value) (i j : Nat) (v : Value), look (env0 i vs) j = some v → i ≤ j ∧ vs[j - i]? = some v
  | [], i, j, v, h => by cases h
  | u :: r, i, j, v, h => by
    simp only [env0, look] at h
    cases hb : Nat.beq i j with
    | true =>
      rw [hb] at h
      have e := Nat.eq_of_beq_eq_true hb
      subst e
      simp at h
      simp [h]
    | false =>
      rw [hb] at h
      have ⟨h1, h2⟩ := look_env0 r (i + 1) j v h
      refine ⟨by omega, ?_⟩
      have e : j - i = (j - (i + 1)) + 1 := by omega
      rw [e, List.getElem?_cons_succ]
      exact h2

theorem ret_of {P : Program} {f : FuncId} {fn : Func} {c : Code} {vs : List Value} {n : Nat} {w : World} {R : Value → World → Prop}
    (hf : P.funcs[f]? = some fn) (hb : fn.body = some c) (hn : fn.ntmps = n) (hl : vs.length ≤ n)
    (h : C P c (bodyPost P fn fun e w' => ∃ v, e = .returned v ∧ R v w') n (env0 0 vs) w) : Ret P f vs.toArray w R := by
  refine calls_of_wp hf hb (h _ ⟨?_, rfl, ?_⟩)
  · simp [hn]; omega
  · intro j v hj
    have ⟨_, h2⟩ := look_env0 vs 0 j v hj
    have hlt : j < vs.length := by
      rcases Nat.lt_or_ge j vs.length with h | h
      · exact h
      · simp [List.getElem?_eq_none h] at h2
    simp only [Nat.sub_zero] at h2
    rw [Array.getElem?_append_left (by simpa using hlt)]
    simpa using h2

section
variable {P : Program} {fn : Func} {R : Value → World → Prop} {n : Nat} {l : Env} {w : World}
theorem E.ret0 (hr : fn.results = #[]) (h : R (.tuple #[]) w) : E (bodyPost P fn fun e w' => ∃ v, e = .returned v ∧ R v w') .ret n l w :=
  fun _ ha => ⟨ha.2.1, _, results_none hr _ _ _, _, rfl, h⟩
theorem E.end0 (hr : fn.results = #[]) (h : R (.tuple #[]) w) : E (bodyPost P fn fun e w' => ∃ v, e = .returned v ∧ R v w') .normal n l w :=
  fun _ ha => ⟨ha.2.1, _, results_none hr _ _ _, _, rfl, h⟩
theorem E.ret1 {t : Tmp} {v : Value} (hr : fn.results = #[.tmp t]) (hv : look l t = some v) (h : R v w) : E (bodyPost P fn fun e w' => ∃ v, e = .returned v ∧ R v w') .ret n l w :=
  fun _ ha => ⟨ha.2.1, _, results_tmp hr _ _ _, _, rfl, by have := ha.2.2 t v hv; simpa [this] using h⟩
theorem E.ret2 {t u : Tmp} {v x : Value} (hr : fn.results = #[.tmp t, .tmp u]) (hv : look l t = some v) (hx : look l u = some x) (h : R (.tuple #[v, x]) w) :
    E (bodyPost P fn fun e w' => ∃ v, e = .returned v ∧ R v w') .ret n l w :=
  fun _ ha => ⟨ha.2.1, _, results_tmp2 hr _ _ _, _, rfl, by have h1 := ha.2.2 t v hv; have h2 := ha.2.2 u x hx; simpa [h1, h2] using h⟩
theorem results_t3 {t u y : Tmp} (h : fn.results = #[.tmp t, .tmp u, .tmp y]) (tmps : Array Value) (P : Program) (w : World) :
    (results fn tmps).run P w = .ok (.tuple #[tmps.getD t undef, tmps.getD u undef, tmps.getD y undef]) w := by simp [results, h]
theorem E.ret3 {t u y : Tmp} {v x z : Value} (hr : fn.results = #[.tmp t, .tmp u, .tmp y]) (hv : look l t = some v) (hx : look l u = some x) (hz : look l y = some z) (h : R (.tuple #[v, x, z]) w) :
    E (bodyPost P fn fun e w' => ∃ v, e = .returned v ∧ R v w') .ret n l w :=
  fun _ ha => ⟨ha.2.1, _, results_t3 hr _ _ _, _, rfl, by have h1 := ha.2.2 t v hv; have h2 := ha.2.2 u x hx; have h3 := ha.2.2 y z hz; simpa [h1, h2, h3] using h⟩
end

/-- a call of a function that has a body -/
def Enters (P : Program) (f : FuncId) : Prop := ∀ args w, (callFunc f args).run P w = .ok (.enter f args) w
theorem enters_of {P : Program} {f : FuncId} {fn : Func} (hf : P.funcs[f]? = some fn) (hn : (fn.name == "runtime.NumGoroutine") = false) (hb : fn.body.isNone = false) : Enters P f := by
  intro args w
  have hn' : ¬ fn.name = "runtime.NumGoroutine" := by simpa using hn
  have hb' : ¬ fn.body = none := fun e => by rw [e] at hb; cases hb
  unfold callFunc
  simp [hf, hn', hb', program, Sem.run]

section
variable {P : Program} {ops : Array Oper} {Q : Exit → Act → World → Prop} {rest : List Oper} {n : Nat} {l : Env} {w : World} {d : Nat} {ty : TypeId} {pos : String} {af : Array Edge} {f : FuncId} {xs : List Operand} {ats : Array TypeId} {vs : List Value} {R : Value → World → Prop}

theorem exec_call {a : Act} {dst : Option Nat} {g : Option (Nat × Bool)} (he : Enters P f) (ha : Fr n l a) (hv : evs l xs = some vs) :
    (execOp a.eval ⟨dst, .call { callee := .value (.func f), args := xs.toArray, argTypes := ats }, ty, pos, af, g⟩).run P w = .ok (.enter f vs.toArray) w := by
  have h1 := ha.evals hv
  have h2 := he vs.toArray w
  have h3 : (xs.toArray.map a.eval) = vs.toArray := by rw [List.map_toArray, h1]
  simp only [execOp, resolve, Act.eval, Deferred.ofValue, invoke, Sem.run_bind, Sem.run_pure, Result.andThen_ok, Array.empty_append, Array.append_empty]
  rw [show (Array.map a.eval xs.toArray) = vs.toArray from h3]
  exact h2

theorem W.call (he : Enters P f) (hv : evs l xs = some vs) (hc : Ret P f vs.toArray w R) (hd : Nat.blt d n = true)
    (hr : ∀ v w', R v w' → W P ops Q rest n ((d, v) :: l) w') : W P ops Q (⟨some d, .call { callee := .value (.func f), args := xs.toArray, argTypes := ats }, ty, pos, af, none⟩ :: rest) n l w := fun a ha =>
  wpList_plain rfl fun K hK => by
    unfold Oper.wp
    rw [exec_call he ha hv]
    simp only [Oper.upon]
    refine Calls.mono hc ?_
    rintro e w' ⟨v, rfl, r⟩
    exact hK _ _ (hr v w' r _ (ha.put hd v))
theorem W.callN (he : Enters P f) (hv : evs l xs = some vs) (hc : Ret P f vs.toArray w R)
    (hr : ∀ v w', R v w' → W P ops Q rest n l w') : W P ops Q (⟨none, .call { callee := .value (.func f), args := xs.toArray, argTypes := ats }, ty, pos, af, none⟩ :: rest) n l w := fun a ha =>
  wpList_plain rfl fun K hK => by
    unfold Oper.wp
    rw [exec_call he ha hv]
    simp only [Oper.upon]
    refine Calls.mono hc ?_
    rintro e w' ⟨v, rfl, r⟩
    exact hK _ _ (hr v w' r _ ha)
end

/-- a region that draws its order: operations that look at no memory are taken first; then what alone is ready -/
def AN (P : Program) (ops : Array Oper) (Q : Exit → Act → World → Prop) (fuel : Nat) (listed : Array Bool) (n : Nat) (l : Env) (w : World) : Prop :=
  ∀ a, Fr n l a → wpAny P .any ops (NoPanic Q) fuel listed a w
section
variable {P : Program} {ops : Array Oper} {Q : Exit → Act → World → Prop} {fuel : Nat} {listed : Array Bool} {n : Nat} {l : Env} {w w' : World} {v : Value} {d : Nat} {op : Op} {ty : TypeId} {pos : String} {af : Array Edge}
theorem C.any {id : Nat} {os : List Oper} (hm : P.follows .mixedOrders = true) (h : AN P os.toArray Q os.length (Array.replicate os.length false) n l w.drew) : C P (.region id os.toArray true) Q n l w := fun a ha =>
  wp_region_noPanic (wp_region_any hm (by have := h a ha; simpa using this))
theorem AN.take (i : Nat) (hi : ops[i]? = some ⟨some d, op, ty, pos, af, none⟩) (hs : Region.noSelect ops = true) (hf : Region.free .any ops listed i = true) (hr : (Region.ready .any ops listed).contains i = true)
    (hy : ∀ w, Does P n l w ⟨some d, op, ty, pos, af, none⟩ v w) (hd : Nat.blt d n = true) (h : AN P ops Q fuel (listed.setIfInBounds i true) n ((d, v) :: l) w) : AN P ops Q (fuel + 1) listed n l w := fun a ha =>
  wpAny_take hi hs hf hr (fun _ _ _ hq => hq.elim) (.inl ⟨rfl, fun w => hy w a ha⟩) (h _ (ha.put hd v))
theorem AN.takeNo (i : Nat) {j dj : Nat} {b : Bool} (hi : ops[i]? = some ⟨some d, op, ty, pos, af, some (j, b)⟩) (hs : Region.noSelect ops = true) (hf : Region.free .any ops listed i = true)
    (hr : (Region.ready .any ops listed).contains i = true) (hj : (ops[j]?).bind (·.dst) = some dj) (hb : look l dj = some (.bool (!b))) (hd : Nat.blt d n = true)
    (h : AN P ops Q fuel (listed.setIfInBounds i true) n ((d, undef) :: l) w) : AN P ops Q (fuel + 1) listed n l w := fun a ha =>
  wpAny_take hi hs hf hr (fun _ _ _ hq => hq.elim) (.inr ⟨by
    have : (some (!b) == some b) = false := by cases b <;> rfl
    simp only [Region.wanted, yielded_of ha hj hb, this], rfl⟩) (h _ (ha.put hd undef))
theorem AN.takeYes (i : Nat) {j dj : Nat} {b : Bool} (hi : ops[i]? = some ⟨some d, op, ty, pos, af, some (j, b)⟩) (hs : Region.noSelect ops = true) (hf : Region.free .any ops listed i = true)
    (hr : (Region.ready .any ops listed).contains i = true) (hj : (ops[j]?).bind (·.dst) = some dj) (hb : look l dj = some (.bool b)) (hy : ∀ w, Does P n l w ⟨some d, op, ty, pos, af, some (j, b)⟩ v w) (hd : Nat.blt d n = true)
    (h : AN P ops Q fuel (listed.setIfInBounds i true) n ((d, v) :: l) w) : AN P ops Q (fuel + 1) listed n l w := fun a ha =>
  wpAny_take hi hs hf hr (fun _ _ _ hq => hq.elim) (.inl ⟨by simp only [Region.wanted, yielded_of ha hj hb, beq_self_eq_true], fun w => hy w a ha⟩) (h _ (ha.put hd v))
theorem AN.one (i : Nat) (hi : ops[i]? = some ⟨some d, op, ty, pos, af, none⟩) (hr : Region.ready .any ops listed = [i])
    (hy : Does P n l w ⟨some d, op, ty, pos, af, none⟩ v w') (hd : Nat.blt d n = true) (h : AN P ops Q fuel (listed.setIfInBounds i true) n ((d, v) :: l) w') : AN P ops Q (fuel + 1) listed n l w := fun a ha =>
  wpAny_all hr (by simp) fun j hj => by
    obtain rfl : j = i := by simpa using hj
    unfold wpOp
    simp only [hi, Region.wanted, if_true]
    refine .inl ?_
    unfold Oper.wp
    rw [hy a ha]
    exact h _ (ha.put hd v)
theorem AN.oneS (i : Nat) (hi : ops[i]? = some ⟨none, op, ty, pos, af, none⟩) (hr : Region.ready .any ops listed = [i])
    (hy : DoesS P n l w ⟨none, op, ty, pos, af, none⟩ w') (h : AN P ops Q fuel (listed.setIfInBounds i true) n l w') : AN P ops Q (fuel + 1) listed n l w := fun a ha =>
  wpAny_all hr (by simp) fun j hj => by
    obtain rfl : j = i := by simpa using hj
    unfold wpOp
    simp only [hi, Region.wanted, if_true]
    refine .inl ?_
    unfold Oper.wp
    rw [hy a ha]
    exact h _ ha
theorem AN.done (hr : Region.ready .any ops listed = []) (h : E Q .normal n l w) : AN P ops Q fuel listed n l w := fun a ha => wpAny_done (Q := NoPanic Q) hr (h a ha) _
theorem AN.oneCall (i : Nat) {f : FuncId} {xs : List Operand} {ats : Array TypeId} {vs : List Value} {R : Value → World → Prop} (hi : ops[i]? = some ⟨some d, .call { callee := .value (.func f), args := xs.toArray, argTypes := ats }, ty, pos, af, none⟩)
    (hr : Region.ready .any ops listed = [i]) (he : Enters P f) (hv : evs l xs = some vs) (hc : Ret P f vs.toArray w R) (hd : Nat.blt d n = true)
    (h : ∀ v w', R v w' → AN P ops Q fuel (listed.setIfInBounds i true) n ((d, v) :: l) w') : AN P ops Q (fuel + 1) listed n l w := fun a ha =>
  wpAny_all hr (by simp) fun j hj => by
    obtain rfl : j = i := by simpa using hj
    unfold wpOp
    simp only [hi, Region.wanted, if_true]
    refine .inl ?_
    unfold Oper.wp
    rw [exec_call he ha hv]
    simp only [Oper.upon]
    refine Calls.mono hc ?_
    rintro e w' ⟨v, rfl, r⟩
    exact h v w' r _ (ha.put hd v)
end

/-- a method called through an interface value: 'Meth P t name f': the dynamic type t has it as function f -/
def Meth (P : Program) (t : TypeId) (name : String) (f : FuncId) : Prop := ∀ a w, (method (P.types.size + Made.depth) t (.pointer (some a)) name).run P w = .ok (f, .pointer (some a)) w
section
variable {P : Program} {n : Nat} {l : Env} {w : World} {d : Nat} {ty : TypeId} {pos : String} {af : Array Edge} {f : FuncId} {xs : List Operand} {ats : Array TypeId} {vs : List Value} {R : Value → World → Prop}
theorem exec_invoke {a : Act} {dst : Option Nat} {g : Option (Nat × Bool)} {x : Operand} {name : String} {t : TypeId} {p : Addr} (he : Enters P f) (hm : Meth P t name f) (ha : Fr n l a) (hx : ev l x = some (.iface t (.pointer (some p)))) (hv : evs l xs = some vs) :
    (execOp a.eval ⟨dst, .call { callee := .invoke x name, args := xs.toArray, argTypes := ats }, ty, pos, af, g⟩).run P w = .ok (.enter f (.pointer (some p) :: vs).toArray) w := by
  have h1 := ha.evals hv
  have h0 := ha.eval hx
  have h3 : (xs.toArray.map a.eval) = vs.toArray := by rw [List.map_toArray, h1]
  have h2 := he (.pointer (some p) :: vs).toArray w
  have h4 : (#[Value.iface t (.pointer (some p))] ++ vs.toArray).extract 1 (#[Value.iface t (.pointer (some p))] ++ vs.toArray).size = vs.toArray := by simp
  have h5 : #[Value.pointer (some p)] ++ vs.toArray = (.pointer (some p) :: vs).toArray := by simp
  have h6 : (#[Value.iface t (.pointer (some p))] ++ vs.toArray)[0]? = some (.iface t (.pointer (some p))) := by simp
  simp only [execOp, resolve, invoke, Sem.run_bind, Sem.run_pure, Result.andThen_ok, h3, h0, h6, h4, callMethod, program, Sem.run, hm p w, h5]
  exact h2
theorem W.inv {ops : Array Oper} {Q : Exit → Act → World → Prop} {rest : List Oper} {x : Operand} {name : String} {t : TypeId} {p : Addr} (he : Enters P f) (hm : Meth P t name f) (hx : ev l x = some (.iface t (.pointer (some p)))) (hv : evs l xs = some vs)
    (hc : Ret P f (.pointer (some p) :: vs).toArray w R) (hd : Nat.blt d n = true)
    (hr : ∀ v w', R v w' → W P ops Q rest n ((d, v) :: l) w') : W P ops Q (⟨some d, .call { callee := .invoke x name, args := xs.toArray, argTypes := ats }, ty, pos, af, none⟩ :: rest) n l w := fun a ha =>
  wpList_plain rfl fun K hK => by
    unfold Oper.wp
    rw [exec_invoke he hm ha hx hv]
    simp only [Oper.upon]
    refine Calls.mono hc ?_
    rintro e w' ⟨v, rfl, r⟩
    exact hK _ _ (hr v w' r _ (ha.put hd v))
theorem W.gInv {ops : Array Oper} {Q : Exit → Act → World → Prop} {rest : List Oper} {x : Operand} {name : String} {t : TypeId} {p : Addr} {j dj : Nat} {b : Bool} (hj : (ops[j]?).bind (·.dst) = some dj) (hb : look l dj = some (.bool b))
    (he : Enters P f) (hm : Meth P t name f) (hx : ev l x = some (.iface t (.pointer (some p)))) (hv : evs l xs = some vs)
    (hc : Ret P f (.pointer (some p) :: vs).toArray w R) (hd : Nat.blt d n = true)
    (hr : ∀ v w', R v w' → W P ops Q rest n ((d, v) :: l) w') : W P ops Q (⟨some d, .call { callee := .invoke x name, args := xs.toArray, argTypes := ats }, ty, pos, af, some (j, b)⟩ :: rest) n l w := fun a ha =>
  wpList_step fun K hK => by
    simp only [Region.wanted, yielded_of ha hj hb, beq_self_eq_true, if_true]
    unfold Oper.wp
    rw [exec_invoke he hm ha hx hv]
    simp only [Oper.upon]
    refine Calls.mono hc ?_
    rintro e w' ⟨v, rfl, r⟩
    exact hK _ _ (hr v w' r _ (ha.put hd v))
theorem AN.oneInv {ops : Array Oper} {Q : Exit → Act → World → Prop} {fuel : Nat} {listed : Array Bool} (i : Nat) {x : Operand} {name : String} {t : TypeId} {p : Addr}
    (hi : ops[i]? = some ⟨some d, .call { callee := .invoke x name, args := xs.toArray, argTypes := ats }, ty, pos, af, none⟩)
    (hr : Region.ready .any ops listed = [i]) (he : Enters P f) (hm : Meth P t name f) (hx : ev l x = some (.iface t (.pointer (some p)))) (hv : evs l xs = some vs) (hc : Ret P f (.pointer (some p) :: vs).toArray w R) (hd : Nat.blt d n = true)
    (h : ∀ v w', R v w' → AN P ops Q fuel (listed.setIfInBounds i true) n ((d, v) :: l) w') : AN P ops Q (fuel + 1) listed n l w := fun a ha =>
  wpAny_all hr (by simp) fun j hj => by
    obtain rfl : j = i := by simpa using hj
    unfold wpOp
    simp only [hi, Region.wanted, if_true]
    refine .inl ?_
    unfold Oper.wp
    rw [exec_invoke he hm ha hx hv]
    simp only [Oper.upon]
    refine Calls.mono hc ?_
    rintro e w' ⟨v, rfl, r⟩
    exact h v w' r _ (ha.put hd v)
end

end Go.Proofs.Ytmbglgepomeilaa
