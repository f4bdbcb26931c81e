/-
  Laws for FnStreamRoads: min, max, slices of slices that are built in place. No program in sight.
-/
import Derived.Test.YtmbglgepomeilaaLaw
namespace Go.Proofs.Ytmbglgepomeilaa
open Go.RowKit
section
variable {P : Program} {n : Nat} {l : Env} {w : World} {x y z : Operand} {ds : Option Nat} {t t' e ty : TypeId} {pos : String} {af : Array Edge} {gd : Option (Nat × Bool)} {v u q : Value}
theorem y_min {a b r : Int} (hx : ev l x = some (.int .i64 a)) (hy : ev l y = some (.int .i64 b)) (hr : (if b < a then b else a) = r) :
    Does P n l w ⟨ds, .call { callee := .builtin .min, args := #[x, y], argTypes := #[t, t'] }, ty, pos, af, gd⟩ (.int .i64 r) w :=
  y_run2 (X := Builtin.min_ #[t, t'] ty #[.int .i64 a, .int .i64 b]) (fun _ => rfl) hx hy (by simp [Builtin.min_, Builtin.min2, hr])
theorem y_max {a b r : Int} (hx : ev l x = some (.int .i64 a)) (hy : ev l y = some (.int .i64 b)) (hr : (if a < b then b else a) = r) :
    Does P n l w ⟨ds, .call { callee := .builtin .max, args := #[x, y], argTypes := #[t, t'] }, ty, pos, af, gd⟩ (.int .i64 r) w :=
  y_run2 (X := Builtin.max_ #[t, t'] ty #[.int .i64 a, .int .i64 b]) (fun _ => rfl) hx hy (by simp [Builtin.max_, Builtin.max2, hr])
theorem cells_one {v : Value} (h1 : v.oneCell' = true) : v.cells = #[v] := by cases v <;> first | rfl | cases h1
theorem y_bs2 {b : Nat} (F : El P t e b) (hx : ev l x = some v) (hy : ev l y = some u) (h1 : v.oneCell' = true) (h2 : u.oneCell' = true) : Does P n l w ⟨ds, .buildSlice t 2 #[(0, x), (1, y)], ty, pos, af, gd⟩ (.slice (some ⟨w.heap.size, 0, none⟩) 2 2) (w.alloc (.cells #[v, u] e)) := fun f hf => by
  obtain ⟨i, z, hi, hz, hs, _, hzs⟩ := F.info
  have hz' : (zeroValue e).run P w = .ok z w := by simp [zeroValue, typeInfo, hi, hz]
  have hr : Array.range 2 = #[0, 1] := rfl
  simp [execOp, Instr.buildSlice, run_underlying F.und, F.siz w, Instr.fill, newRow, newObj, Sem.run, hf.eval hx, hf.eval hy, hz', cells_one h1, cells_one h2, hr]
theorem y_bs3 {b : Nat} (F : El P t e b) (hx : ev l x = some v) (hy : ev l y = some u) (hq : ev l z = some q) (h1 : v.oneCell' = true) (h2 : u.oneCell' = true) (h3 : q.oneCell' = true) :
    Does P n l w ⟨ds, .buildSlice t 3 #[(0, x), (1, y), (2, z)], ty, pos, af, gd⟩ (.slice (some ⟨w.heap.size, 0, none⟩) 3 3) (w.alloc (.cells #[v, u, q] e)) := fun f hf => by
  obtain ⟨i, z0, hi, hz, hs, _, hzs⟩ := F.info
  have hz' : (zeroValue e).run P w = .ok z0 w := by simp [zeroValue, typeInfo, hi, hz]
  have hr : Array.range 3 = #[0, 1, 2] := rfl
  simp [execOp, Instr.buildSlice, run_underlying F.und, F.siz w, Instr.fill, newRow, newObj, Sem.run, hf.eval hx, hf.eval hy, hf.eval hq, hz', cells_one h1, cells_one h2, cells_one h3, hr]
end
theorem row_pcs {w : World} {g : Nat} {cs : Array Value} {t : TypeId} {fz : Nat × Nat} {ps : List (List UInt8)} (hb : Bk w g cs t fz)
    (hx : ∀ (i : Nat) (p : List UInt8), ps[i]? = some p → ∃ A' c', cs[i]? = some (.slice A' p.length c') ∧ p.length ≤ c' ∧ Rd w A' (bv p)) : Pcs w.heap.size w (some ⟨g, 0, none⟩) ps := by
  refine .inr ⟨g, 0, rfl, hb.lt, fun i p hp => ?_⟩
  obtain ⟨A', c', h1, h2, h3⟩ := hx i p hp
  refine ⟨A', c', by rw [Nat.zero_add]; exact hb.at_ h1, h2, h3, fun a ha hne => ?_⟩
  obtain ⟨g', o', e', hB⟩ := h3.bs.resolve_left (fun e0 => hne (List.eq_nil_of_length_eq_zero e0))
  rw [e'] at ha
  cases ha
  have hlt : 0 < p.length := by
    rcases Nat.eq_zero_or_pos p.length with h | h
    · exact absurd (List.eq_nil_of_length_eq_zero h) hne
    · exact h
  exact World.block_lt_of_cell? w _ (hB 0 p[0] (List.getElem?_eq_getElem hlt))
theorem own_pcs {w : World} {e : TypeId} {v : Value} {xs : List Value} {ps : List (List UInt8)} (h : Own w e v xs) (hl : xs.length = ps.length)
    (hx : ∀ (i : Nat) (p : List UInt8), ps[i]? = some p → ∃ A' c', xs[i]? = some (.slice A' p.length c') ∧ p.length ≤ c' ∧ Rd w A' (bv p)) : ∃ A c, v = .slice A ps.length c ∧ Pcs w.heap.size w A ps := by
  rcases h.form with ⟨rfl, rfl⟩ | ⟨g, cap, cs, rfl, hb, _, _, hc⟩
  · have : ps = [] := List.eq_nil_of_length_eq_zero (by rw [← hl]; rfl)
    subst this
    exact ⟨none, 0, rfl, .inl rfl⟩
  · rw [hl]
    refine ⟨_, _, rfl, row_pcs hb fun i p hp => ?_⟩
    obtain ⟨A', c', h1, h2, h3⟩ := hx i p hp
    exact ⟨A', c', hc i _ h1, h2, h3⟩
/-- the bytes one by one -/
def single (A : Option Addr) (c : Nat) (j : Nat) : Value := .slice (if c = j then A else A.map (·.add j)) (j + 1 - j) (c - j)
def sing (A : Option Addr) (c i : Nat) : List Value := (List.range i).map (single A c)
theorem sing_succ (A : Option Addr) (c i : Nat) : sing A c (i + 1) = sing A c i ++ [single A c i] := by simp [sing, List.range_succ]
@[simp] theorem sing_length (A : Option Addr) (c i : Nat) : (sing A c i).length = i := by simp [sing]
theorem sing_pcs {w : World} {e : TypeId} {v : Value} {A : Option Addr} {c : Nat} {s : List UInt8} (h : Own w e v (sing A c s.length)) (hS : Rd w A (bv s)) (hc : s.length ≤ c) :
    ∃ A' c', v = .slice A' (s.map fun x => [x]).length c' ∧ Pcs w.heap.size w A' (s.map fun x => [x]) := by
  refine own_pcs h (by simp) fun i p hp => ?_
  simp only [List.getElem?_map, Option.map_eq_some_iff] at hp
  obtain ⟨x, hx, rfl⟩ := hp
  have hi := get_lt hx
  refine ⟨if c = i then A else A.map (·.add i), c - i, ?_, by simp only [List.length_singleton]; omega, ?_⟩
  · simp only [sing, List.getElem?_map, List.getElem?_range hi, Option.map_some, single, List.length_singleton]
    congr 2
    omega
  · have h1 := hS.cut i (c := c) (by rw [bv_length]; omega) (by rw [bv_length]; omega)
    have h2 := h1.take 1
    have e1 : (bv s).drop i = bv (s.drop i) := by simp [bv, List.map_drop]
    have e2 : (bv (s.drop i)).take 1 = bv [x] := by
      rw [List.drop_eq_getElem_cons hi]
      have : s[i] = x := by rw [List.getElem?_eq_getElem hi] at hx; injection hx
      simp [bv, this]
    rw [e1, e2] at h2
    exact h2
theorem sing_flat (s : List UInt8) : (s.map fun x => [x]).flatten = s := by induction s <;> simp_all
end Go.Proofs.Ytmbglgepomeilaa
