/-
  Reading base32 and base64: numbers back to bytes, by groups and tails. No program in sight.
-/
import Derived.Test.YtmbglgepomeilaaLaw
namespace Go.Proofs.Ytmbglgepomeilaa
open Go.RowKit
theorem unpack_eq {k : Nat} {vs : List Nat} {xs : List Nat} (hl : xs.length = k * vs.length / 8) (hx : ∀ (i x : Nat), xs[i]? = some x → Pl.numF 8 (Pl.bitK k vs) (8 * i) = x) : Pl.unpack k vs = xs.map UInt8.ofNat := by
  apply List.ext_getElem?
  intro i
  unfold Pl.unpack
  rw [List.getElem?_map, List.getElem?_map]
  by_cases hi : i < k * vs.length / 8
  · rw [List.getElem?_range hi, List.getElem?_eq_getElem (by omega)]
    simp only [Option.map_some]
    rw [hx i _ (List.getElem?_eq_getElem (by omega))]
  · rw [List.getElem?_eq_none (by simpa using hi), List.getElem?_eq_none (by omega)]
    rfl
theorem unpack32_8 {v0 v1 v2 v3 v4 v5 v6 v7 : Nat} (h0 : v0 < 32) (h1 : v1 < 32) (h2 : v2 < 32) (h3 : v3 < 32) (h4 : v4 < 32) (h5 : v5 < 32) (h6 : v6 < 32) (h7 : v7 < 32) : Pl.unpack 5 [v0, v1, v2, v3, v4, v5, v6, v7] = [v0 * 2 ^ 3 % 256 + v1 / 2 ^ 2, v1 * 2 ^ 6 % 256 + v2 * 2 ^ 1 % 256 + v3 / 2 ^ 4, v3 * 2 ^ 4 % 256 + v4 / 2 ^ 1, v4 * 2 ^ 7 % 256 + v5 * 2 ^ 2 % 256 + v6 / 2 ^ 3, v6 * 2 ^ 5 % 256 + v7].map UInt8.ofNat := by
  refine unpack_eq (by simp) fun i x hx => ?_
  match i, hx with
  | 0, hx =>
    rw [← Option.some.inj hx]
    simp only [Pl.numF, Pl.bitK]
    simp
    omega
  | 1, hx =>
    rw [← Option.some.inj hx]
    simp only [Pl.numF, Pl.bitK]
    simp
    omega
  | 2, hx =>
    rw [← Option.some.inj hx]
    simp only [Pl.numF, Pl.bitK]
    simp
    omega
  | 3, hx =>
    rw [← Option.some.inj hx]
    simp only [Pl.numF, Pl.bitK]
    simp
    omega
  | 4, hx =>
    rw [← Option.some.inj hx]
    simp only [Pl.numF, Pl.bitK]
    simp
    omega
theorem unpack32_7 {v0 v1 v2 v3 v4 v5 v6 : Nat} (h0 : v0 < 32) (h1 : v1 < 32) (h2 : v2 < 32) (h3 : v3 < 32) (h4 : v4 < 32) (h5 : v5 < 32) (h6 : v6 < 32) : Pl.unpack 5 [v0, v1, v2, v3, v4, v5, v6] = [v0 * 2 ^ 3 % 256 + v1 / 2 ^ 2, v1 * 2 ^ 6 % 256 + v2 * 2 ^ 1 % 256 + v3 / 2 ^ 4, v3 * 2 ^ 4 % 256 + v4 / 2 ^ 1, v4 * 2 ^ 7 % 256 + v5 * 2 ^ 2 % 256 + v6 / 2 ^ 3].map UInt8.ofNat := by
  refine unpack_eq (by simp) fun i x hx => ?_
  match i, hx with
  | 0, hx =>
    rw [← Option.some.inj hx]
    simp only [Pl.numF, Pl.bitK]
    simp
    omega
  | 1, hx =>
    rw [← Option.some.inj hx]
    simp only [Pl.numF, Pl.bitK]
    simp
    omega
  | 2, hx =>
    rw [← Option.some.inj hx]
    simp only [Pl.numF, Pl.bitK]
    simp
    omega
  | 3, hx =>
    rw [← Option.some.inj hx]
    simp only [Pl.numF, Pl.bitK]
    simp
    omega
theorem unpack32_5 {v0 v1 v2 v3 v4 : Nat} (h0 : v0 < 32) (h1 : v1 < 32) (h2 : v2 < 32) (h3 : v3 < 32) (h4 : v4 < 32) : Pl.unpack 5 [v0, v1, v2, v3, v4] = [v0 * 2 ^ 3 % 256 + v1 / 2 ^ 2, v1 * 2 ^ 6 % 256 + v2 * 2 ^ 1 % 256 + v3 / 2 ^ 4, v3 * 2 ^ 4 % 256 + v4 / 2 ^ 1].map UInt8.ofNat := by
  refine unpack_eq (by simp) fun i x hx => ?_
  match i, hx with
  | 0, hx =>
    rw [← Option.some.inj hx]
    simp only [Pl.numF, Pl.bitK]
    simp
    omega
  | 1, hx =>
    rw [← Option.some.inj hx]
    simp only [Pl.numF, Pl.bitK]
    simp
    omega
  | 2, hx =>
    rw [← Option.some.inj hx]
    simp only [Pl.numF, Pl.bitK]
    simp
    omega
theorem unpack32_4 {v0 v1 v2 v3 : Nat} (h0 : v0 < 32) (h1 : v1 < 32) (h2 : v2 < 32) (h3 : v3 < 32) : Pl.unpack 5 [v0, v1, v2, v3] = [v0 * 2 ^ 3 % 256 + v1 / 2 ^ 2, v1 * 2 ^ 6 % 256 + v2 * 2 ^ 1 % 256 + v3 / 2 ^ 4].map UInt8.ofNat := by
  refine unpack_eq (by simp) fun i x hx => ?_
  match i, hx with
  | 0, hx =>
    rw [← Option.some.inj hx]
    simp only [Pl.numF, Pl.bitK]
    simp
    omega
  | 1, hx =>
    rw [← Option.some.inj hx]
    simp only [Pl.numF, Pl.bitK]
    simp
    omega
theorem unpack32_2 {v0 v1 : Nat} (h0 : v0 < 32) (h1 : v1 < 32) : Pl.unpack 5 [v0, v1] = [v0 * 2 ^ 3 % 256 + v1 / 2 ^ 2].map UInt8.ofNat := by
  refine unpack_eq (by simp) fun i x hx => ?_
  match i, hx with
  | 0, hx =>
    rw [← Option.some.inj hx]
    simp only [Pl.numF, Pl.bitK]
    simp
    omega
theorem unpack64_4 {v0 v1 v2 v3 : Nat} (h0 : v0 < 64) (h1 : v1 < 64) (h2 : v2 < 64) (h3 : v3 < 64) : Pl.unpack 6 [v0, v1, v2, v3] = [v0 * 2 ^ 2 % 256 + v1 / 2 ^ 4, v1 * 2 ^ 4 % 256 + v2 / 2 ^ 2, v2 * 2 ^ 6 % 256 + v3].map UInt8.ofNat := by
  refine unpack_eq (by simp) fun i x hx => ?_
  match i, hx with
  | 0, hx =>
    rw [← Option.some.inj hx]
    simp only [Pl.numF, Pl.bitK]
    simp
    omega
  | 1, hx =>
    rw [← Option.some.inj hx]
    simp only [Pl.numF, Pl.bitK]
    simp
    omega
  | 2, hx =>
    rw [← Option.some.inj hx]
    simp only [Pl.numF, Pl.bitK]
    simp
    omega
theorem unpack64_3 {v0 v1 v2 : Nat} (h0 : v0 < 64) (h1 : v1 < 64) (h2 : v2 < 64) : Pl.unpack 6 [v0, v1, v2] = [v0 * 2 ^ 2 % 256 + v1 / 2 ^ 4, v1 * 2 ^ 4 % 256 + v2 / 2 ^ 2].map UInt8.ofNat := by
  refine unpack_eq (by simp) fun i x hx => ?_
  match i, hx with
  | 0, hx =>
    rw [← Option.some.inj hx]
    simp only [Pl.numF, Pl.bitK]
    simp
    omega
  | 1, hx =>
    rw [← Option.some.inj hx]
    simp only [Pl.numF, Pl.bitK]
    simp
    omega
theorem unpack64_2 {v0 v1 : Nat} (h0 : v0 < 64) (h1 : v1 < 64) : Pl.unpack 6 [v0, v1] = [v0 * 2 ^ 2 % 256 + v1 / 2 ^ 4].map UInt8.ofNat := by
  refine unpack_eq (by simp) fun i x hx => ?_
  match i, hx with
  | 0, hx =>
    rw [← Option.some.inj hx]
    simp only [Pl.numF, Pl.bitK]
    simp
    omega
theorem pads_len {block n : Nat} {pad : Int} : (Pl.pads block pad n).length = if 0 ≤ pad then Pl.padn block n else 0 := by
  unfold Pl.pads
  split <;> simp
theorem rem32 {n : Nat} (h : ∃ q, n = Pl.nlet 5 q) : n % 8 ≠ 1 ∧ n % 8 ≠ 3 ∧ n % 8 ≠ 6 := by
  obtain ⟨q, rfl⟩ := h
  unfold Pl.nlet
  omega
theorem rem64 {n : Nat} (h : ∃ q, n = Pl.nlet 6 q) : n % 4 ≠ 1 := by
  obtain ⟨q, rfl⟩ := h
  unfold Pl.nlet
  omega
theorem Bs.far {w : World} {sb o g p : Nat} {s : List UInt8} (h : Bs w sb o s) (hf : sb ≠ g ∨ p < o ∨ o + s.length ≤ p) (v : Value) : Bs (w.setCell ⟨g, p, none⟩ v) sb o s := fun i c hi => by
  have hl := get_lt hi
  rw [World.cell?_setCell_other w ⟨g, p, none⟩ ⟨sb, o + i, none⟩ v (by
    intro e
    injection e with e1 e2
    omega)]
  exact h i c hi
theorem bytes_of {xs : List Nat} (h : ∀ x ∈ xs, x < 256) : bv (xs.map UInt8.ofNat) = xs.map (fun x => Value.int .u8 ((x : Nat) : Int)) := by
  induction xs with
  | nil => rfl
  | cons x r ih =>
    have h1 := ih fun y hy => h y (by simp [hy])
    have h2 := byte_of (h x (by simp))
    simp only [bv, List.map_cons] at h1 ⊢
    rw [h1]
    simp only [u8, h2]
theorem rev1 {cs : Array Value} {o : Nat} {v0 : Value} : cs.setIfInBounds o v0 = splice cs o [v0] := rfl
theorem rev3 {cs : Array Value} {o : Nat} {v0 v1 v2 : Value} : ((cs.setIfInBounds (o + 2) v2).setIfInBounds (o + 1) v1).setIfInBounds o v0 = splice cs o [v0, v1, v2] := by
  rw [show splice cs o [v0, v1, v2] = ((cs.setIfInBounds o v0).setIfInBounds (o + 1) v1).setIfInBounds (o + 2) v2 from rfl]
  apply Array.ext_getElem?
  intro i
  simp only [Array.getElem?_setIfInBounds, Array.size_setIfInBounds]
  repeat' split
  all_goals first | rfl | omega
theorem take_more8 {l : List Nat} {m : Nat} {v0 v1 v2 v3 v4 v5 v6 v7 : Nat} (q0 : l[m]? = some v0) (q1 : l[m + 1]? = some v1) (q2 : l[m + 2]? = some v2) (q3 : l[m + 3]? = some v3) (q4 : l[m + 4]? = some v4) (q5 : l[m + 5]? = some v5) (q6 : l[m + 6]? = some v6) (q7 : l[m + 7]? = some v7) : l.take (m + 8) = l.take m ++ [v0, v1, v2, v3, v4, v5, v6, v7] := by
  have e : ∀ (i v : Nat), l[i]? = some v → l.take (i + 1) = l.take i ++ [v] := fun i v h => by rw [List.take_add_one, h]; rfl
  rw [e (m + 7) _ q7, e (m + 6) _ q6, e (m + 5) _ q5, e (m + 4) _ q4, e (m + 3) _ q3, e (m + 2) _ q2, e (m + 1) _ q1, e m _ q0]
  simp
theorem take_more7 {l : List Nat} {m : Nat} {v0 v1 v2 v3 v4 v5 v6 : Nat} (q0 : l[m]? = some v0) (q1 : l[m + 1]? = some v1) (q2 : l[m + 2]? = some v2) (q3 : l[m + 3]? = some v3) (q4 : l[m + 4]? = some v4) (q5 : l[m + 5]? = some v5) (q6 : l[m + 6]? = some v6) : l.take (m + 7) = l.take m ++ [v0, v1, v2, v3, v4, v5, v6] := by
  have e : ∀ (i v : Nat), l[i]? = some v → l.take (i + 1) = l.take i ++ [v] := fun i v h => by rw [List.take_add_one, h]; rfl
  rw [e (m + 6) _ q6, e (m + 5) _ q5, e (m + 4) _ q4, e (m + 3) _ q3, e (m + 2) _ q2, e (m + 1) _ q1, e m _ q0]
  simp
theorem take_more5 {l : List Nat} {m : Nat} {v0 v1 v2 v3 v4 : Nat} (q0 : l[m]? = some v0) (q1 : l[m + 1]? = some v1) (q2 : l[m + 2]? = some v2) (q3 : l[m + 3]? = some v3) (q4 : l[m + 4]? = some v4) : l.take (m + 5) = l.take m ++ [v0, v1, v2, v3, v4] := by
  have e : ∀ (i v : Nat), l[i]? = some v → l.take (i + 1) = l.take i ++ [v] := fun i v h => by rw [List.take_add_one, h]; rfl
  rw [e (m + 4) _ q4, e (m + 3) _ q3, e (m + 2) _ q2, e (m + 1) _ q1, e m _ q0]
  simp
theorem take_more4 {l : List Nat} {m : Nat} {v0 v1 v2 v3 : Nat} (q0 : l[m]? = some v0) (q1 : l[m + 1]? = some v1) (q2 : l[m + 2]? = some v2) (q3 : l[m + 3]? = some v3) : l.take (m + 4) = l.take m ++ [v0, v1, v2, v3] := by
  have e : ∀ (i v : Nat), l[i]? = some v → l.take (i + 1) = l.take i ++ [v] := fun i v h => by rw [List.take_add_one, h]; rfl
  rw [e (m + 3) _ q3, e (m + 2) _ q2, e (m + 1) _ q1, e m _ q0]
  simp
theorem take_more3 {l : List Nat} {m : Nat} {v0 v1 v2 : Nat} (q0 : l[m]? = some v0) (q1 : l[m + 1]? = some v1) (q2 : l[m + 2]? = some v2) : l.take (m + 3) = l.take m ++ [v0, v1, v2] := by
  have e : ∀ (i v : Nat), l[i]? = some v → l.take (i + 1) = l.take i ++ [v] := fun i v h => by rw [List.take_add_one, h]; rfl
  rw [e (m + 2) _ q2, e (m + 1) _ q1, e m _ q0]
  simp
theorem take_more2 {l : List Nat} {m : Nat} {v0 v1 : Nat} (q0 : l[m]? = some v0) (q1 : l[m + 1]? = some v1) : l.take (m + 2) = l.take m ++ [v0, v1] := by
  have e : ∀ (i v : Nat), l[i]? = some v → l.take (i + 1) = l.take i ++ [v] := fun i v h => by rw [List.take_add_one, h]; rfl
  rw [e (m + 1) _ q1, e m _ q0]
  simp
/-- a call behind a guard that says yes -/
theorem W.gCall {P : Program} {ops : Array Oper} {Q : Exit → Act → World → Prop} {rest : List Oper} {n d : Nat} {l : Env} {w : World} {ty : TypeId} {pos : String} {af : Array Edge} {f : FuncId} {xs : List Operand} {ats : Array TypeId} {vs : List Value} {R : Value → World → Prop} {j dj : Nat} {b : Bool}
    (hj : (ops[j]?).bind (·.dst) = some dj) (hb : look l dj = some (.bool b)) (he : Enters P f) (hv : evs l xs = some vs) (hc : Ret P f vs.toArray w R) (hd : Nat.blt d n = true)
    (hr : ∀ v w', R v w' → W P ops Q rest n ((d, v) :: l) w') : W P ops Q (⟨some d, .call { callee := .value (.func f), args := xs.toArray, argTypes := ats }, ty, pos, af, some (j, b)⟩ :: rest) n l w := fun a ha =>
  wpList_step fun K hK => by
    simp only [Region.wanted, yielded_of ha hj hb, beq_self_eq_true, if_true]
    unfold Oper.wp
    rw [exec_call he ha hv]
    simp only [Oper.upon]
    refine Calls.mono hc ?_
    rintro e w' ⟨v, rfl, r⟩
    exact hK _ _ (hr v w' r _ (ha.put hd v))
/-- bytes written as text over and over -/
def encs (bits block : Nat) (al : List UInt8) (pad : Int) (s : List UInt8) : Nat → List UInt8
  | 0 => s
  | i + 1 => Pl.text bits block al pad (encs bits block al pad s i)
theorem text_len {bits block : Nat} {al s : List UInt8} {pad : Int} : (Pl.text bits block al pad s).length = Pl.nlet bits s.length + (Pl.pads block pad (Pl.nlet bits s.length)).length := by
  unfold Pl.text
  rw [List.length_append, Pl.letters_length]
theorem text_bounds32 {al s : List UInt8} {pad : Int} : s.length ≤ (Pl.text 5 8 al pad s).length ∧ (Pl.text 5 8 al pad s).length ≤ 2 * s.length + 8 := by
  rw [text_len, pads_len]
  unfold Pl.nlet Pl.padn
  split <;> omega
theorem text_bounds64 {al s : List UInt8} {pad : Int} : s.length ≤ (Pl.text 6 4 al pad s).length ∧ (Pl.text 6 4 al pad s).length ≤ 2 * s.length + 8 := by
  rw [text_len, pads_len]
  unfold Pl.nlet Pl.padn
  split <;> omega
theorem encs_bounds {bits block : Nat} {al : List UInt8} {pad : Int} {s : List UInt8} (h : ∀ t : List UInt8, t.length ≤ (Pl.text bits block al pad t).length ∧ (Pl.text bits block al pad t).length ≤ 2 * t.length + 8) (i : Nat) : s.length ≤ (encs bits block al pad s i).length ∧ (encs bits block al pad s i).length + 8 ≤ 2 ^ i * (s.length + 8) := by
  induction i with
  | zero => simp [encs]
  | succ i ih =>
    have h1 := h (encs bits block al pad s i)
    rw [encs, Nat.pow_succ, Nat.mul_right_comm]
    omega
theorem encs_le {bits block : Nat} {al : List UInt8} {pad : Int} {s : List UInt8} (h : ∀ t : List UInt8, t.length ≤ (Pl.text bits block al pad t).length ∧ (Pl.text bits block al pad t).length ≤ 2 * t.length + 8) {i : Nat} (hi : i ≤ 6) (hs : s.length ≤ 2000) : (encs bits block al pad s i).length ≤ 200000 := by
  have h1 := (encs_bounds (s := s) h i).2
  have h2 : 2 ^ i ≤ 2 ^ 6 := Nat.pow_le_pow_right (by omega) hi
  have h3 : 2 ^ i * (s.length + 8) ≤ 2 ^ 6 * (s.length + 8) := Nat.mul_le_mul_right _ h2
  omega
end Go.Proofs.Ytmbglgepomeilaa
