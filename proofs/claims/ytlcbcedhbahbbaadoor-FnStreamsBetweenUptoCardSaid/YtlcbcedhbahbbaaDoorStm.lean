/-
  Streams that are read: what is left without new lines; a giver's texts; rows in which a stretch turns. No program in sight.
-/
import Derived.Test.YtlcbcedhbahbbaaDoorDq
namespace Go.Proofs.YtlcbcedhbahbbaaDoor
open Go.RowKit
def nonl (x : UInt8) : Bool := decide (x.toNat ≠ 10 ∧ x.toNat ≠ 13)
def strip (s : List UInt8) : List UInt8 := s.filter nonl
theorem strip_append (a b : List UInt8) : strip (a ++ b) = strip a ++ strip b := List.filter_append a b
theorem strip_le (s : List UInt8) : (strip s).length ≤ s.length := List.length_filter_le _ _
theorem strip_all {s : List UInt8} (h : ∀ x ∈ s, x.toNat ≠ 10 ∧ x.toNat ≠ 13) : strip s = s := List.filter_eq_self.2 fun x hx => by simpa [nonl] using h x hx
theorem strip_snoc {s : List UInt8} {i : Nat} {x : UInt8} (h : s[i]? = some x) : strip (s.take (i + 1)) = strip (s.take i) ++ (if nonl x then [x] else []) := by
  rw [List.take_add_one, h, strip_append]
  congr 1
  unfold strip
  by_cases hn : nonl x = true
  · simp [hn]
  · simp [hn]
theorem strip_take_le (s : List UInt8) (i : Nat) : (strip (s.take i)).length ≤ i := Nat.le_trans (strip_le _) (by rw [List.length_take]; omega)
theorem Outs.trans {a b c : Array Value} {o m : Nat} (h : Outs a b o m) (h' : Outs b c o m) : Outs a c o m := fun i hi => (h' i hi).trans (h i hi)
theorem Outs.wide {a b : Array Value} {o m o' m' : Nat} (h : Outs a b o m) (h1 : o' ≤ o) (h2 : o + m ≤ o' + m') : Outs a b o' m' := fun i hi => h i (by omega)
theorem Outs.set {ds ds' : Array Value} {off m j : Nat} {v : Value} (h : Outs ds ds' off m) (h1 : off ≤ j) (h2 : j < off + m) : Outs ds (ds'.setIfInBounds j v) off m := fun i hi => by
  rw [Array.getElem?_setIfInBounds, if_neg (by omega)]
  exact h i hi
theorem Hd.of_splice {ds : Array Value} {o : Nat} {s : List UInt8} (h : o + s.length ≤ ds.size) : Hd (splice ds o (bv s)) o s := fun i x hx => by
  have hlt := get_lt hx
  rw [splice_get _ (by rw [bv_length]; exact h), if_pos (by rw [bv_length]; omega), show o + i - o = i by omega]
  simp [bv, hx]
theorem Hd.outs {ds ds' : Array Value} {o off m : Nat} {s : List UInt8} (h : Hd ds o s) (ho : Outs ds ds' off m) (hd : o + s.length ≤ off ∨ off + m ≤ o) : Hd ds' o s := fun i x hx => by
  have hlt := get_lt hx
  rw [ho _ (by omega)]
  exact h i x hx
theorem Hd.append {ds : Array Value} {o n : Nat} {a b : List UInt8} (h : Hd ds o a) (h' : Hd ds (o + n) b) (hn : a.length = n) : Hd ds o (a ++ b) := fun i x hx => by
  by_cases hi : i < a.length
  · rw [List.getElem?_append_left hi] at hx
    exact h i x hx
  · rw [List.getElem?_append_right (by omega)] at hx
    have := h' (i - a.length) x hx
    rwa [show o + n + (i - a.length) = o + i by omega] at this
theorem Hd.take {ds : Array Value} {o : Nat} {s : List UInt8} (h : Hd ds o s) (k : Nat) : Hd ds o (s.take k) := fun i x hx => by
  rw [List.getElem?_take] at hx
  split at hx
  · exact h i x hx
  · cases hx
theorem Hd.drop {ds : Array Value} {o : Nat} {s : List UInt8} (h : Hd ds o s) (k : Nat) : Hd ds (o + k) (s.drop k) := fun i x hx => by
  rw [List.getElem?_drop] at hx
  have := h (k + i) x hx
  rwa [← Nat.add_assoc] at this
theorem Hd.nil (ds : Array Value) (o : Nat) : Hd ds o [] := fun i x hx => by simp at hx
/-- what a giver still has -/
def Gv (w : World) (gg gr : Nat) (tg tr : TypeId) (T : List UInt8) : Prop :=
  ∃ (A : Option Addr) (n c o : Nat) (rows : Array Value) (ts : List (List UInt8)), Bk w gg #[.slice A n c] tg (0, 0) ∧ Bk w gr rows tr (0, 0) ∧ ts.length = n ∧ n ≤ c ∧ o + n ≤ rows.size ∧ (0 < n → A = some ⟨gr, o, none⟩) ∧
    (∀ (i : Nat) (s : List UInt8), ts[i]? = some s → rows[o + i]? = some (str s)) ∧ ts.flatten = T ∧ T.length ≤ 1000000000000 ∧ n ≤ 1000000000000
theorem Gv.kept {w w' : World} {gg gr : Nat} {tg tr : TypeId} {T : List UInt8} {S : Nat → Prop} (h : Gv w gg gr tg tr T) (hk : Kp S w w') (h1 : ¬ S gg) (h2 : ¬ S gr) : Gv w' gg gr tg tr T := by
  obtain ⟨A, n, c, o, rows, ts, a1, a2, r⟩ := h
  exact ⟨A, n, c, o, rows, ts, a1.kept hk h1, a2.kept hk h2, r⟩
end Go.Proofs.YtlcbcedhbahbbaaDoor
