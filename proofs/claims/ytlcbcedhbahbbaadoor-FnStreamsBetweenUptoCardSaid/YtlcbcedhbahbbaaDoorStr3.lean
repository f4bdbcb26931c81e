/-
  Texts without new lines, sums of counts, lines. No program in sight.
-/
import Derived.Test.YtlcbcedhbahbbaaDoorStr2
namespace Go.Proofs.YtlcbcedhbahbbaaDoor
open Go.RowKit
theorem vs_nonl {N block : Nat} {al : List UInt8} {pad : Int} {vs : List Nat} (hf : Fit N al pad) (hv : ∀ v ∈ vs, v < N) : ∀ x ∈ vs.map (Pl.letter al) ++ Pl.pads block pad vs.length, x.toNat ≠ 10 ∧ x.toNat ≠ 13 := by
  intro x hx
  rcases List.mem_append.1 hx with h | h
  · obtain ⟨v, hm, rfl⟩ := List.mem_map.1 h
    have := hf.no v _ (letter_get (hv v hm) hf.len)
    exact ⟨this.1, this.2.1⟩
  · unfold Pl.pads at h
    split at h
    · have e := List.eq_of_mem_replicate h
      have h1 := hf.nl
      have h2 := hf.hi
      rw [e, byte_of (by omega)]
      omega
    · cases h
theorem text_strip {N bits block : Nat} {al s : List UInt8} {pad : Int} (hf : Fit N al pad) (hN : 2 ^ bits = N) : strip (Pl.text bits block al pad s) = (Pl.nums bits s).map (Pl.letter al) ++ Pl.pads block pad (Pl.nums bits s).length := by
  rw [text_form]
  exact strip_all (vs_nonl hf (fun v h => by rw [← hN]; exact Pl.nums_lt v h))
theorem take_sum {ks : List Int} (h : ∀ k ∈ ks, 0 ≤ k) (i : Nat) : 0 ≤ (ks.take i).sum ∧ (ks.take i).sum ≤ ks.sum := by
  induction ks generalizing i with
  | nil => simp
  | cons k r ih =>
    have h0 := h k (by simp)
    cases i with
    | zero =>
      have := ih (fun x hx => h x (by simp [hx])) r.length
      rw [List.take_length] at this
      simp only [List.take_zero, List.sum_nil, List.sum_cons]
      omega
    | succ i =>
      have := ih (fun x hx => h x (by simp [hx])) i
      simp only [List.take_succ_cons, List.sum_cons]
      omega
theorem take_sum_more {ks : List Int} {i : Nat} {k : Int} (h : ks[i]? = some k) : (ks.take (i + 1)).sum = (ks.take i).sum + k := by
  rw [List.take_add_one, h, List.sum_append]
  simp
theorem nonl_lines : strip [13, 10] = [] ∧ strip [10] = [] := ⟨by decide, by decide⟩
end Go.Proofs.YtlcbcedhbahbbaaDoor
