/-
  The cells of a stream's decoder: four at its head, 1024 of letters, how many, what is decoded and not yet given, N of decoded bytes. No program in sight.
-/
import Derived.Test.YtlcbcedhbahbbaaDoorSto
namespace Go.Proofs.YtlcbcedhbahbbaaDoor
open Go.RowKit
structure DF (N : Nat) (ds : Array Value) (x0 x1 x2 x3 : Value) (L : List UInt8) (nb : Nat) : Prop where
  size : ds.size = 1030 + N
  c0 : ds[0]? = some x0
  c1 : ds[1]? = some x1
  c2 : ds[2]? = some x2
  c3 : ds[3]? = some x3
  buf : Hd ds 4 L
  nb : ds[1028]? = some (.int .i64 (nb : Int))
/-- what is decoded and not yet given -/
def OF (N : Nat) (ds : Array Value) (gd : Nat) (O : List UInt8) : Prop :=
  ∃ oa oc, ds[1029]? = some (.slice oa O.length oc) ∧ O.length ≤ oc ∧ (O = [] ∨ ∃ j, oa = some ⟨gd, 1030 + j, none⟩ ∧ Hd ds (1030 + j) O ∧ j + O.length ≤ N)
section
variable {N : Nat} {ds ds' : Array Value} {x0 x1 x2 x3 v : Value} {L L' : List UInt8} {nb gd : Nat} {O : List UInt8}
theorem Outs.one (ds : Array Value) (i : Nat) (v : Value) : Outs ds (ds.setIfInBounds i v) i 1 := (Outs.refl ds i 1).set (Nat.le_refl _) (by omega)
theorem DF.outs {o m : Nat} (h : DF N ds x0 x1 x2 x3 L nb) (hs : ds'.size = ds.size) (ho : Outs ds ds' o m) (h1 : 4 ≤ o) (h2 : o + m ≤ 1028 ∨ 1029 ≤ o) (hL : Hd ds' 4 L') : DF N ds' x0 x1 x2 x3 L' nb :=
  ⟨hs.trans h.size, (ho 0 (by omega)).trans h.c0, (ho 1 (by omega)).trans h.c1, (ho 2 (by omega)).trans h.c2, (ho 3 (by omega)).trans h.c3, hL, (ho 1028 (by omega)).trans h.nb⟩
theorem DF.up {o m : Nat} (h : DF N ds x0 x1 x2 x3 L nb) (hs : ds'.size = ds.size) (ho : Outs ds ds' o m) (h1 : 1029 ≤ o) (hL : L.length ≤ 1024) : DF N ds' x0 x1 x2 x3 L nb :=
  h.outs hs ho (by omega) (.inr h1) (h.buf.outs ho (by omega))
theorem DF.set0 (h : DF N ds x0 x1 x2 x3 L nb) (v : Value) : DF N (ds.setIfInBounds 0 v) v x1 x2 x3 L nb := by
  have ho := Outs.one ds 0 v
  have hz := h.size
  exact ⟨by rw [Array.size_setIfInBounds]; exact hz, by rw [Array.getElem?_setIfInBounds, if_pos rfl, if_pos (by omega)], (ho 1 (by omega)).trans h.c1, (ho 2 (by omega)).trans h.c2, (ho 3 (by omega)).trans h.c3, h.buf.outs ho (by omega), (ho 1028 (by omega)).trans h.nb⟩
theorem DF.set1 (h : DF N ds x0 x1 x2 x3 L nb) (v : Value) : DF N (ds.setIfInBounds 1 v) x0 v x2 x3 L nb := by
  have ho := Outs.one ds 1 v
  have hz := h.size
  exact ⟨by rw [Array.size_setIfInBounds]; exact hz, (ho 0 (by omega)).trans h.c0, by rw [Array.getElem?_setIfInBounds, if_pos rfl, if_pos (by omega)], (ho 2 (by omega)).trans h.c2, (ho 3 (by omega)).trans h.c3, h.buf.outs ho (by omega), (ho 1028 (by omega)).trans h.nb⟩
theorem DF.set3 (h : DF N ds x0 x1 x2 x3 L nb) (v : Value) : DF N (ds.setIfInBounds 3 v) x0 x1 x2 v L nb := by
  have ho := Outs.one ds 3 v
  have hz := h.size
  exact ⟨by rw [Array.size_setIfInBounds]; exact hz, (ho 0 (by omega)).trans h.c0, (ho 1 (by omega)).trans h.c1, (ho 2 (by omega)).trans h.c2, by rw [Array.getElem?_setIfInBounds, if_pos rfl, if_pos (by omega)], h.buf.outs ho (by omega), (ho 1028 (by omega)).trans h.nb⟩
theorem DF.setN (h : DF N ds x0 x1 x2 x3 L nb) (k : Nat) (hL : L.length ≤ 1024) : DF N (ds.setIfInBounds 1028 (.int .i64 (k : Int))) x0 x1 x2 x3 L k := by
  have ho := Outs.one ds 1028 (.int .i64 (k : Int))
  have hz := h.size
  exact ⟨by rw [Array.size_setIfInBounds]; exact hz, (ho 0 (by omega)).trans h.c0, (ho 1 (by omega)).trans h.c1, (ho 2 (by omega)).trans h.c2, (ho 3 (by omega)).trans h.c3, h.buf.outs ho (by omega), by rw [Array.getElem?_setIfInBounds, if_pos rfl, if_pos (by omega)]⟩
theorem DF.setO (h : DF N ds x0 x1 x2 x3 L nb) (v : Value) (hL : L.length ≤ 1024) : DF N (ds.setIfInBounds 1029 v) x0 x1 x2 x3 L nb :=
  h.up (by rw [Array.size_setIfInBounds]) (Outs.one ds 1029 v) (Nat.le_refl _) hL
theorem OF.low {o m : Nat} (h : OF N ds gd O) (ho : Outs ds ds' o m) (h1 : o + m ≤ 1029) : OF N ds' gd O := by
  obtain ⟨oa, oc, a, b, c⟩ := h
  refine ⟨oa, oc, (ho 1029 (by omega)).trans a, b, c.imp id fun ⟨j, e, hh, hj⟩ => ⟨j, e, hh.outs ho (by omega), hj⟩⟩
theorem OF.none {oa : Option Addr} {oc : Nat} (h : ds[1029]? = some (.slice oa 0 oc)) : OF N ds gd [] := ⟨oa, oc, h, Nat.zero_le _, .inl rfl⟩
/-- the first of what is decoded is given -/
theorem OF.give {oa : Option Addr} {oc k j : Nat} (hz : ds.size = 1030 + N) (hh : Hd ds (1030 + j) O) (hj : j + O.length ≤ N) (ho : O.length ≤ oc) (hk : k ≤ O.length) (ha : oa = some ⟨gd, 1030 + j, Option.none⟩) :
    OF N (ds.setIfInBounds 1029 (.slice (if oc = k then oa else oa.map (·.add k)) (O.length - k) (oc - k))) gd (O.drop k) := by
  have hl : (O.drop k).length = O.length - k := List.length_drop
  refine ⟨_, oc - k, by rw [Array.getElem?_setIfInBounds, if_pos rfl, if_pos (by omega), hl], by omega, ?_⟩
  by_cases hd : O.drop k = []
  · exact .inl hd
  · have hlt : k < O.length := by
      have := List.length_pos_iff.2 hd
      omega
    refine .inr ⟨j + k, by rw [ha]; exact cut_addr (by omega) (by omega), ?_, by omega⟩
    have h2 := (hh.drop k).outs (Outs.one ds 1029 (.slice (if oc = k then oa else oa.map (·.add k)) (O.length - k) (oc - k))) (by omega)
    rwa [Nat.add_assoc] at h2
end
end Go.Proofs.YtlcbcedhbahbbaaDoor
