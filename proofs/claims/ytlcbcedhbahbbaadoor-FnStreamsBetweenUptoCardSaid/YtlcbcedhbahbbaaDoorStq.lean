/-
  Texts taken in whole groups. No program in sight.
-/
import Derived.Test.YtlcbcedhbahbbaaDoorStp
namespace Go.Proofs.YtlcbcedhbahbbaaDoor
open Go.RowKit
theorem chunk32 {al : List UInt8} {pad : Int} {vs : List Nat} {nr : Nat} (hlo : -1 ≤ pad) (hq : ∃ q, vs.length = Pl.nlet 5 q) (h8 : nr % 8 = 0) (hn : nr ≤ (vs.map (Pl.letter al) ++ Pl.pads 8 pad vs.length).length) :
    ∃ vs1 vs2 : List Nat, vs = vs1 ++ vs2 ∧ (vs.map (Pl.letter al) ++ Pl.pads 8 pad vs.length).take nr = vs1.map (Pl.letter al) ++ Pl.pads 8 pad vs1.length ∧ (vs.map (Pl.letter al) ++ Pl.pads 8 pad vs.length).drop nr = vs2.map (Pl.letter al) ++ Pl.pads 8 pad vs2.length ∧
      (vs1.length = nr ∨ (vs2 = [] ∧ nr = (vs.map (Pl.letter al) ++ Pl.pads 8 pad vs.length).length)) ∧ vs1.length ≤ nr ∧ nr < vs1.length + 8 ∧ (∃ q, vs1.length = Pl.nlet 5 q) ∧ (∃ q, vs2.length = Pl.nlet 5 q) ∧ Pl.unpack 5 vs = Pl.unpack 5 vs1 ++ Pl.unpack 5 vs2 := by
  have hpl := pads_len (pad := pad) (n := vs.length) (block := 8)
  have hpn : Pl.padn 8 vs.length = (8 - vs.length % 8) % 8 := rfl
  rw [List.length_append, List.length_map] at hn ⊢
  have hml : (vs.map (Pl.letter al)).length = vs.length := List.length_map _
  by_cases h : nr ≤ vs.length
  · have hp0 : Pl.pads 8 pad nr = [] := by
      have h1 : Pl.padn 8 nr = 0 := by unfold Pl.padn; omega
      unfold Pl.pads
      rw [h1]
      split <;> rfl
    have hl1 : (vs.take nr).length = nr := by rw [List.length_take]; omega
    have hl2 : (vs.drop nr).length = vs.length - nr := List.length_drop
    have hp2 : Pl.pads 8 pad (vs.length - nr) = Pl.pads 8 pad vs.length := by
      have h1 : Pl.padn 8 (vs.length - nr) = Pl.padn 8 vs.length := by unfold Pl.padn; omega
      unfold Pl.pads
      rw [h1]
    obtain ⟨q, hq⟩ := hq
    refine ⟨vs.take nr, vs.drop nr, (List.take_append_drop nr vs).symm, ?_, ?_, .inl hl1, by omega, by omega, ⟨nr / 8 * 5, by rw [hl1]; unfold Pl.nlet; omega⟩, ⟨q - nr / 8 * 5, by rw [hl2, hq]; unfold Pl.nlet at hq ⊢; omega⟩, ?_⟩
    · rw [hl1, hp0, List.append_nil, List.take_append_of_le_length (by omega), List.map_take]
    · rw [hl2, hp2, List.drop_append_of_le_length (by omega), List.map_drop]
    · rw [← Pl.unpack_append (m := nr / 8 * 5) (by omega) _ _ (by rw [hl1]; omega), List.take_append_drop]
  · have hpe : 0 ≤ pad := by
      rcases Int.lt_or_le pad 0 with h1 | h1
      · rw [if_neg (by omega)] at hpl; omega
      · exact h1
    rw [if_pos hpe] at hpl
    have hall : nr = vs.length + (Pl.pads 8 pad vs.length).length := by omega
    refine ⟨vs, [], by simp, ?_, ?_, .inr ⟨rfl, hall⟩, by omega, by omega, hq, ⟨0, rfl⟩, by simp [Pl.unpack]⟩
    · exact List.take_of_length_le (by rw [List.length_append, hml]; omega)
    · rw [List.drop_of_length_le (by rw [List.length_append, hml]; omega)]
      unfold Pl.pads
      split <;> rfl
theorem chunk64 {al : List UInt8} {pad : Int} {vs : List Nat} {nr : Nat} (hlo : -1 ≤ pad) (hq : ∃ q, vs.length = Pl.nlet 6 q) (h8 : nr % 4 = 0) (hn : nr ≤ (vs.map (Pl.letter al) ++ Pl.pads 4 pad vs.length).length) :
    ∃ vs1 vs2 : List Nat, vs = vs1 ++ vs2 ∧ (vs.map (Pl.letter al) ++ Pl.pads 4 pad vs.length).take nr = vs1.map (Pl.letter al) ++ Pl.pads 4 pad vs1.length ∧ (vs.map (Pl.letter al) ++ Pl.pads 4 pad vs.length).drop nr = vs2.map (Pl.letter al) ++ Pl.pads 4 pad vs2.length ∧
      (vs1.length = nr ∨ (vs2 = [] ∧ nr = (vs.map (Pl.letter al) ++ Pl.pads 4 pad vs.length).length)) ∧ vs1.length ≤ nr ∧ nr < vs1.length + 4 ∧ (∃ q, vs1.length = Pl.nlet 6 q) ∧ (∃ q, vs2.length = Pl.nlet 6 q) ∧ Pl.unpack 6 vs = Pl.unpack 6 vs1 ++ Pl.unpack 6 vs2 := by
  have hpl := pads_len (pad := pad) (n := vs.length) (block := 4)
  have hpn : Pl.padn 4 vs.length = (4 - vs.length % 4) % 4 := rfl
  rw [List.length_append, List.length_map] at hn ⊢
  have hml : (vs.map (Pl.letter al)).length = vs.length := List.length_map _
  by_cases h : nr ≤ vs.length
  · have hp0 : Pl.pads 4 pad nr = [] := by
      have h1 : Pl.padn 4 nr = 0 := by unfold Pl.padn; omega
      unfold Pl.pads
      rw [h1]
      split <;> rfl
    have hl1 : (vs.take nr).length = nr := by rw [List.length_take]; omega
    have hl2 : (vs.drop nr).length = vs.length - nr := List.length_drop
    have hp2 : Pl.pads 4 pad (vs.length - nr) = Pl.pads 4 pad vs.length := by
      have h1 : Pl.padn 4 (vs.length - nr) = Pl.padn 4 vs.length := by unfold Pl.padn; omega
      unfold Pl.pads
      rw [h1]
    obtain ⟨q, hq⟩ := hq
    refine ⟨vs.take nr, vs.drop nr, (List.take_append_drop nr vs).symm, ?_, ?_, .inl hl1, by omega, by omega, ⟨nr / 4 * 3, by rw [hl1]; unfold Pl.nlet; omega⟩, ⟨q - nr / 4 * 3, by rw [hl2, hq]; unfold Pl.nlet at hq ⊢; omega⟩, ?_⟩
    · rw [hl1, hp0, List.append_nil, List.take_append_of_le_length (by omega), List.map_take]
    · rw [hl2, hp2, List.drop_append_of_le_length (by omega), List.map_drop]
    · rw [← Pl.unpack_append (m := nr / 4 * 3) (by omega) _ _ (by rw [hl1]; omega), List.take_append_drop]
  · have hpe : 0 ≤ pad := by
      rcases Int.lt_or_le pad 0 with h1 | h1
      · rw [if_neg (by omega)] at hpl; omega
      · exact h1
    rw [if_pos hpe] at hpl
    have hall : nr = vs.length + (Pl.pads 4 pad vs.length).length := by omega
    refine ⟨vs, [], by simp, ?_, ?_, .inr ⟨rfl, hall⟩, by omega, by omega, hq, ⟨0, rfl⟩, by simp [Pl.unpack]⟩
    · exact List.take_of_length_le (by rw [List.length_append, hml]; omega)
    · rw [List.drop_of_length_le (by rw [List.length_append, hml]; omega)]
      unfold Pl.pads
      split <;> rfl
/-- blocks that are not one -/
structure Dst (gp gd gc gf gg gr : Nat) : Prop where
  pd : gp ≠ gd
  pc : gp ≠ gc
  pf : gp ≠ gf
  pg : gp ≠ gg
  pr : gp ≠ gr
  dc : gd ≠ gc
  df : gd ≠ gf
  dg : gd ≠ gg
  dr : gd ≠ gr
  cg : gc ≠ gg
  cr : gc ≠ gr
  fg : gf ≠ gg
  fr : gf ≠ gr
  gr_ : gg ≠ gr
  d0 : gd ≠ 0
  g0 : gg ≠ 0
  r0 : gr ≠ 0
  p0 : gp ≠ 0
section
variable {gp gd gc gf gg gr : Nat}
theorem Dst.nc3 (h : Dst gp gd gc gf gg gr) : ¬ (gc = gg ∨ gc = gr ∨ gc = gd) := fun e => e.elim h.cg fun e => e.elim h.cr h.dc.symm
theorem Dst.np3 (h : Dst gp gd gc gf gg gr) : ¬ (gp = gg ∨ gp = gr ∨ gp = gd) := fun e => e.elim h.pg fun e => e.elim h.pr h.pd
theorem Dst.nf2 (h : Dst gp gd gc gf gg gr) : ¬ (gf = gp ∨ gf = gd) := fun e => e.elim h.pf.symm h.df.symm
theorem Dst.ng2 (h : Dst gp gd gc gf gg gr) : ¬ (gg = gp ∨ gg = gd) := fun e => e.elim h.pg.symm h.dg.symm
theorem Dst.nr2 (h : Dst gp gd gc gf gg gr) : ¬ (gr = gp ∨ gr = gd) := fun e => e.elim h.pr.symm h.dr.symm
end
/-- a decoder of base32: what it will still give -/
def St32 (td TF tf TG tg tr : TypeId) (w : World) (gd gc gf gg gr : Nat) (al : List UInt8) (pad : Int) (D : List UInt8) : Prop :=
  ∃ (ds : Array Value) (L R O : List UInt8) (vs : List Nat) (e : Bool), Bk w gd ds td (0, 0) ∧ DF 640 ds .nilIface (.pointer (some ⟨gc, 0, none⟩)) (.iface TF (.pointer (some ⟨gf, 0, none⟩))) (.bool e) L L.length ∧ OF 640 ds gd O ∧ Src tf TG tg tr w gf gg gr R ∧ L.length < 8 ∧
    L ++ R = vs.map (Pl.letter al) ++ Pl.pads 8 pad vs.length ∧ (∀ v ∈ vs, v < 32) ∧ (∃ q, vs.length = Pl.nlet 5 q) ∧ (e = true → vs = []) ∧ D = O ++ Pl.unpack 5 vs ∧ vs.length ≤ 1000000000000
end Go.Proofs.YtlcbcedhbahbbaaDoor
