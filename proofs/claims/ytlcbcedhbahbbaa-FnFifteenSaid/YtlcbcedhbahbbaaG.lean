/-
  Walk: FnFifteen.
-/
import Derived.Test.YtlcbcedhbahbbaaF
import Derived.Test.YtlcbcedhbahbbaaFif
import Derived.Test.YtlcbcedhbahbbaaDec
namespace Go.Proofs.Ytlcbcedhbahbbaa
open Go.RowKit
theorem ent4 : Enters Try.prog 4 := enters_of Try.func4 (by kernel_rfl) rfl
theorem ent5 : Enters Try.prog 5 := enters_of Try.func5 (by kernel_rfl) rfl
theorem ent6 : Enters Try.prog 6 := enters_of Try.func6 (by kernel_rfl) rfl
theorem ent7 : Enters Try.prog 7 := enters_of Try.func7 (by kernel_rfl) rfl

set_option maxRecDepth 4000 in
theorem fnFifteen_ret {w : World} {A : Option Addr} {c n : Nat} {al bl : List UInt8} {a : List UInt8} (hal : al.length ≤ 9223372036854775807) (hbl : bl.length ≤ 9223372036854775807) (hA : Rd w A (bv a)) (hn : a.length = n) (hc : n ≤ c) (hN : n ≤ 140737488351232) :
    Ret Try.prog 3 #[str al, str bl, .slice A n c] w fun v w' => v = .bool true ∧ Kp (fun _ => False) w w' := by
  subst hn
  obtain ⟨k, hk⟩ : ∃ k, k = a.length / 15 := ⟨_, rfl⟩
  obtain ⟨s, hs⟩ : ∃ s, s = a.take (15 * k) := ⟨_, rfl⟩
  have hsl : s.length = 15 * k := by rw [hs, List.length_take]; omega
  have hrs : Rd w A (bv s) := by rw [hs]; exact hA.takeB _
  have hX := text_nopad_len (bits := 6) (block := 4) (al := al) (src := s)
  have hY := text_nopad_len (bits := 5) (block := 8) (al := bl) (src := s)
  rw [hsl] at hX hY
  have hX2 : Pl.nlet 6 (15 * k) = 20 * k := by unfold Pl.nlet; omega
  have hY2 : Pl.nlet 5 (15 * k) = 24 * k := by unfold Pl.nlet; omega
  refine ret_of Try.func3 rfl Try.ntmps3 (Nat.le_of_ble_eq_true rfl) ?_
  refine C.seq ?_
  refine C.reg ?_
  refine W.y (y_assign rfl) rfl ?_
  refine W.fin ?_
  refine E.next ?_
  refine C.seq ?_
  refine C.seq ?_
  refine C.reg ?_
  refine W.y (y_move rfl) rfl ?_
  refine W.call ent4 rfl (fit_ret (N := 64) (by omega)) rfl ?_
  rintro _ _ ⟨rfl, ⟨rfl, hf⟩ | rfl⟩
  rotate_left
  · skip
    refine W.y (y_not rfl) rfl ?_
    refine W.y (y_move rfl) rfl ?_
    refine W.gn rfl rfl rfl ?_
    refine W.gn rfl rfl rfl ?_
    refine W.gn rfl rfl rfl ?_
    refine W.y (y_pick rfl rfl) rfl ?_
    refine W.fin ?_
    refine E.next ?_
    refine C.yes rfl ?_
    refine C.seq ?_
    refine C.reg ?_
    refine W.y (y_assign rfl) rfl ?_
    refine W.fin ?_
    refine E.next ?_
    refine C.ret ?_
    refine E.thenRet ?_
    exact E.ret1 rfl rfl ⟨rfl, Kp.refl _ _⟩
  refine W.y (y_not rfl) rfl ?_
  refine W.y (y_move rfl) rfl ?_
  refine W.gy rfl rfl (y_move rfl) rfl ?_
  refine W.gCall rfl rfl ent4 rfl (fit_ret (N := 32) (by omega)) rfl ?_
  rintro _ _ ⟨rfl, ⟨rfl, hf2⟩ | rfl⟩
  rotate_left
  · skip
    refine W.gy rfl rfl (y_not rfl) rfl ?_
    refine W.y (y_pick rfl rfl) rfl ?_
    refine W.fin ?_
    refine E.next ?_
    refine C.yes rfl ?_
    refine C.seq ?_
    refine C.reg ?_
    refine W.y (y_assign rfl) rfl ?_
    refine W.fin ?_
    refine E.next ?_
    refine C.ret ?_
    refine E.thenRet ?_
    exact E.ret1 rfl rfl ⟨rfl, Kp.refl _ _⟩
  refine W.gy rfl rfl (y_not rfl) rfl ?_
  refine W.y (y_pick rfl rfl) rfl ?_
  refine W.fin ?_
  refine E.next ?_
  refine C.no rfl ?_
  refine C.skip ?_
  refine E.next ?_
  refine C.seq ?_
  refine C.reg ?_
  refine W.y (y_move rfl) rfl ?_
  refine W.y (y_move rfl) rfl ?_
  refine W.y (y_len rfl Try.underlying22) rfl ?_
  refine W.y (y_quo rfl rfl (by omega) (by omega) (by omega)) rfl ?_
  refine W.y (Does.as (y_mul rfl rfl (wi64 (by omega) (by omega))) (vint (b := ((15 * k : Nat) : Int)) (by omega))) rfl ?_
  refine W.y (y_cuth rfl rfl Try.underlying22 siz5 (by omega)) rfl ?_
  refine W.y (y_assign rfl) rfl ?_
  refine W.fin ?_
  refine E.next ?_
  refine C.seq ?_
  refine C.reg ?_
  refine W.y (y_move rfl) rfl ?_
  refine W.y (y_move rfl) rfl ?_
  refine W.call ent5 rfl (encodeImpl64_ret hf hrs hsl (by omega) (by omega)) rfl ?_
  rintro _ w1 ⟨rfl, hw1⟩
  refine W.y (y_assign rfl) rfl ?_
  refine W.fin ?_
  refine E.next ?_
  refine C.seq ?_
  refine C.reg ?_
  refine W.y (y_move rfl) rfl ?_
  refine W.y (y_move rfl) rfl ?_
  refine W.call ent6 rfl (encodeImpl32_ret hf2 (hrs.kept hw1 (fun _ _ _ => id)) hsl (by omega) (by omega)) rfl ?_
  rintro _ w2 ⟨rfl, hw2⟩
  have hK := hw1.trans hw2
  refine W.y (y_assign rfl) rfl ?_
  refine W.fin ?_
  refine E.next ?_
  refine C.seq ?_
  refine C.seq ?_
  refine C.reg ?_
  refine W.y (y_move rfl) rfl ?_
  refine W.y (y_len rfl Try.underlying22) rfl ?_
  refine W.y (y_mul rfl rfl (wi64 (by omega) (by omega))) rfl ?_
  refine W.y (y_move rfl) rfl ?_
  refine W.y (y_len' rfl Try.underlying9) rfl ?_
  refine W.y (y_mul rfl rfl (wi64 (by omega) (by omega))) rfl ?_
  refine W.y (y_neqF rfl rfl (by omega)) rfl ?_
  refine W.y (y_move rfl) rfl ?_
  refine W.gy rfl rfl (y_move rfl) rfl ?_
  refine W.gy rfl rfl (y_len rfl Try.underlying22) rfl ?_
  refine W.gy rfl rfl (y_mul rfl rfl (wi64 (by omega) (by omega))) rfl ?_
  refine W.gy rfl rfl (y_move rfl) rfl ?_
  refine W.gy rfl rfl (y_len' rfl Try.underlying9) rfl ?_
  refine W.gy rfl rfl (y_mul rfl rfl (wi64 (by omega) (by omega))) rfl ?_
  refine W.gy rfl rfl (y_neqF rfl rfl (by omega)) rfl ?_
  refine W.y (y_pick rfl rfl) rfl ?_
  refine W.fin ?_
  refine E.next ?_
  refine C.no rfl ?_
  refine C.skip ?_
  refine E.next ?_
  refine C.seq ?_
  refine C.block ?_
  refine C.loop (σ := Nat) (fun r w' => r ≤ 4 * k ∧ Kp (fun _ => False) w w') (fun r => [(0, str al), (1, str bl), (7, str ((Pl.text 6 4 al (-1) s).drop (5 * r))), (8, str ((Pl.text 5 8 bl (-1) s).drop (6 * r)))]) (fun r => 4 * k - r) 0 ?_ ?_ ?_
  · exact ⟨by omega, hK⟩
  · exact (Sub.cons rfl (Sub.cons rfl (Sub.cons rfl (Sub.cons rfl (Sub.nil _)))))
  rintro r wr ⟨hr, hkr⟩
  show C _ _ _ _ [(0, str al), (1, str bl), (7, str ((Pl.text 6 4 al (-1) s).drop (5 * r))), (8, str ((Pl.text 5 8 bl (-1) s).drop (6 * r)))] _
  have hxl : ((Pl.text 6 4 al (-1) s).drop (5 * r)).length = 20 * k - 5 * r := by rw [List.length_drop, hX, hX2]
  have hyl : ((Pl.text 5 8 bl (-1) s).drop (6 * r)).length = 24 * k - 6 * r := by rw [List.length_drop, hY, hY2]
  by_cases h : r < 4 * k
  · skip
    refine C.seq ?_
    refine C.seq ?_
    refine C.reg ?_
    refine W.y (y_move rfl) rfl ?_
    refine W.y (y_len' rfl Try.underlying9) rfl ?_
    refine W.y (y_gtrT rfl rfl (by omega)) rfl ?_
    refine W.fin ?_
    refine E.next ?_
    refine C.yes rfl ?_
    refine C.skip ?_
    refine E.next ?_
    refine C.block ?_
    refine C.seq ?_
    refine C.reg ?_
    refine W.y (y_assign rfl) rfl ?_
    refine W.y (y_assign rfl) rfl ?_
    refine W.fin ?_
    refine E.next ?_
    refine C.seq ?_
    refine C.seq ?_
    refine C.reg ?_
    refine W.y (y_move rfl) rfl ?_
    refine W.fin ?_
    refine E.next ?_
    refine C.block ?_
    refine C.loop (σ := Nat) (fun i w' => i ≤ 5 ∧ Kp (fun _ => False) w w') (fun i => [(0, str al), (1, str bl), (7, str ((Pl.text 6 4 al (-1) s).drop (5 * r))), (8, str ((Pl.text 5 8 bl (-1) s).drop (6 * r))), (10, .int .i64 0), (9, .int .i64 ((Pl.numF (6 * i) (Pl.bit s) (30 * r) : Nat) : Int)), (52, .int .i64 (i : Int))]) (fun i => 5 - i) 0 ?_ ?_ ?_
    · exact ⟨by omega, hkr⟩
    · exact (Sub.cons rfl (Sub.cons rfl (Sub.cons rfl (Sub.cons rfl (Sub.cons rfl (Sub.cons rfl (Sub.cons rfl (Sub.nil _))))))))
    rintro i wi ⟨hi6, hki⟩
    show C _ _ _ _ [(0, str al), (1, str bl), (7, str ((Pl.text 6 4 al (-1) s).drop (5 * r))), (8, str ((Pl.text 5 8 bl (-1) s).drop (6 * r))), (10, .int .i64 0), (9, .int .i64 ((Pl.numF (6 * i) (Pl.bit s) (30 * r) : Nat) : Int)), (52, .int .i64 (i : Int))] _
    by_cases h6 : i < 5
    · have hmore := num_more 6 i (30 * r) (Pl.bit s)
      have e1 : 6 * (5 * r + i) = 30 * r + 6 * i := by omega
      have hlt : Pl.numF 6 (Pl.bit s) (30 * r + 6 * i) < 64 := num_lt s _
      have hx := text_get (block := 4) (al := al) (pad := -1) (bits := 6) (src := s) (i := 5 * r + i) (by rw [hsl]; omega)
      rw [e1] at hx
      have hx2 : ((Pl.text 6 4 al (-1) s).drop (5 * r))[i]? = some (Pl.letter al (Pl.numF 6 (Pl.bit s) (30 * r + 6 * i))) := by rw [List.getElem?_drop]; exact hx
      have hb1 := num30 (f := Pl.bit s) (p := 30 * r) (n := 6 * i) (Pl.bit_lt s) (by omega)
      have hb2 := num30 (f := Pl.bit s) (p := 30 * r) (n := 6 * (i + 1)) (Pl.bit_lt s) (by omega)
      refine C.seq ?_
      refine C.reg ?_
      refine W.y (y_lssT rfl rfl (by omega)) rfl ?_
      refine W.fin ?_
      refine E.next ?_
      refine C.seq ?_
      refine C.yes rfl ?_
      refine C.skip ?_
      refine E.next ?_
      refine C.seq ?_
      refine C.block ?_
      refine C.seq ?_
      refine C.reg ?_
      refine W.y (y_move rfl) rfl ?_
      refine W.y (y_assign rfl) rfl ?_
      refine W.fin ?_
      refine E.next ?_
      refine C.reg ?_
      refine W.y (y_move rfl) rfl ?_
      refine W.y (y_mul rfl rfl (wi64 (by omega) (by omega))) rfl ?_
      refine W.y (y_move rfl) rfl ?_
      refine W.y (y_move rfl) rfl ?_
      refine W.y (y_move rfl) rfl ?_
      refine W.y (y_ixs' rfl rfl Try.underlying9 hx2) rfl ?_
      refine W.call ent7 rfl (place_ret hf (by omega) (letter_get hlt hf.len)) rfl ?_
      rintro _ _ ⟨rfl, rfl⟩
      refine W.y (Does.as (y_add rfl rfl (wi64 (by omega) (by omega))) (vint (b := ((Pl.numF (6 * (i + 1)) (Pl.bit s) (30 * r) : Nat) : Int)) (by omega))) rfl ?_
      refine W.y (y_assign rfl) rfl ?_
      refine W.fin ?_
      refine E.blockNormal ?_
      refine E.next ?_
      refine C.reg ?_
      refine W.y (y_add rfl rfl (wi64 (by omega) (by omega))) rfl ?_
      refine W.y (y_move rfl) rfl ?_
      refine W.fin ?_
      exact E.again (i + 1) ⟨by omega, hki⟩ (Sub.cons rfl (Sub.cons rfl (Sub.cons rfl (Sub.cons rfl (Sub.cons rfl (Sub.cons rfl (Sub.cons rfl (Sub.nil _)))))))) (by omega)
    obtain rfl : i = 5 := by omega
    refine C.seq ?_
    refine C.reg ?_
    refine W.y (y_lssF rfl rfl (by omega)) rfl ?_
    refine W.fin ?_
    refine E.next ?_
    refine C.seq ?_
    refine C.no rfl ?_
    refine C.exit ?_
    refine E.thenExit ?_
    refine E.thenExit ?_
    refine E.blockOut ?_
    refine E.next ?_
    refine C.seq ?_
    refine C.seq ?_
    refine C.reg ?_
    refine W.y (y_move rfl) rfl ?_
    refine W.fin ?_
    refine E.next ?_
    refine C.block ?_
    refine C.loop (σ := Nat) (fun i w' => i ≤ 6 ∧ Kp (fun _ => False) w w') (fun i => [(0, str al), (1, str bl), (7, str ((Pl.text 6 4 al (-1) s).drop (5 * r))), (8, str ((Pl.text 5 8 bl (-1) s).drop (6 * r))), (9, .int .i64 ((Pl.numF 30 (Pl.bit s) (30 * r) : Nat) : Int)), (10, .int .i64 ((Pl.numF (5 * i) (Pl.bit s) (30 * r) : Nat) : Int)), (64, .int .i64 (i : Int))]) (fun i => 6 - i) 0 ?_ ?_ ?_
    · exact ⟨by omega, hki⟩
    · exact (Sub.cons rfl (Sub.cons rfl (Sub.cons rfl (Sub.cons rfl (Sub.cons rfl (Sub.cons rfl (Sub.cons rfl (Sub.nil _))))))))
    rintro i wj ⟨hi5, hkj⟩
    show C _ _ _ _ [(0, str al), (1, str bl), (7, str ((Pl.text 6 4 al (-1) s).drop (5 * r))), (8, str ((Pl.text 5 8 bl (-1) s).drop (6 * r))), (9, .int .i64 ((Pl.numF 30 (Pl.bit s) (30 * r) : Nat) : Int)), (10, .int .i64 ((Pl.numF (5 * i) (Pl.bit s) (30 * r) : Nat) : Int)), (64, .int .i64 (i : Int))] _
    by_cases h5 : i < 6
    · have hmore := num_more 5 i (30 * r) (Pl.bit s)
      have e1 : 5 * (6 * r + i) = 30 * r + 5 * i := by omega
      have hlt : Pl.numF 5 (Pl.bit s) (30 * r + 5 * i) < 32 := num_lt s _
      have hx := text_get (block := 8) (al := bl) (pad := -1) (bits := 5) (src := s) (i := 6 * r + i) (by rw [hsl]; omega)
      rw [e1] at hx
      have hx2 : ((Pl.text 5 8 bl (-1) s).drop (6 * r))[i]? = some (Pl.letter bl (Pl.numF 5 (Pl.bit s) (30 * r + 5 * i))) := by rw [List.getElem?_drop]; exact hx
      have hb1 := num30 (f := Pl.bit s) (p := 30 * r) (n := 5 * i) (Pl.bit_lt s) (by omega)
      have hb2 := num30 (f := Pl.bit s) (p := 30 * r) (n := 5 * (i + 1)) (Pl.bit_lt s) (by omega)
      refine C.seq ?_
      refine C.reg ?_
      refine W.y (y_lssT rfl rfl (by omega)) rfl ?_
      refine W.fin ?_
      refine E.next ?_
      refine C.seq ?_
      refine C.yes rfl ?_
      refine C.skip ?_
      refine E.next ?_
      refine C.seq ?_
      refine C.block ?_
      refine C.seq ?_
      refine C.reg ?_
      refine W.y (y_move rfl) rfl ?_
      refine W.y (y_assign rfl) rfl ?_
      refine W.fin ?_
      refine E.next ?_
      refine C.reg ?_
      refine W.y (y_move rfl) rfl ?_
      refine W.y (y_mul rfl rfl (wi64 (by omega) (by omega))) rfl ?_
      refine W.y (y_move rfl) rfl ?_
      refine W.y (y_move rfl) rfl ?_
      refine W.y (y_move rfl) rfl ?_
      refine W.y (y_ixs' rfl rfl Try.underlying9 hx2) rfl ?_
      refine W.call ent7 rfl (place_ret hf2 (by omega) (letter_get hlt hf2.len)) rfl ?_
      rintro _ _ ⟨rfl, rfl⟩
      refine W.y (Does.as (y_add rfl rfl (wi64 (by omega) (by omega))) (vint (b := ((Pl.numF (5 * (i + 1)) (Pl.bit s) (30 * r) : Nat) : Int)) (by omega))) rfl ?_
      refine W.y (y_assign rfl) rfl ?_
      refine W.fin ?_
      refine E.blockNormal ?_
      refine E.next ?_
      refine C.reg ?_
      refine W.y (y_add rfl rfl (wi64 (by omega) (by omega))) rfl ?_
      refine W.y (y_move rfl) rfl ?_
      refine W.fin ?_
      exact E.again (i + 1) ⟨by omega, hkj⟩ (Sub.cons rfl (Sub.cons rfl (Sub.cons rfl (Sub.cons rfl (Sub.cons rfl (Sub.cons rfl (Sub.cons rfl (Sub.nil _)))))))) (by omega)
    obtain rfl : i = 6 := by omega
    have e30 : Pl.numF (5 * 6) (Pl.bit s) (30 * r) = Pl.numF 30 (Pl.bit s) (30 * r) := rfl
    refine C.seq ?_
    refine C.reg ?_
    refine W.y (y_lssF rfl rfl (by omega)) rfl ?_
    refine W.fin ?_
    refine E.next ?_
    refine C.seq ?_
    refine C.no rfl ?_
    refine C.exit ?_
    refine E.thenExit ?_
    refine E.thenExit ?_
    refine E.blockOut ?_
    refine E.next ?_
    refine C.seq ?_
    refine C.seq ?_
    refine C.reg ?_
    refine W.y (y_move rfl) rfl ?_
    refine W.y (y_move rfl) rfl ?_
    refine W.y (y_neqF rfl rfl (by omega)) rfl ?_
    refine W.fin ?_
    refine E.next ?_
    refine C.no rfl ?_
    refine C.skip ?_
    refine E.next ?_
    refine C.seq ?_
    refine C.reg ?_
    refine W.y (y_move rfl) rfl ?_
    refine W.y (y_scutl' (i := 5) rfl rfl Try.underlying9 (by omega)) rfl ?_
    refine W.y (y_assign rfl) rfl ?_
    refine W.fin ?_
    refine E.next ?_
    refine C.reg ?_
    refine W.y (y_move rfl) rfl ?_
    refine W.y (y_scutl' (i := 6) rfl rfl Try.underlying9 (by omega)) rfl ?_
    refine W.y (y_assign rfl) rfl ?_
    refine W.fin ?_
    refine E.blockNormal ?_
    exact E.again (r + 1) ⟨by omega, hkj⟩ (Sub.cons rfl (Sub.cons rfl (Sub.cons (by rw [show 5 * (r + 1) = 5 * r + 5 by omega, ← List.drop_drop]; rfl) (Sub.cons (by rw [show 6 * (r + 1) = 6 * r + 6 by omega, ← List.drop_drop]; rfl) (Sub.nil _))))) (by omega)
  · skip
    refine C.seq ?_
    refine C.seq ?_
    refine C.reg ?_
    refine W.y (y_move rfl) rfl ?_
    refine W.y (y_len' rfl Try.underlying9) rfl ?_
    refine W.y (y_gtrF rfl rfl (by omega)) rfl ?_
    refine W.fin ?_
    refine E.next ?_
    refine C.no rfl ?_
    refine C.exit ?_
    refine E.thenExit ?_
    refine E.thenExit ?_
    refine E.blockOut ?_
    refine E.next ?_
    refine C.seq ?_
    refine C.reg ?_
    refine W.y (y_assign rfl) rfl ?_
    refine W.fin ?_
    refine E.next ?_
    refine C.ret ?_
    exact E.ret1 rfl rfl ⟨rfl, hkr⟩
end Go.Proofs.Ytlcbcedhbahbbaa
