/-
  Walk: FnEnds.
-/
import Derived.Test.YtmbglgepomeilaaLE
import Derived.Test.YtmbglgepomeilaaWE
import Derived.Test.YtmbglgepomeilaaLF
namespace Go.Proofs.Ytmbglgepomeilaa
open Go.RowKit
theorem zeroByte : ((Try.prog.info? 5).bind (·.zero)) = some (.int .u8 0) := by kernel_rfl

set_option maxRecDepth 4000 in
theorem fnEnds64_ret {w : World} {al : List UInt8} {pad z : Int} (hal : al.length ≤ 9223372036854775807) (hz0 : -9223372036854775808 ≤ z) (hz1 : z ≤ 9223372036854775807) :
    Ret Try.prog 8 #[str al, .int .i64 pad, .int .i64 z] w fun v w' => v = .bool true ∧ Kp (fun _ => False) w w' := by
  by_cases h1 : z < 0
  · refine ret_of Try.func8 rfl Try.ntmps8 (Nat.le_of_ble_eq_true rfl) ?_
    refine C.seq ?_
    refine C.reg ?_
    refine W.y (y_assign rfl) rfl ?_
    refine W.fin ?_
    refine E.next ?_
    refine C.seq ?_
    refine C.seq ?_
    refine C.reg ?_
    refine W.y (y_move rfl) rfl ?_
    refine W.y (y_move rfl) rfl ?_
    refine W.call ent15 rfl (fit_ret (N := 64) (by omega)) rfl ?_
    rintro _ _ ⟨rfl, ⟨rfl, hf⟩ | rfl⟩
    rotate_left
    · skip
      refine W.y (y_not rfl) rfl ?_
      refine W.y (y_move rfl) rfl ?_
      refine W.gn rfl rfl rfl ?_
      refine W.gn rfl rfl rfl ?_
      refine W.y (y_pick rfl rfl) rfl ?_
      refine W.y (y_move rfl) rfl ?_
      refine W.gn rfl rfl rfl ?_
      refine W.gn rfl rfl rfl ?_
      refine W.y (y_pick rfl rfl) rfl ?_
      refine W.fin ?_
      refine E.next ?_
      refine C.yes rfl ?_
      refine C.seq ?_
      refine C.reg ?_
      refine W.y (y_assign rfl) rfl ?_
      refine W.fin ?_
      refine E.next ?_
      refine C.ret ?_
      refine E.thenRet ?_
      exact E.ret1 rfl rfl ⟨rfl, Kp.refl _ _⟩
    refine W.y (y_not rfl) rfl ?_
    refine W.y (y_move rfl) rfl ?_
    refine W.gy rfl rfl (y_move rfl) rfl ?_
    refine W.gy rfl rfl (y_lssT rfl rfl (by omega)) rfl ?_
    refine W.y (y_pick rfl rfl) rfl ?_
    refine W.y (y_move rfl) rfl ?_
    refine W.gn rfl rfl rfl ?_
    refine W.gn rfl rfl rfl ?_
    refine W.y (y_pick rfl rfl) rfl ?_
    refine W.fin ?_
    refine E.next ?_
    refine C.yes rfl ?_
    refine C.seq ?_
    refine C.reg ?_
    refine W.y (y_assign rfl) rfl ?_
    refine W.fin ?_
    refine E.next ?_
    refine C.ret ?_
    refine E.thenRet ?_
    exact E.ret1 rfl rfl ⟨rfl, Kp.refl _ _⟩
  by_cases h2 : 100000 < z
  · refine ret_of Try.func8 rfl Try.ntmps8 (Nat.le_of_ble_eq_true rfl) ?_
    refine C.seq ?_
    refine C.reg ?_
    refine W.y (y_assign rfl) rfl ?_
    refine W.fin ?_
    refine E.next ?_
    refine C.seq ?_
    refine C.seq ?_
    refine C.reg ?_
    refine W.y (y_move rfl) rfl ?_
    refine W.y (y_move rfl) rfl ?_
    refine W.call ent15 rfl (fit_ret (N := 64) (by omega)) rfl ?_
    rintro _ _ ⟨rfl, ⟨rfl, hf⟩ | rfl⟩
    rotate_left
    · skip
      refine W.y (y_not rfl) rfl ?_
      refine W.y (y_move rfl) rfl ?_
      refine W.gn rfl rfl rfl ?_
      refine W.gn rfl rfl rfl ?_
      refine W.y (y_pick rfl rfl) rfl ?_
      refine W.y (y_move rfl) rfl ?_
      refine W.gn rfl rfl rfl ?_
      refine W.gn rfl rfl rfl ?_
      refine W.y (y_pick rfl rfl) rfl ?_
      refine W.fin ?_
      refine E.next ?_
      refine C.yes rfl ?_
      refine C.seq ?_
      refine C.reg ?_
      refine W.y (y_assign rfl) rfl ?_
      refine W.fin ?_
      refine E.next ?_
      refine C.ret ?_
      refine E.thenRet ?_
      exact E.ret1 rfl rfl ⟨rfl, Kp.refl _ _⟩
    refine W.y (y_not rfl) rfl ?_
    refine W.y (y_move rfl) rfl ?_
    refine W.gy rfl rfl (y_move rfl) rfl ?_
    refine W.gy rfl rfl (y_lssF rfl rfl (by omega)) rfl ?_
    refine W.y (y_pick rfl rfl) rfl ?_
    refine W.y (y_move rfl) rfl ?_
    refine W.gy rfl rfl (y_move rfl) rfl ?_
    refine W.gy rfl rfl (y_gtrT rfl rfl (by omega)) rfl ?_
    refine W.y (y_pick rfl rfl) rfl ?_
    refine W.fin ?_
    refine E.next ?_
    refine C.yes rfl ?_
    refine C.seq ?_
    refine C.reg ?_
    refine W.y (y_assign rfl) rfl ?_
    refine W.fin ?_
    refine E.next ?_
    refine C.ret ?_
    refine E.thenRet ?_
    exact E.ret1 rfl rfl ⟨rfl, Kp.refl _ _⟩
  obtain ⟨k, rfl⟩ : ∃ k : Nat, z = k := ⟨z.toNat, by omega⟩
  obtain ⟨z1, hz1, hzs, hmk⟩ := run_makeN (P := Try.prog) (w := w) (t := 24) (N := k) (k := .i64) (k' := .i64) el24 (by omega) (by omega)
  obtain rfl : z1 = .int .u8 0 := by have := hz1 w; rw [zero_run zeroByte] at this; injection this with this; exact this.symm
  have hD : Bk (w.alloc (.cells (madeCells (Value.int .u8 0).cells k) 5)) w.heap.size (madeCells (Value.int .u8 0).cells k) 5 (0, 0) := Bk.new _ _ _
  have hka : Kp (fun _ => False) w (w.alloc (.cells (madeCells (Value.int .u8 0).cells k) 5)) := (Kp.refl _ w).alloc _
  have hr0 : Rd (w.alloc (.cells (madeCells (Value.int .u8 0).cells k) 5)) (some ⟨w.heap.size, 0, none⟩) (bv (List.replicate k 0)) := Rd.of_bs (Bs.of_row hD (fun j x hx => by
    have hj := get_lt hx
    rw [List.length_replicate] at hj
    rw [List.getElem?_replicate, if_pos hj] at hx
    injection hx with hx
    rw [Nat.zero_add, ← hx]
    exact made_get rfl hj))
  have hl0 : (List.replicate k (0 : UInt8)).length = k := List.length_replicate
  have hl1 : (List.replicate (3 * k) (255 : UInt8)).length = 3 * k := List.length_replicate
  have htg := text_ge (bits := 6) (block := 4) (al := al) (pad := pad) (src := List.replicate k 0)
  rw [hl0] at htg
  have hng : Pl.nlet 6 k = (8 * k + 5) / 6 := rfl
  refine ret_of Try.func8 rfl Try.ntmps8 (Nat.le_of_ble_eq_true rfl) ?_
  refine C.seq ?_
  refine C.reg ?_
  refine W.y (y_assign rfl) rfl ?_
  refine W.fin ?_
  refine E.next ?_
  refine C.seq ?_
  refine C.seq ?_
  refine C.reg ?_
  refine W.y (y_move rfl) rfl ?_
  refine W.y (y_move rfl) rfl ?_
  refine W.call ent15 rfl (fit_ret (N := 64) (by omega)) rfl ?_
  rintro _ _ ⟨rfl, ⟨rfl, hf⟩ | rfl⟩
  rotate_left
  · skip
    refine W.y (y_not rfl) rfl ?_
    refine W.y (y_move rfl) rfl ?_
    refine W.gn rfl rfl rfl ?_
    refine W.gn rfl rfl rfl ?_
    refine W.y (y_pick rfl rfl) rfl ?_
    refine W.y (y_move rfl) rfl ?_
    refine W.gn rfl rfl rfl ?_
    refine W.gn rfl rfl rfl ?_
    refine W.y (y_pick rfl rfl) rfl ?_
    refine W.fin ?_
    refine E.next ?_
    refine C.yes rfl ?_
    refine C.seq ?_
    refine C.reg ?_
    refine W.y (y_assign rfl) rfl ?_
    refine W.fin ?_
    refine E.next ?_
    refine C.ret ?_
    refine E.thenRet ?_
    exact E.ret1 rfl rfl ⟨rfl, Kp.refl _ _⟩
  refine W.y (y_not rfl) rfl ?_
  refine W.y (y_move rfl) rfl ?_
  refine W.gy rfl rfl (y_move rfl) rfl ?_
  refine W.gy rfl rfl (y_lssF rfl rfl (by omega)) rfl ?_
  refine W.y (y_pick rfl rfl) rfl ?_
  refine W.y (y_move rfl) rfl ?_
  refine W.gy rfl rfl (y_move rfl) rfl ?_
  refine W.gy rfl rfl (y_gtrF rfl rfl (by omega)) rfl ?_
  refine W.y (y_pick rfl rfl) rfl ?_
  refine W.fin ?_
  refine E.next ?_
  refine C.no rfl ?_
  refine C.skip ?_
  refine E.next ?_
  refine C.seq ?_
  refine C.reg ?_
  refine W.y (y_move rfl) rfl ?_
  refine W.y (y_move rfl) rfl ?_
  refine W.y (y_move rfl) rfl ?_
  refine W.y (y_make rfl rfl hmk) rfl ?_
  refine W.call ent27 rfl (encodeImpl64_ret hf hr0 hl0 (Nat.le_refl _) (by omega)) rfl ?_
  rintro _ w1 ⟨rfl, hw1⟩
  have hta := text_length64 (al := al) hf.lo (List.replicate (3 * k) 255)
  rw [hl1, encLen64_whole] at hta
  obtain ⟨z2, hz2, hzs2, hmk2⟩ := run_makeN (P := Try.prog) (w := w1) (t := 24) (N := 3 * k) (k := .i64) (k' := .i64) el24 (by omega) (by omega)
  have hms2 := made_size (N := 3 * k) hzs2
  have hD2 : Bk (w1.alloc (.cells (madeCells z2.cells (3 * k)) 5)) w1.heap.size (madeCells z2.cells (3 * k)) 5 (0, 0) := Bk.new _ _ _
  have hK1 := (hka.trans hw1).alloc (.cells (madeCells z2.cells (3 * k)) 5)
  have hz1w := (hka.trans hw1).size
  refine W.y (y_assign rfl) rfl ?_
  refine W.fin ?_
  refine E.next ?_
  refine C.seq ?_
  refine C.reg ?_
  refine W.y (y_move rfl) rfl ?_
  refine W.y (y_mul rfl rfl (wi64 (by omega) (by omega))) rfl ?_
  refine W.y (y_add rfl rfl (wi64 (by omega) (by omega))) rfl ?_
  refine W.y (Does.as (y_quo rfl rfl (by omega) (by omega) (by omega)) (vint (b := ((Pl.nlet 6 k : Nat) : Int)) (by omega))) rfl ?_
  refine W.y (y_assign rfl) rfl ?_
  refine W.fin ?_
  refine E.next ?_
  refine C.seq ?_
  refine C.seq ?_
  refine C.reg ?_
  refine W.y (y_move rfl) rfl ?_
  refine W.y (y_len' rfl Try.underlying9) rfl ?_
  refine W.y (y_move rfl) rfl ?_
  refine W.y (y_lssF rfl rfl (by omega)) rfl ?_
  refine W.fin ?_
  refine E.next ?_
  refine C.no rfl ?_
  refine C.skip ?_
  refine E.next ?_
  refine C.seq ?_
  refine C.reg ?_
  refine W.y (y_move rfl) rfl ?_
  refine W.y (Does.as (y_mul rfl rfl (wi64 (by omega) (by omega))) (vint (b := ((3 * k : Nat) : Int)) (by omega))) rfl ?_
  refine W.y (y_make rfl rfl hmk2) rfl ?_
  refine W.y (y_assign rfl) rfl ?_
  refine W.fin ?_
  refine E.next ?_
  refine C.seq ?_
  refine C.seq ?_
  refine C.reg ?_
  refine W.y (y_move rfl) rfl ?_
  refine W.y (y_len rfl Try.underlying24) rfl ?_
  refine W.y (y_move rfl) rfl ?_
  refine W.fin ?_
  refine E.next ?_
  refine C.block ?_
  refine C.loop (σ := Nat) (fun i w' => i ≤ 3 * k ∧ Kp (fun _ => False) w w' ∧ ∃ cs : Array Value, Bk w' w1.heap.size cs 5 (0, 0) ∧ cs.size = 3 * k ∧ ∀ j : Nat, j < i → cs[j]? = some (u8 255)) (fun i => [(0, str al), (1, .int .i64 pad), (2, .int .i64 (k : Int)), (7, str (Pl.text 6 4 al pad (List.replicate k 0))), (8, .int .i64 ((Pl.nlet 6 k : Nat) : Int)), (9, .slice (some ⟨w1.heap.size, 0, none⟩) (3 * k) (3 * k)), (43, .int .i64 ((3 * k : Nat) : Int)), (44, .int .i64 (i : Int))]) (fun i => 3 * k - i) 0 ?_ ?_ ?_
  · exact ⟨by omega, hK1, _, hD2, hms2, fun j h => by omega⟩
  · exact (Sub.cons rfl (Sub.cons rfl (Sub.cons rfl (Sub.cons rfl (Sub.cons rfl (Sub.cons rfl (Sub.cons rfl (Sub.cons rfl (Sub.nil _)))))))))
  rintro i wi ⟨hi, hki, cs, hbi, hsz, hcs⟩
  show C _ _ _ _ [(0, str al), (1, .int .i64 pad), (2, .int .i64 (k : Int)), (7, str (Pl.text 6 4 al pad (List.replicate k 0))), (8, .int .i64 ((Pl.nlet 6 k : Nat) : Int)), (9, .slice (some ⟨w1.heap.size, 0, none⟩) (3 * k) (3 * k)), (43, .int .i64 ((3 * k : Nat) : Int)), (44, .int .i64 (i : Int))] _
  by_cases h : i < 3 * k
  · skip
    refine C.seq ?_
    refine C.reg ?_
    refine W.y (y_lssT rfl rfl (by omega)) rfl ?_
    refine W.fin ?_
    refine E.next ?_
    refine C.seq ?_
    refine C.yes rfl ?_
    refine C.skip ?_
    refine E.next ?_
    refine C.seq ?_
    refine C.block ?_
    refine C.seq ?_
    refine C.reg ?_
    refine W.y (y_move rfl) rfl ?_
    refine W.y (y_assign rfl) rfl ?_
    refine W.fin ?_
    refine E.next ?_
    refine C.reg ?_
    refine W.y (y_move rfl) rfl ?_
    refine W.y (y_move rfl) rfl ?_
    refine W.y (y_ixn rfl rfl Try.underlying24 siz5 (by omega)) rfl ?_
    refine W.s (s_store rfl rfl rfl siz5 (Bk.some hbi (by omega)) (Bk.melt hbi)) ?_
    refine W.fin ?_
    refine E.blockNormal ?_
    refine E.next ?_
    refine C.reg ?_
    refine W.y (y_add rfl rfl (wi64 (by omega) (by omega))) rfl ?_
    refine W.y (y_move rfl) rfl ?_
    refine W.fin ?_
    refine E.again (i + 1) ⟨by omega, hki.set (.inr hz1w) _, _, Bk.set hbi (0 + i) _, by rw [Array.size_setIfInBounds, hsz], fun j hj => ?_⟩ (Sub.cons rfl (Sub.cons rfl (Sub.cons rfl (Sub.cons rfl (Sub.cons rfl (Sub.cons rfl (Sub.cons rfl (Sub.cons rfl (Sub.nil _))))))))) (by omega)
    rw [Nat.zero_add, Array.getElem?_setIfInBounds]
    by_cases e : i = j
    · rw [if_pos e, if_pos (by omega)]; rfl
    · rw [if_neg e]
      exact hcs j (by omega)
  · have hr1 : Rd wi (some ⟨w1.heap.size, 0, none⟩) (bv (List.replicate (3 * k) 255)) := Rd.of_bs (Bs.of_row hbi (fun j x hx => by
        have hj := get_lt hx
        rw [List.length_replicate] at hj
        rw [List.getElem?_replicate, if_pos hj] at hx
        injection hx with hx
        rw [Nat.zero_add, ← hx]
        exact hcs j (by omega)))
    refine C.seq ?_
    refine C.reg ?_
    refine W.y (y_lssF rfl rfl (by omega)) rfl ?_
    refine W.fin ?_
    refine E.next ?_
    refine C.seq ?_
    refine C.no rfl ?_
    refine C.exit ?_
    refine E.thenExit ?_
    refine E.thenExit ?_
    refine E.blockOut ?_
    refine E.next ?_
    refine C.seq ?_
    refine C.reg ?_
    refine W.y (y_move rfl) rfl ?_
    refine W.y (y_move rfl) rfl ?_
    refine W.y (y_move rfl) rfl ?_
    refine W.call ent27 rfl (encodeImpl64_ret hf hr1 hl1 (Nat.le_refl _) (by omega)) rfl ?_
    rintro _ w2 ⟨rfl, hw2⟩
    refine W.y (y_assign rfl) rfl ?_
    refine W.fin ?_
    refine E.next ?_
    refine C.seq ?_
    refine C.seq ?_
    refine C.reg ?_
    refine W.y (y_move rfl) rfl ?_
    refine W.y (y_len' rfl Try.underlying9) rfl ?_
    refine W.y (y_move rfl) rfl ?_
    refine W.y (Does.as (y_mul rfl rfl (wi64 (by omega) (by omega))) (vint (b := ((4 * k : Nat) : Int)) (by omega))) rfl ?_
    refine W.y (y_neqF rfl rfl (by omega)) rfl ?_
    refine W.fin ?_
    refine E.next ?_
    refine C.no rfl ?_
    refine C.skip ?_
    refine E.next ?_
    refine C.seq ?_
    refine C.seq ?_
    refine C.reg ?_
    refine W.y (y_move rfl) rfl ?_
    refine W.y (y_move rfl) rfl ?_
    refine W.fin ?_
    refine E.next ?_
    refine C.block ?_
    refine C.loop (σ := Nat) (fun i w' => i ≤ Pl.nlet 6 k ∧ Kp (fun _ => False) w w') (fun i => [(0, str al), (7, str (Pl.text 6 4 al pad (List.replicate k 0))), (11, str (Pl.text 6 4 al pad (List.replicate (3 * k) 255))), (60, .int .i64 ((Pl.nlet 6 k : Nat) : Int)), (61, .int .i64 (i : Int))]) (fun i => Pl.nlet 6 k - i) 0 ?_ ?_ ?_
    · exact ⟨by omega, hki.trans hw2⟩
    · exact (Sub.cons rfl (Sub.cons rfl (Sub.cons rfl (Sub.cons rfl (Sub.cons rfl (Sub.nil _))))))
    rintro i wj ⟨hi2, hkj⟩
    show C _ _ _ _ [(0, str al), (7, str (Pl.text 6 4 al pad (List.replicate k 0))), (11, str (Pl.text 6 4 al pad (List.replicate (3 * k) 255))), (60, .int .i64 ((Pl.nlet 6 k : Nat) : Int)), (61, .int .i64 (i : Int))] _
    by_cases h3 : i < Pl.nlet 6 k
    · have hx := text_get (block := 4) (al := al) (pad := pad) (bits := 6) (src := List.replicate k 0) (i := i) (by rw [hl0]; exact h3)
      rw [num_zero] at hx
      have hy := letter_get (i := 0) (by omega) hf.len
      refine C.seq ?_
      refine C.reg ?_
      refine W.y (y_lssT rfl rfl (by omega)) rfl ?_
      refine W.fin ?_
      refine E.next ?_
      refine C.seq ?_
      refine C.yes rfl ?_
      refine C.skip ?_
      refine E.next ?_
      refine C.seq ?_
      refine C.block ?_
      refine C.seq ?_
      refine C.reg ?_
      refine W.y (y_move rfl) rfl ?_
      refine W.y (y_assign rfl) rfl ?_
      refine W.fin ?_
      refine E.next ?_
      refine C.seq ?_
      refine C.still mixed (by kernel_rfl) ?_
      refine S.y (y_move rfl) rfl ?_
      refine S.y (y_move rfl) rfl ?_
      refine S.y (y_ixs' rfl rfl Try.underlying9 hx) rfl ?_
      refine S.y (y_move rfl) rfl ?_
      refine S.y (y_ixs' (i := 0) rfl rfl Try.underlying9 hy) rfl ?_
      refine S.y (y_neqF rfl rfl (by omega)) rfl ?_
      refine S.end_ ?_
      refine E.next ?_
      refine C.no rfl ?_
      refine C.skip ?_
      refine E.blockNormal ?_
      refine E.next ?_
      refine C.reg ?_
      refine W.y (y_add rfl rfl (wi64 (by omega) (by omega))) rfl ?_
      refine W.y (y_move rfl) rfl ?_
      refine W.fin ?_
      exact E.again (i + 1) ⟨by omega, hkj.drew⟩ (Sub.cons rfl (Sub.cons rfl (Sub.cons rfl (Sub.cons rfl (Sub.cons rfl (Sub.nil _)))))) (by omega)
    · skip
      refine C.seq ?_
      refine C.reg ?_
      refine W.y (y_lssF rfl rfl (by omega)) rfl ?_
      refine W.fin ?_
      refine E.next ?_
      refine C.seq ?_
      refine C.no rfl ?_
      refine C.exit ?_
      refine E.thenExit ?_
      refine E.thenExit ?_
      refine E.blockOut ?_
      refine E.next ?_
      refine C.seq ?_
      refine C.seq ?_
      refine C.reg ?_
      refine W.y (y_move rfl) rfl ?_
      refine W.y (y_len' rfl Try.underlying9) rfl ?_
      refine W.y (y_move rfl) rfl ?_
      refine W.fin ?_
      refine E.next ?_
      refine C.block ?_
      refine C.loop (σ := Nat) (fun i w' => i ≤ (Pl.text 6 4 al pad (List.replicate (3 * k) 255)).length ∧ Kp (fun _ => False) w w') (fun i => [(0, str al), (11, str (Pl.text 6 4 al pad (List.replicate (3 * k) 255))), (72, .int .i64 ((Pl.text 6 4 al pad (List.replicate (3 * k) 255)).length : Int)), (73, .int .i64 (i : Int))]) (fun i => (Pl.text 6 4 al pad (List.replicate (3 * k) 255)).length - i) 0 ?_ ?_ ?_
      · exact ⟨by omega, hkj⟩
      · exact (Sub.cons rfl (Sub.cons rfl (Sub.cons rfl (Sub.cons rfl (Sub.nil _)))))
      rintro i wl ⟨hi4, hkl⟩
      show C _ _ _ _ [(0, str al), (11, str (Pl.text 6 4 al pad (List.replicate (3 * k) 255))), (72, .int .i64 ((Pl.text 6 4 al pad (List.replicate (3 * k) 255)).length : Int)), (73, .int .i64 (i : Int))] _
      by_cases h4 : i < (Pl.text 6 4 al pad (List.replicate (3 * k) 255)).length
      · have hx := text_get (block := 4) (al := al) (pad := pad) (bits := 6) (src := List.replicate (3 * k) 255) (i := i) (by rw [hl1]; unfold Pl.nlet; omega)
        rw [num_ones64 (by omega)] at hx
        have hy := letter_get (i := 63) (by omega) hf.len
        refine C.seq ?_
        refine C.reg ?_
        refine W.y (y_lssT rfl rfl (by omega)) rfl ?_
        refine W.fin ?_
        refine E.next ?_
        refine C.seq ?_
        refine C.yes rfl ?_
        refine C.skip ?_
        refine E.next ?_
        refine C.seq ?_
        refine C.block ?_
        refine C.seq ?_
        refine C.reg ?_
        refine W.y (y_move rfl) rfl ?_
        refine W.y (y_assign rfl) rfl ?_
        refine W.fin ?_
        refine E.next ?_
        refine C.seq ?_
        refine C.still mixed (by kernel_rfl) ?_
        refine S.y (y_move rfl) rfl ?_
        refine S.y (y_move rfl) rfl ?_
        refine S.y (y_ixs' rfl rfl Try.underlying9 hx) rfl ?_
        refine S.y (y_move rfl) rfl ?_
        refine S.y (y_ixs' (i := 63) rfl rfl Try.underlying9 hy) rfl ?_
        refine S.y (y_neqF rfl rfl (by omega)) rfl ?_
        refine S.end_ ?_
        refine E.next ?_
        refine C.no rfl ?_
        refine C.skip ?_
        refine E.blockNormal ?_
        refine E.next ?_
        refine C.reg ?_
        refine W.y (y_add rfl rfl (wi64 (by omega) (by omega))) rfl ?_
        refine W.y (y_move rfl) rfl ?_
        refine W.fin ?_
        exact E.again (i + 1) ⟨by omega, hkl.drew⟩ (Sub.cons rfl (Sub.cons rfl (Sub.cons rfl (Sub.cons rfl (Sub.nil _))))) (by omega)
      · skip
        refine C.seq ?_
        refine C.reg ?_
        refine W.y (y_lssF rfl rfl (by omega)) rfl ?_
        refine W.fin ?_
        refine E.next ?_
        refine C.seq ?_
        refine C.no rfl ?_
        refine C.exit ?_
        refine E.thenExit ?_
        refine E.thenExit ?_
        refine E.blockOut ?_
        refine E.next ?_
        refine C.seq ?_
        refine C.reg ?_
        refine W.y (y_assign rfl) rfl ?_
        refine W.fin ?_
        refine E.next ?_
        refine C.ret ?_
        exact E.ret1 rfl rfl ⟨rfl, hkl⟩
end Go.Proofs.Ytmbglgepomeilaa
