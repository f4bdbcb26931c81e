/-
  Walk: FnOneLetter64.
-/
import Derived.Test.YtmbglgepomeilaaLN
import Derived.Test.YtmbglgepomeilaaOne
import Derived.Test.YtmbglgepomeilaaLO
namespace Go.Proofs.Ytmbglgepomeilaa
open Go.RowKit

set_option maxRecDepth 4000 in
theorem fnOneLetter64_ret {w : World} {A : Option Addr} {c n : Nat} {al : List UInt8} {pad z y : Int} {a : List UInt8} (hal : al.length ≤ 9223372036854775807) (hA : Rd w A (bv a)) (hn : a.length = n) (hc : n ≤ c) (hN : n ≤ 140737488351232) :
    Ret Try.prog 6 #[str al, .int .i64 pad, .slice A n c, .int .i64 z, .int .i64 y] w fun v w' => v = .bool true ∧ Kp (fun _ => False) w w' := by
  subst hn
  by_cases h1 : z < 0
  · refine ret_of Try.func6 rfl Try.ntmps6 (Nat.le_of_ble_eq_true rfl) ?_
    refine C.seq ?_
    refine C.reg ?_
    refine W.y (y_assign rfl) rfl ?_
    refine W.fin ?_
    refine E.next ?_
    refine C.seq ?_
    refine C.seq ?_
    refine C.reg ?_
    refine W.y (y_move rfl) rfl ?_
    refine W.y (y_move rfl) rfl ?_
    refine W.call ent15 rfl (fit_ret (N := 64) (by omega)) rfl ?_
    rintro _ _ ⟨rfl, ⟨rfl, hf⟩ | rfl⟩
    rotate_left
    · skip
      refine W.y (y_not rfl) rfl ?_
      refine W.y (y_move rfl) rfl ?_
      refine W.gn rfl rfl rfl ?_
      refine W.gn rfl rfl rfl ?_
      refine W.y (y_pick rfl rfl) rfl ?_
      refine W.y (y_move rfl) rfl ?_
      refine W.gn rfl rfl rfl ?_
      refine W.gn rfl rfl rfl ?_
      refine W.gn rfl rfl rfl ?_
      refine W.gn rfl rfl rfl ?_
      refine W.gn rfl rfl rfl ?_
      refine W.gn rfl rfl rfl ?_
      refine W.y (y_pick rfl rfl) rfl ?_
      refine W.y (y_move rfl) rfl ?_
      refine W.gn rfl rfl rfl ?_
      refine W.gn rfl rfl rfl ?_
      refine W.y (y_pick rfl rfl) rfl ?_
      refine W.y (y_move rfl) rfl ?_
      refine W.gn rfl rfl rfl ?_
      refine W.gn rfl rfl rfl ?_
      refine W.y (y_pick rfl rfl) rfl ?_
      refine W.fin ?_
      refine E.next ?_
      refine C.yes rfl ?_
      refine C.seq ?_
      refine C.reg ?_
      refine W.y (y_assign rfl) rfl ?_
      refine W.fin ?_
      refine E.next ?_
      refine C.ret ?_
      refine E.thenRet ?_
      exact E.ret1 rfl rfl ⟨rfl, Kp.refl _ _⟩
    refine W.y (y_not rfl) rfl ?_
    refine W.y (y_move rfl) rfl ?_
    refine W.gy rfl rfl (y_move rfl) rfl ?_
    refine W.gy rfl rfl (y_lssT rfl rfl (by omega)) rfl ?_
    refine W.y (y_pick rfl rfl) rfl ?_
    refine W.y (y_move rfl) rfl ?_
    refine W.gn rfl rfl rfl ?_
    refine W.gn rfl rfl rfl ?_
    refine W.gn rfl rfl rfl ?_
    refine W.gn rfl rfl rfl ?_
    refine W.gn rfl rfl rfl ?_
    refine W.gn rfl rfl rfl ?_
    refine W.y (y_pick rfl rfl) rfl ?_
    refine W.y (y_move rfl) rfl ?_
    refine W.gn rfl rfl rfl ?_
    refine W.gn rfl rfl rfl ?_
    refine W.y (y_pick rfl rfl) rfl ?_
    refine W.y (y_move rfl) rfl ?_
    refine W.gn rfl rfl rfl ?_
    refine W.gn rfl rfl rfl ?_
    refine W.y (y_pick rfl rfl) rfl ?_
    refine W.fin ?_
    refine E.next ?_
    refine C.yes rfl ?_
    refine C.seq ?_
    refine C.reg ?_
    refine W.y (y_assign rfl) rfl ?_
    refine W.fin ?_
    refine E.next ?_
    refine C.ret ?_
    refine E.thenRet ?_
    exact E.ret1 rfl rfl ⟨rfl, Kp.refl _ _⟩
  by_cases h2 : 8 * (a.length : Int) / 6 ≤ z
  · refine ret_of Try.func6 rfl Try.ntmps6 (Nat.le_of_ble_eq_true rfl) ?_
    refine C.seq ?_
    refine C.reg ?_
    refine W.y (y_assign rfl) rfl ?_
    refine W.fin ?_
    refine E.next ?_
    refine C.seq ?_
    refine C.seq ?_
    refine C.reg ?_
    refine W.y (y_move rfl) rfl ?_
    refine W.y (y_move rfl) rfl ?_
    refine W.call ent15 rfl (fit_ret (N := 64) (by omega)) rfl ?_
    rintro _ _ ⟨rfl, ⟨rfl, hf⟩ | rfl⟩
    rotate_left
    · skip
      refine W.y (y_not rfl) rfl ?_
      refine W.y (y_move rfl) rfl ?_
      refine W.gn rfl rfl rfl ?_
      refine W.gn rfl rfl rfl ?_
      refine W.y (y_pick rfl rfl) rfl ?_
      refine W.y (y_move rfl) rfl ?_
      refine W.gn rfl rfl rfl ?_
      refine W.gn rfl rfl rfl ?_
      refine W.gn rfl rfl rfl ?_
      refine W.gn rfl rfl rfl ?_
      refine W.gn rfl rfl rfl ?_
      refine W.gn rfl rfl rfl ?_
      refine W.y (y_pick rfl rfl) rfl ?_
      refine W.y (y_move rfl) rfl ?_
      refine W.gn rfl rfl rfl ?_
      refine W.gn rfl rfl rfl ?_
      refine W.y (y_pick rfl rfl) rfl ?_
      refine W.y (y_move rfl) rfl ?_
      refine W.gn rfl rfl rfl ?_
      refine W.gn rfl rfl rfl ?_
      refine W.y (y_pick rfl rfl) rfl ?_
      refine W.fin ?_
      refine E.next ?_
      refine C.yes rfl ?_
      refine C.seq ?_
      refine C.reg ?_
      refine W.y (y_assign rfl) rfl ?_
      refine W.fin ?_
      refine E.next ?_
      refine C.ret ?_
      refine E.thenRet ?_
      exact E.ret1 rfl rfl ⟨rfl, Kp.refl _ _⟩
    refine W.y (y_not rfl) rfl ?_
    refine W.y (y_move rfl) rfl ?_
    refine W.gy rfl rfl (y_move rfl) rfl ?_
    refine W.gy rfl rfl (y_lssF rfl rfl (by omega)) rfl ?_
    refine W.y (y_pick rfl rfl) rfl ?_
    refine W.y (y_move rfl) rfl ?_
    refine W.gy rfl rfl (y_move rfl) rfl ?_
    refine W.gy rfl rfl (y_move rfl) rfl ?_
    refine W.gy rfl rfl (y_len rfl Try.underlying24) rfl ?_
    refine W.gy rfl rfl (y_mul rfl rfl (wi64 (by omega) (by omega))) rfl ?_
    refine W.gy rfl rfl (y_quo rfl rfl (by omega) (by omega) (by omega)) rfl ?_
    refine W.gy rfl rfl (y_geqT rfl rfl (by omega)) rfl ?_
    refine W.y (y_pick rfl rfl) rfl ?_
    refine W.y (y_move rfl) rfl ?_
    refine W.gn rfl rfl rfl ?_
    refine W.gn rfl rfl rfl ?_
    refine W.y (y_pick rfl rfl) rfl ?_
    refine W.y (y_move rfl) rfl ?_
    refine W.gn rfl rfl rfl ?_
    refine W.gn rfl rfl rfl ?_
    refine W.y (y_pick rfl rfl) rfl ?_
    refine W.fin ?_
    refine E.next ?_
    refine C.yes rfl ?_
    refine C.seq ?_
    refine C.reg ?_
    refine W.y (y_assign rfl) rfl ?_
    refine W.fin ?_
    refine E.next ?_
    refine C.ret ?_
    refine E.thenRet ?_
    exact E.ret1 rfl rfl ⟨rfl, Kp.refl _ _⟩
  by_cases h3 : y < 0
  · refine ret_of Try.func6 rfl Try.ntmps6 (Nat.le_of_ble_eq_true rfl) ?_
    refine C.seq ?_
    refine C.reg ?_
    refine W.y (y_assign rfl) rfl ?_
    refine W.fin ?_
    refine E.next ?_
    refine C.seq ?_
    refine C.seq ?_
    refine C.reg ?_
    refine W.y (y_move rfl) rfl ?_
    refine W.y (y_move rfl) rfl ?_
    refine W.call ent15 rfl (fit_ret (N := 64) (by omega)) rfl ?_
    rintro _ _ ⟨rfl, ⟨rfl, hf⟩ | rfl⟩
    rotate_left
    · skip
      refine W.y (y_not rfl) rfl ?_
      refine W.y (y_move rfl) rfl ?_
      refine W.gn rfl rfl rfl ?_
      refine W.gn rfl rfl rfl ?_
      refine W.y (y_pick rfl rfl) rfl ?_
      refine W.y (y_move rfl) rfl ?_
      refine W.gn rfl rfl rfl ?_
      refine W.gn rfl rfl rfl ?_
      refine W.gn rfl rfl rfl ?_
      refine W.gn rfl rfl rfl ?_
      refine W.gn rfl rfl rfl ?_
      refine W.gn rfl rfl rfl ?_
      refine W.y (y_pick rfl rfl) rfl ?_
      refine W.y (y_move rfl) rfl ?_
      refine W.gn rfl rfl rfl ?_
      refine W.gn rfl rfl rfl ?_
      refine W.y (y_pick rfl rfl) rfl ?_
      refine W.y (y_move rfl) rfl ?_
      refine W.gn rfl rfl rfl ?_
      refine W.gn rfl rfl rfl ?_
      refine W.y (y_pick rfl rfl) rfl ?_
      refine W.fin ?_
      refine E.next ?_
      refine C.yes rfl ?_
      refine C.seq ?_
      refine C.reg ?_
      refine W.y (y_assign rfl) rfl ?_
      refine W.fin ?_
      refine E.next ?_
      refine C.ret ?_
      refine E.thenRet ?_
      exact E.ret1 rfl rfl ⟨rfl, Kp.refl _ _⟩
    refine W.y (y_not rfl) rfl ?_
    refine W.y (y_move rfl) rfl ?_
    refine W.gy rfl rfl (y_move rfl) rfl ?_
    refine W.gy rfl rfl (y_lssF rfl rfl (by omega)) rfl ?_
    refine W.y (y_pick rfl rfl) rfl ?_
    refine W.y (y_move rfl) rfl ?_
    refine W.gy rfl rfl (y_move rfl) rfl ?_
    refine W.gy rfl rfl (y_move rfl) rfl ?_
    refine W.gy rfl rfl (y_len rfl Try.underlying24) rfl ?_
    refine W.gy rfl rfl (y_mul rfl rfl (wi64 (by omega) (by omega))) rfl ?_
    refine W.gy rfl rfl (y_quo rfl rfl (by omega) (by omega) (by omega)) rfl ?_
    refine W.gy rfl rfl (y_geqF rfl rfl (by omega)) rfl ?_
    refine W.y (y_pick rfl rfl) rfl ?_
    refine W.y (y_move rfl) rfl ?_
    refine W.gy rfl rfl (y_move rfl) rfl ?_
    refine W.gy rfl rfl (y_lssT rfl rfl (by omega)) rfl ?_
    refine W.y (y_pick rfl rfl) rfl ?_
    refine W.y (y_move rfl) rfl ?_
    refine W.gn rfl rfl rfl ?_
    refine W.gn rfl rfl rfl ?_
    refine W.y (y_pick rfl rfl) rfl ?_
    refine W.fin ?_
    refine E.next ?_
    refine C.yes rfl ?_
    refine C.seq ?_
    refine C.reg ?_
    refine W.y (y_assign rfl) rfl ?_
    refine W.fin ?_
    refine E.next ?_
    refine C.ret ?_
    refine E.thenRet ?_
    exact E.ret1 rfl rfl ⟨rfl, Kp.refl _ _⟩
  by_cases h4 : 64 ≤ y
  · refine ret_of Try.func6 rfl Try.ntmps6 (Nat.le_of_ble_eq_true rfl) ?_
    refine C.seq ?_
    refine C.reg ?_
    refine W.y (y_assign rfl) rfl ?_
    refine W.fin ?_
    refine E.next ?_
    refine C.seq ?_
    refine C.seq ?_
    refine C.reg ?_
    refine W.y (y_move rfl) rfl ?_
    refine W.y (y_move rfl) rfl ?_
    refine W.call ent15 rfl (fit_ret (N := 64) (by omega)) rfl ?_
    rintro _ _ ⟨rfl, ⟨rfl, hf⟩ | rfl⟩
    rotate_left
    · skip
      refine W.y (y_not rfl) rfl ?_
      refine W.y (y_move rfl) rfl ?_
      refine W.gn rfl rfl rfl ?_
      refine W.gn rfl rfl rfl ?_
      refine W.y (y_pick rfl rfl) rfl ?_
      refine W.y (y_move rfl) rfl ?_
      refine W.gn rfl rfl rfl ?_
      refine W.gn rfl rfl rfl ?_
      refine W.gn rfl rfl rfl ?_
      refine W.gn rfl rfl rfl ?_
      refine W.gn rfl rfl rfl ?_
      refine W.gn rfl rfl rfl ?_
      refine W.y (y_pick rfl rfl) rfl ?_
      refine W.y (y_move rfl) rfl ?_
      refine W.gn rfl rfl rfl ?_
      refine W.gn rfl rfl rfl ?_
      refine W.y (y_pick rfl rfl) rfl ?_
      refine W.y (y_move rfl) rfl ?_
      refine W.gn rfl rfl rfl ?_
      refine W.gn rfl rfl rfl ?_
      refine W.y (y_pick rfl rfl) rfl ?_
      refine W.fin ?_
      refine E.next ?_
      refine C.yes rfl ?_
      refine C.seq ?_
      refine C.reg ?_
      refine W.y (y_assign rfl) rfl ?_
      refine W.fin ?_
      refine E.next ?_
      refine C.ret ?_
      refine E.thenRet ?_
      exact E.ret1 rfl rfl ⟨rfl, Kp.refl _ _⟩
    refine W.y (y_not rfl) rfl ?_
    refine W.y (y_move rfl) rfl ?_
    refine W.gy rfl rfl (y_move rfl) rfl ?_
    refine W.gy rfl rfl (y_lssF rfl rfl (by omega)) rfl ?_
    refine W.y (y_pick rfl rfl) rfl ?_
    refine W.y (y_move rfl) rfl ?_
    refine W.gy rfl rfl (y_move rfl) rfl ?_
    refine W.gy rfl rfl (y_move rfl) rfl ?_
    refine W.gy rfl rfl (y_len rfl Try.underlying24) rfl ?_
    refine W.gy rfl rfl (y_mul rfl rfl (wi64 (by omega) (by omega))) rfl ?_
    refine W.gy rfl rfl (y_quo rfl rfl (by omega) (by omega) (by omega)) rfl ?_
    refine W.gy rfl rfl (y_geqF rfl rfl (by omega)) rfl ?_
    refine W.y (y_pick rfl rfl) rfl ?_
    refine W.y (y_move rfl) rfl ?_
    refine W.gy rfl rfl (y_move rfl) rfl ?_
    refine W.gy rfl rfl (y_lssF rfl rfl (by omega)) rfl ?_
    refine W.y (y_pick rfl rfl) rfl ?_
    refine W.y (y_move rfl) rfl ?_
    refine W.gy rfl rfl (y_move rfl) rfl ?_
    refine W.gy rfl rfl (y_geqT rfl rfl (by omega)) rfl ?_
    refine W.y (y_pick rfl rfl) rfl ?_
    refine W.fin ?_
    refine E.next ?_
    refine C.yes rfl ?_
    refine C.seq ?_
    refine C.reg ?_
    refine W.y (y_assign rfl) rfl ?_
    refine W.fin ?_
    refine E.next ?_
    refine C.ret ?_
    refine E.thenRet ?_
    exact E.ret1 rfl rfl ⟨rfl, Kp.refl _ _⟩
  obtain ⟨m, rfl⟩ : ∃ m : Nat, z = m := ⟨z.toNat, by omega⟩
  obtain ⟨v, rfl⟩ : ∃ v : Nat, y = v := ⟨y.toNat, by omega⟩
  have hv : v < 64 := by omega
  have hma : m < 8 * a.length / 6 := by omega
  have hnf := nlet_full (bits := 6) (L := a.length)
  have hmn : m < Pl.nlet 6 a.length := by omega
  obtain ⟨tx, htx⟩ : ∃ tx, tx = Pl.text 6 4 al pad a := ⟨_, rfl⟩
  have htl := (text_bounds64 (al := al) (s := a) (pad := pad)).2
  have htg := text_ge (bits := 6) (block := 4) (al := al) (pad := pad) (src := a)
  rw [← htx] at htl htg
  obtain ⟨tl, htl2⟩ : ∃ tl, tl = tx.set m (Pl.letter al v) := ⟨_, rfl⟩
  have htll : tl.length = tx.length := by rw [htl2, List.length_set]
  have hform : tl = ((Pl.nums 6 a).set m v).map (Pl.letter al) ++ Pl.pads 4 pad ((Pl.nums 6 a).set m v).length := by rw [htl2, htx]; exact text_set hmn
  refine ret_of Try.func6 rfl Try.ntmps6 (Nat.le_of_ble_eq_true rfl) ?_
  refine C.seq ?_
  refine C.reg ?_
  refine W.y (y_assign rfl) rfl ?_
  refine W.fin ?_
  refine E.next ?_
  refine C.seq ?_
  refine C.seq ?_
  refine C.reg ?_
  refine W.y (y_move rfl) rfl ?_
  refine W.y (y_move rfl) rfl ?_
  refine W.call ent15 rfl (fit_ret (N := 64) (by omega)) rfl ?_
  rintro _ _ ⟨rfl, ⟨rfl, hf⟩ | rfl⟩
  rotate_left
  · skip
    refine W.y (y_not rfl) rfl ?_
    refine W.y (y_move rfl) rfl ?_
    refine W.gn rfl rfl rfl ?_
    refine W.gn rfl rfl rfl ?_
    refine W.y (y_pick rfl rfl) rfl ?_
    refine W.y (y_move rfl) rfl ?_
    refine W.gn rfl rfl rfl ?_
    refine W.gn rfl rfl rfl ?_
    refine W.gn rfl rfl rfl ?_
    refine W.gn rfl rfl rfl ?_
    refine W.gn rfl rfl rfl ?_
    refine W.gn rfl rfl rfl ?_
    refine W.y (y_pick rfl rfl) rfl ?_
    refine W.y (y_move rfl) rfl ?_
    refine W.gn rfl rfl rfl ?_
    refine W.gn rfl rfl rfl ?_
    refine W.y (y_pick rfl rfl) rfl ?_
    refine W.y (y_move rfl) rfl ?_
    refine W.gn rfl rfl rfl ?_
    refine W.gn rfl rfl rfl ?_
    refine W.y (y_pick rfl rfl) rfl ?_
    refine W.fin ?_
    refine E.next ?_
    refine C.yes rfl ?_
    refine C.seq ?_
    refine C.reg ?_
    refine W.y (y_assign rfl) rfl ?_
    refine W.fin ?_
    refine E.next ?_
    refine C.ret ?_
    refine E.thenRet ?_
    exact E.ret1 rfl rfl ⟨rfl, Kp.refl _ _⟩
  refine W.y (y_not rfl) rfl ?_
  refine W.y (y_move rfl) rfl ?_
  refine W.gy rfl rfl (y_move rfl) rfl ?_
  refine W.gy rfl rfl (y_lssF rfl rfl (by omega)) rfl ?_
  refine W.y (y_pick rfl rfl) rfl ?_
  refine W.y (y_move rfl) rfl ?_
  refine W.gy rfl rfl (y_move rfl) rfl ?_
  refine W.gy rfl rfl (y_move rfl) rfl ?_
  refine W.gy rfl rfl (y_len rfl Try.underlying24) rfl ?_
  refine W.gy rfl rfl (y_mul rfl rfl (wi64 (by omega) (by omega))) rfl ?_
  refine W.gy rfl rfl (y_quo rfl rfl (by omega) (by omega) (by omega)) rfl ?_
  refine W.gy rfl rfl (y_geqF rfl rfl (by omega)) rfl ?_
  refine W.y (y_pick rfl rfl) rfl ?_
  refine W.y (y_move rfl) rfl ?_
  refine W.gy rfl rfl (y_move rfl) rfl ?_
  refine W.gy rfl rfl (y_lssF rfl rfl (by omega)) rfl ?_
  refine W.y (y_pick rfl rfl) rfl ?_
  refine W.y (y_move rfl) rfl ?_
  refine W.gy rfl rfl (y_move rfl) rfl ?_
  refine W.gy rfl rfl (y_geqF rfl rfl (by omega)) rfl ?_
  refine W.y (y_pick rfl rfl) rfl ?_
  refine W.fin ?_
  refine E.next ?_
  refine C.no rfl ?_
  refine C.skip ?_
  refine E.next ?_
  refine C.seq ?_
  refine C.reg ?_
  refine W.y (y_move rfl) rfl ?_
  refine W.y (y_move rfl) rfl ?_
  refine W.y (y_move rfl) rfl ?_
  refine W.call ent18 rfl (text64_ret hA rfl (by omega) hf.len hf.lo hf.hi) rfl ?_
  rintro _ w1 ⟨rfl, hw1⟩
  rw [← htx]
  obtain ⟨tc, ts, w2, hcv, hbt, hts, htc, htv, hk2, hz2⟩ := run_s2b (P := Try.prog) (w := w1) (t := 9) (t' := 24) (s := tx) Try.underlying9 Try.underlying24 Try.underlying5
  have hw1s := hw1.size
  have hbt3 := Bk.set hbt (0 + m) (u8 (Pl.letter al v))
  have hk3 : Kp (fun _ => False) w (w2.setCell ⟨w1.heap.size, 0 + m, none⟩ (u8 (Pl.letter al v))) := (hw1.trans hk2).set (.inr hw1s) _
  have hrt : Rd (w2.setCell ⟨w1.heap.size, 0 + m, none⟩ (u8 (Pl.letter al v))) (some ⟨w1.heap.size, 0, none⟩) (bv tl) := Rd.of_bs (Bs.of_row hbt3 (fun j x hx => by
    rw [Nat.zero_add, Nat.zero_add, Array.getElem?_setIfInBounds]
    rw [htl2] at hx
    by_cases hj : m = j
    · subst hj
      rw [List.getElem?_set_self (by omega)] at hx
      injection hx with hx
      rw [if_pos rfl, if_pos (by omega), hx]
    · rw [List.getElem?_set_ne hj] at hx
      rw [if_neg hj]
      exact htv _ _ hx))
  obtain ⟨v1, x1, hr1, ho1, hg1, ha1⟩ := run_app (P := Try.prog) (w := (w2.setCell ⟨w1.heap.size, 0 + m, none⟩ (u8 (Pl.letter al v)))) (ty := 24) (c := c) el24 (Own.nil (w2.setCell ⟨w1.heap.size, 0 + m, none⟩ (u8 (Pl.letter al v))) 5) (hA.kept hk3 (fun _ _ _ => id)) (one_u8 a) (by simp only [bv_length, List.length_nil]; omega) (by omega)
  rw [bv_length] at hr1
  rw [List.nil_append] at ho1
  have hk4 : Kp (fun _ => False) (w2.setCell ⟨w1.heap.size, 0 + m, none⟩ (u8 (Pl.letter al v))) x1 := grown_kp hg1 (fun _ e => by cases e)
  rcases ho1.form with ⟨_, e0⟩ | ⟨g, cap, cs, e1, hb1, hl1, hcs1, hcc⟩
  · have := congrArg List.length e0; rw [bv_length] at this; simp at this; simp [this] at hma
  rw [bv_length] at e1 hl1
  subst e1
  have hgw : g = w2.heap.size := by
    rcases ha1 with e1 | e1
    · cases e1
    · have e2 := Option.some.inj e1
      simp only [World.size_setCell] at e2
      exact e2
  have hrt1 := hrt.kept hk4 (fun _ _ _ => id)
  have hk5 := hk3.trans hk4
  refine W.y (y_cvt rfl hcv) rfl ?_
  refine W.y (y_assign rfl) rfl ?_
  refine W.fin ?_
  refine E.next ?_
  refine C.seq ?_
  refine C.reg ?_
  refine W.y (y_move rfl) rfl ?_
  refine W.y (y_move rfl) rfl ?_
  refine W.y (y_move rfl) rfl ?_
  refine W.y (y_move rfl) rfl ?_
  refine W.y (y_ixs' rfl rfl Try.underlying9 (letter_get hv hf.len)) rfl ?_
  refine W.y (y_ixn rfl rfl Try.underlying24 siz5 (by omega)) rfl ?_
  refine W.s (s_store rfl rfl rfl siz5 (Bk.some hbt (by omega)) (Bk.frozen hbt (by simp only; omega))) ?_
  refine W.fin ?_
  refine E.next ?_
  refine C.seq ?_
  refine C.reg ?_
  refine W.y (y_move rfl) rfl ?_
  refine W.y (y_app rfl rfl hr1) rfl ?_
  refine W.y (y_assign rfl) rfl ?_
  refine W.fin ?_
  refine E.next ?_
  refine C.seq ?_
  refine C.seq ?_
  refine C.reg ?_
  refine W.y (y_move rfl) rfl ?_
  refine W.fin ?_
  refine E.next ?_
  refine C.block ?_
  refine C.loop (σ := Nat × Array Value × List UInt8) (fun (j, ci, wl) w' => j ≤ 6 ∧ Bk w' g ci 5 (0, 0) ∧ ci.size = cap ∧ wl.length = a.length ∧ (∀ (i : Nat) (x : UInt8), wl[i]? = some x → ci[i]? = some (u8 x)) ∧ (∀ p, Pl.bit wl p = if 6 * m ≤ p ∧ p < 6 * m + j then v / 2 ^ (5 - (p - 6 * m)) % 2 else Pl.bit a p) ∧ Rd w' (some ⟨w1.heap.size, 0, none⟩) (bv tl) ∧ Kp (fun _ => False) w w') (fun (j, _, _) => [(0, str al), (1, .int .i64 pad), (2, .slice A a.length c), (3, .int .i64 (m : Int)), (4, .int .i64 (v : Int)), (11, .slice (some ⟨w1.heap.size, 0, none⟩) tx.length tc), (12, .slice (some ⟨g, 0, none⟩) a.length cap), (56, .int .i64 (j : Int))]) (fun (j, _, _) => 6 - j) (0, cs, a) ?_ ?_ ?_
  · exact ⟨by omega, hb1, hcs1, rfl, (fun i x hx => hcc _ _ (by simp [bv, hx])), (fun p => by rw [if_neg (by omega)]), hrt1, hk5⟩
  · exact (Sub.cons rfl (Sub.cons rfl (Sub.cons rfl (Sub.cons rfl (Sub.cons rfl (Sub.cons rfl (Sub.cons rfl (Sub.cons rfl (Sub.nil _)))))))))
  rintro ⟨j, ci, wl⟩ wi ⟨hj, hbi, hsi, hwl, hwc, hbit, hrti, hki⟩
  show C _ _ _ _ [(0, str al), (1, .int .i64 pad), (2, .slice A a.length c), (3, .int .i64 (m : Int)), (4, .int .i64 (v : Int)), (11, .slice (some ⟨w1.heap.size, 0, none⟩) tx.length tc), (12, .slice (some ⟨g, 0, none⟩) a.length cap), (56, .int .i64 (j : Int))] _
  by_cases h : j < 6
  · have hp8 : (6 * m + j) / 8 < a.length := by omega
    obtain ⟨e, he⟩ : ∃ e, wl[(6 * m + j) / 8]? = some e := ⟨_, List.getElem?_eq_getElem (by omega)⟩
    have he8 : e.toNat < 256 := e.toNat_lt
    have hs8 := shr8 ((6 * m + j) % 8)
    obtain ⟨e1, he1⟩ : ∃ e1, e1 = e.toNat &&& (255 - 128 / 2 ^ ((6 * m + j) % 8)) := ⟨_, rfl⟩
    have he18 : e1 < 256 := by rw [he1]; exact Nat.lt_of_le_of_lt Nat.and_le_left he8
    have hcell : wi.cell? ⟨g, 0 + (6 * m + j) / 8, none⟩ = some (u8 e) := by rw [Nat.zero_add]; exact hbi.at_ (hwc _ _ he)
    have hb2 := Bk.set hbi (0 + (6 * m + j) / 8) (.int .u8 (e1 : Int))
    have hcell2 : (wi.setCell ⟨g, 0 + (6 * m + j) / 8, none⟩ (.int .u8 (e1 : Int))).cell? ⟨g, 0 + (6 * m + j) / 8, none⟩ = some (.int .u8 (e1 : Int)) := hb2.at_ (by rw [Array.getElem?_setIfInBounds, if_pos rfl, if_pos (by omega)])
    have hgs : w.heap.size ≤ g := by have := hw1.size; omega
    have hng : g ≠ w1.heap.size := by omega
    have hrt2 : ∀ (W : World) (x : Value), Rd W (some ⟨w1.heap.size, 0, none⟩) (bv tl) → Rd (W.setCell ⟨g, 0 + (6 * m + j) / 8, none⟩ x) (some ⟨w1.heap.size, 0, none⟩) (bv tl) := fun W x h => Rd.of_bs (by
      rcases h.bs with h0 | ⟨g2, o2, e2, h2⟩
      · intro i y hy; have := get_lt hy; omega
      · cases e2; exact h2.far (.inl (fun q => hng q.symm)) x)
    obtain ⟨vj, hvj⟩ : ∃ vj, vj = v / 2 ^ (5 - j) := ⟨_, rfl⟩
    by_cases ht : vj % 2 = 1
    · have hor : e1 ||| 128 / 2 ^ ((6 * m + j) % 8) < 256 := Nat.or_lt_two_pow (n := 8) he18 hs8
      refine C.seq ?_
      refine C.reg ?_
      refine W.y (y_lssT rfl rfl (by omega)) rfl ?_
      refine W.fin ?_
      refine E.next ?_
      refine C.seq ?_
      refine C.yes rfl ?_
      refine C.skip ?_
      refine E.next ?_
      refine C.seq ?_
      refine C.block ?_
      refine C.seq ?_
      refine C.reg ?_
      refine W.y (y_move rfl) rfl ?_
      refine W.y (y_assign rfl) rfl ?_
      refine W.fin ?_
      refine E.next ?_
      refine C.seq ?_
      refine C.reg ?_
      refine W.y (y_move rfl) rfl ?_
      refine W.y (y_mul rfl rfl (wi64 (by omega) (by omega))) rfl ?_
      refine W.y (y_move rfl) rfl ?_
      refine W.y (Does.as (y_add rfl rfl (wi64 (by omega) (by omega))) (vint (b := ((6 * m + j : Nat) : Int)) (by omega))) rfl ?_
      refine W.y (y_assign rfl) rfl ?_
      refine W.fin ?_
      refine E.next ?_
      refine C.seq ?_
      refine C.reg ?_
      refine W.y (y_move rfl) rfl ?_
      refine W.y (Does.as (y_rem rfl rfl (by omega) (by omega)) (vint (b := (((6 * m + j) % 8 : Nat) : Int)) (by omega))) rfl ?_
      refine W.y (y_convN uk64 rfl Try.underlying3 Try.underlying35 (by omega)) rfl ?_
      refine W.y (y_shr uk8 (a := 128) (s := (6 * m + j) % 8) rfl rfl (by omega)) rfl ?_
      refine W.y (y_assign rfl) rfl ?_
      refine W.fin ?_
      refine E.next ?_
      refine C.seq ?_
      refine C.reg ?_
      refine W.y (y_move rfl) rfl ?_
      refine W.y (y_move rfl) rfl ?_
      refine W.y (Does.as (y_quo rfl rfl (by omega) (by omega) (by omega)) (vint (b := (((6 * m + j) / 8 : Nat) : Int)) (by omega))) rfl ?_
      refine W.y (y_ixn rfl rfl Try.underlying24 siz5 (by omega)) rfl ?_
      refine W.y (y_load rfl pl5 hcell) rfl ?_
      refine W.y (y_move rfl) rfl ?_
      refine W.y (Does.as (y_andNot8 rfl rfl he8 hs8) (vint (b := (e1 : Int)) (by rw [he1]))) rfl ?_
      refine W.y (y_ixn rfl rfl Try.underlying24 siz5 (by omega)) rfl ?_
      refine W.s (s_store rfl rfl rfl siz5 (Bk.some hbi (by omega)) (Bk.melt hbi)) ?_
      refine W.fin ?_
      refine E.next ?_
      refine C.seq ?_
      refine C.reg ?_
      refine W.y (y_move rfl) rfl ?_
      refine W.y (y_move rfl) rfl ?_
      refine W.y (Does.as (y_sub rfl rfl (wi64 (by omega) (by omega))) (vint (b := ((5 - j : Nat) : Int)) (by omega))) rfl ?_
      refine W.y (y_convN uk64 rfl Try.underlying3 Try.underlying35 (by omega)) rfl ?_
      refine W.y (Does.as (y_shrI (s := 5 - j) rfl rfl (by omega)) (vint (b := (vj : Int)) (by rw [hvj]))) rfl ?_
      refine W.y (y_rem rfl rfl (by omega) (by omega)) rfl ?_
      refine W.y (y_eqlT rfl rfl (by omega)) rfl ?_
      refine W.fin ?_
      refine E.next ?_
      refine C.yes rfl ?_
      refine C.reg ?_
      refine W.y (y_move rfl) rfl ?_
      refine W.y (y_move rfl) rfl ?_
      refine W.y (Does.as (y_quo rfl rfl (by omega) (by omega) (by omega)) (vint (b := (((6 * m + j) / 8 : Nat) : Int)) (by omega))) rfl ?_
      refine W.y (y_ixn rfl rfl Try.underlying24 siz5 (by omega)) rfl ?_
      refine W.y (y_load rfl pl5 hcell2) rfl ?_
      refine W.y (y_move rfl) rfl ?_
      refine W.y (y_or uk8 rfl rfl he18 hs8) rfl ?_
      refine W.y (y_ixn rfl rfl Try.underlying24 siz5 (by omega)) rfl ?_
      refine W.s (s_store rfl rfl rfl siz5 (Bk.some hb2 (by rw [Array.size_setIfInBounds]; omega)) (Bk.melt hb2)) ?_
      refine W.fin ?_
      refine E.blockNormal ?_
      refine E.next ?_
      refine C.reg ?_
      refine W.y (y_add rfl rfl (wi64 (by omega) (by omega))) rfl ?_
      refine W.y (y_move rfl) rfl ?_
      refine W.fin ?_
      refine E.again (j + 1, _, wl.set ((6 * m + j) / 8) (UInt8.ofNat (e1 ||| 128 / 2 ^ ((6 * m + j) % 8)))) ⟨by omega, Bk.set hb2 (0 + (6 * m + j) / 8) _, by simp only [Array.size_setIfInBounds]; exact hsi, by rw [List.length_set, hwl], ?_, ?_, hrt2 _ _ (hrt2 _ _ hrti), (hki.set (.inr hgs) _).set (.inr hgs) _⟩ (Sub.cons rfl (Sub.cons rfl (Sub.cons rfl (Sub.cons rfl (Sub.cons rfl (Sub.cons rfl (Sub.cons rfl (Sub.cons rfl (Sub.nil _))))))))) (by show 6 - (j + 1) < 6 - j; omega)
      · intro i x hx
        rw [Nat.zero_add]
        by_cases hi : (6 * m + j) / 8 = i
        · subst hi
          rw [List.getElem?_set_self (by omega)] at hx
          injection hx with hx
          rw [Array.getElem?_setIfInBounds, if_pos rfl, if_pos (by first | omega | (simp only [Array.size_setIfInBounds]; omega)), ← hx]
          unfold u8
          rw [byte_of hor]
        · rw [List.getElem?_set_ne hi] at hx
          rw [Array.getElem?_setIfInBounds, if_neg hi, Array.getElem?_setIfInBounds, if_neg hi]
          exact hwc _ _ hx
      · intro p
        rw [bit_put (k := (6 * m + j)) (t := vj % 2) he (by omega) (by rw [byte_of hor, if_pos ht, he1]), hbit p]
        by_cases hp : p = (6 * m + j)
        · rw [if_pos hp, if_pos (by omega), show p - 6 * m = j by omega, hvj]
        · rw [if_neg hp]
          by_cases hq : 6 * m ≤ p ∧ p < 6 * m + j
          · rw [if_pos hq, if_pos (by omega)]
          · rw [if_neg hq, if_neg (by omega)]
    · skip
      refine C.seq ?_
      refine C.reg ?_
      refine W.y (y_lssT rfl rfl (by omega)) rfl ?_
      refine W.fin ?_
      refine E.next ?_
      refine C.seq ?_
      refine C.yes rfl ?_
      refine C.skip ?_
      refine E.next ?_
      refine C.seq ?_
      refine C.block ?_
      refine C.seq ?_
      refine C.reg ?_
      refine W.y (y_move rfl) rfl ?_
      refine W.y (y_assign rfl) rfl ?_
      refine W.fin ?_
      refine E.next ?_
      refine C.seq ?_
      refine C.reg ?_
      refine W.y (y_move rfl) rfl ?_
      refine W.y (y_mul rfl rfl (wi64 (by omega) (by omega))) rfl ?_
      refine W.y (y_move rfl) rfl ?_
      refine W.y (Does.as (y_add rfl rfl (wi64 (by omega) (by omega))) (vint (b := ((6 * m + j : Nat) : Int)) (by omega))) rfl ?_
      refine W.y (y_assign rfl) rfl ?_
      refine W.fin ?_
      refine E.next ?_
      refine C.seq ?_
      refine C.reg ?_
      refine W.y (y_move rfl) rfl ?_
      refine W.y (Does.as (y_rem rfl rfl (by omega) (by omega)) (vint (b := (((6 * m + j) % 8 : Nat) : Int)) (by omega))) rfl ?_
      refine W.y (y_convN uk64 rfl Try.underlying3 Try.underlying35 (by omega)) rfl ?_
      refine W.y (y_shr uk8 (a := 128) (s := (6 * m + j) % 8) rfl rfl (by omega)) rfl ?_
      refine W.y (y_assign rfl) rfl ?_
      refine W.fin ?_
      refine E.next ?_
      refine C.seq ?_
      refine C.reg ?_
      refine W.y (y_move rfl) rfl ?_
      refine W.y (y_move rfl) rfl ?_
      refine W.y (Does.as (y_quo rfl rfl (by omega) (by omega) (by omega)) (vint (b := (((6 * m + j) / 8 : Nat) : Int)) (by omega))) rfl ?_
      refine W.y (y_ixn rfl rfl Try.underlying24 siz5 (by omega)) rfl ?_
      refine W.y (y_load rfl pl5 hcell) rfl ?_
      refine W.y (y_move rfl) rfl ?_
      refine W.y (Does.as (y_andNot8 rfl rfl he8 hs8) (vint (b := (e1 : Int)) (by rw [he1]))) rfl ?_
      refine W.y (y_ixn rfl rfl Try.underlying24 siz5 (by omega)) rfl ?_
      refine W.s (s_store rfl rfl rfl siz5 (Bk.some hbi (by omega)) (Bk.melt hbi)) ?_
      refine W.fin ?_
      refine E.next ?_
      refine C.seq ?_
      refine C.reg ?_
      refine W.y (y_move rfl) rfl ?_
      refine W.y (y_move rfl) rfl ?_
      refine W.y (Does.as (y_sub rfl rfl (wi64 (by omega) (by omega))) (vint (b := ((5 - j : Nat) : Int)) (by omega))) rfl ?_
      refine W.y (y_convN uk64 rfl Try.underlying3 Try.underlying35 (by omega)) rfl ?_
      refine W.y (Does.as (y_shrI (s := 5 - j) rfl rfl (by omega)) (vint (b := (vj : Int)) (by rw [hvj]))) rfl ?_
      refine W.y (y_rem rfl rfl (by omega) (by omega)) rfl ?_
      refine W.y (y_eqlF rfl rfl (by omega)) rfl ?_
      refine W.fin ?_
      refine E.next ?_
      refine C.no rfl ?_
      refine C.skip ?_
      refine E.blockNormal ?_
      refine E.next ?_
      refine C.reg ?_
      refine W.y (y_add rfl rfl (wi64 (by omega) (by omega))) rfl ?_
      refine W.y (y_move rfl) rfl ?_
      refine W.fin ?_
      refine E.again (j + 1, _, wl.set ((6 * m + j) / 8) (UInt8.ofNat e1)) ⟨by omega, hb2, by simp only [Array.size_setIfInBounds]; exact hsi, by rw [List.length_set, hwl], ?_, ?_, hrt2 _ _ hrti, hki.set (.inr hgs) _⟩ (Sub.cons rfl (Sub.cons rfl (Sub.cons rfl (Sub.cons rfl (Sub.cons rfl (Sub.cons rfl (Sub.cons rfl (Sub.cons rfl (Sub.nil _))))))))) (by show 6 - (j + 1) < 6 - j; omega)
      · intro i x hx
        rw [Nat.zero_add]
        by_cases hi : (6 * m + j) / 8 = i
        · subst hi
          rw [List.getElem?_set_self (by omega)] at hx
          injection hx with hx
          rw [Array.getElem?_setIfInBounds, if_pos rfl, if_pos (by first | omega | (simp only [Array.size_setIfInBounds]; omega)), ← hx]
          unfold u8
          rw [byte_of he18]
        · rw [List.getElem?_set_ne hi] at hx
          rw [Array.getElem?_setIfInBounds, if_neg hi]
          exact hwc _ _ hx
      · intro p
        rw [bit_put (k := (6 * m + j)) (t := vj % 2) he (by omega) (by rw [byte_of he18, if_neg ht, he1]), hbit p]
        by_cases hp : p = (6 * m + j)
        · rw [if_pos hp, if_pos (by omega), show p - 6 * m = j by omega, hvj]
        · rw [if_neg hp]
          by_cases hq : 6 * m ≤ p ∧ p < 6 * m + j
          · rw [if_pos hq, if_pos (by omega)]
          · rw [if_neg hq, if_neg (by omega)]
  obtain rfl : j = 6 := by omega
  have hun := oneletter (bits := 6) (v := v) (by omega) (by omega) hwl hmn hbit
  have hcv2 := run_b2s (P := Try.prog) (t := 24) (t' := 9) (c := tc) Try.underlying24 Try.underlying5 Try.underlying9 hrti
  rw [htll] at hcv2
  have hrw : Rd wi (some ⟨g, 0, none⟩) (bv wl) := Rd.of_bs (Bs.of_row hbi (fun i x hx => by rw [Nat.zero_add]; exact hwc i x hx))
  have hln : ((Pl.nums 6 a).set m v).length = Pl.nlet 6 a.length := by rw [List.length_set, Pl.nums_length]
  have hul : wl.length = 6 * ((Pl.nums 6 a).set m v).length / 8 := by rw [← Pl.unpack_length, hun]
  refine C.seq ?_
  refine C.reg ?_
  refine W.y (y_lssF rfl rfl (by omega)) rfl ?_
  refine W.fin ?_
  refine E.next ?_
  refine C.seq ?_
  refine C.no rfl ?_
  refine C.exit ?_
  refine E.thenExit ?_
  refine E.thenExit ?_
  refine E.blockOut ?_
  refine E.next ?_
  refine C.seq ?_
  refine C.reg ?_
  refine W.y (y_move rfl) rfl ?_
  refine W.y (y_move rfl) rfl ?_
  refine W.y (y_move rfl) rfl ?_
  refine W.y (y_cvt rfl hcv2) rfl ?_
  refine W.call ent25 rfl (decodeImpl64_ret (vs := (Pl.nums 6 a).set m v) hf (fun e => by cases e) (nums_set_lt (bits := 6) hv) ⟨_, hln⟩ hform (by omega)) rfl ?_
  rintro _ w5 ⟨B5, c5, rfl, hr5, hc5, hw5⟩
  rw [hun] at hr5
  refine W.y (y_move rfl) rfl ?_
  refine W.y (y_ext rfl rfl) rfl ?_
  refine W.y (y_ext rfl rfl) rfl ?_
  refine W.y (y_ext rfl rfl) rfl ?_
  refine W.y (y_assign rfl) rfl ?_
  refine W.y (y_assign rfl) rfl ?_
  refine W.y (y_assign rfl) rfl ?_
  refine W.fin ?_
  refine E.next ?_
  refine C.seq ?_
  refine C.reg ?_
  refine W.y (y_move rfl) rfl ?_
  refine W.y (y_move rfl) rfl ?_
  refine W.gy rfl rfl (y_move rfl) rfl ?_
  refine W.gy rfl rfl (y_move rfl) rfl ?_
  refine W.gCall rfl rfl ent26 rfl (same_ret hr5 hul (hrw.kept hw5 (fun _ _ _ => id)) hwl) rfl ?_
  rintro _ _ ⟨rfl, rfl⟩
  refine W.y (y_pick rfl rfl) rfl ?_
  refine W.y (y_assign rfl) rfl ?_
  refine W.fin ?_
  refine E.next ?_
  refine C.ret ?_
  exact E.ret1 rfl rfl ⟨rfl, hki.trans hw5⟩
end Go.Proofs.Ytmbglgepomeilaa
