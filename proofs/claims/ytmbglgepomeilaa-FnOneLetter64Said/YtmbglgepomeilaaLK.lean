/-
  Walks: OrderedNN, FnExactOrdered.
-/
import Derived.Test.YtmbglgepomeilaaLJ
namespace Go.Proofs.Ytmbglgepomeilaa
open Go.RowKit
theorem ent20 : Enters Try.prog 20 := enters_of Try.func20 (by kernel_rfl) rfl
theorem ent21 : Enters Try.prog 21 := enters_of Try.func21 (by kernel_rfl) rfl
theorem ent22 : Enters Try.prog 22 := enters_of Try.func22 (by kernel_rfl) rfl
theorem ent23 : Enters Try.prog 23 := enters_of Try.func23 (by kernel_rfl) rfl
theorem ent24 : Enters Try.prog 24 := enters_of Try.func24 (by kernel_rfl) rfl

def ordAl : List UInt8 := [45, 48, 49, 50, 51, 52, 53, 54, 55, 56, 57, 65, 66, 67, 68, 69, 70, 71, 72, 73, 74, 75, 76, 77, 78, 79, 80, 81, 82, 83, 84, 85, 86, 87, 88, 89, 90, 95, 97, 98, 99, 100, 101, 102, 103, 104, 105, 106, 107, 108, 109, 110, 111, 112, 113, 114, 115, 116, 117, 118, 119, 120, 121, 122]
theorem ordNo : ∀ i : Fin 64, (ordAl[i.val]?).all (fun c => c.toNat != 10 && c.toNat != 13 && c.toNat != 61 && ((c.toNat : Int) != (-1 : Int))) = true := by decide +kernel
theorem ordDup : ∀ i : Fin 64, ∀ j : Fin 64, i.val < j.val → ordAl[i.val]? ≠ ordAl[j.val]? := by decide +kernel
theorem ordFit : Fit 64 ordAl (-1) := by
  have hl : ordAl.length = 64 := rfl
  refine ⟨hl, by omega, by omega, ⟨by omega, by omega⟩, fun i c hc => ?_, fun i j x y hij hx hy e => ?_⟩
  · have := ordNo ⟨i, by have := get_lt hc; omega⟩
    simp only [hc, Option.all_some, Bool.and_eq_true, bne_iff_ne] at this
    exact ⟨this.1.1.1, this.1.1.2, this.1.2, this.2⟩
  · have hj := get_lt hy
    exact ordDup ⟨i, by omega⟩ ⟨j, by omega⟩ hij (by rw [hx, hy, e])
theorem specOrdered_ret {w : World} {A : Option Addr} {n c : Nat} {ps : List (List UInt8)} (hP : Pcs w.heap.size w A ps) (hn : ps.length = n) (hN : ps.flatten.length ≤ 1048576) (hN2 : n ≤ 1048576) :
    Ret Try.prog 21 #[.slice A n c] w fun r w' => r = .tuple #[str (Pl.text 6 4 ordAl (-1) ps.flatten), .int .i64 (ps.flatten.length : Int)] ∧ Kp (fun _ => False) w w' := by
  refine ret_of Try.func21 rfl Try.ntmps21 (Nat.le_of_ble_eq_true rfl) ?_
  refine C.seq ?_
  refine C.reg ?_
  refine W.y (y_assign rfl) rfl ?_
  refine W.y (y_assign rfl) rfl ?_
  refine W.fin ?_
  refine E.next ?_
  refine C.seq ?_
  refine C.reg ?_
  refine W.y (y_move rfl) rfl ?_
  refine W.call ent16 rfl (all_ret hP hn (by omega) (by omega)) rfl ?_
  rintro _ w1 ⟨ho, hob, hk1⟩
  obtain ⟨A1, c1, rfl, hr1, hc1, ha1⟩ := ho.bytes
  refine W.y (y_assign rfl) rfl ?_
  refine W.fin ?_
  refine E.next ?_
  refine C.seq ?_
  refine C.reg ?_
  refine W.y (y_move rfl) rfl ?_
  refine W.call ent18 rfl (text64_ret (al := ordAl) (pad := -1) hr1 rfl (by omega) rfl (by omega) (by omega)) rfl ?_
  rintro _ w2 ⟨rfl, hk2⟩
  refine W.y (y_move rfl) rfl ?_
  refine W.y (y_len rfl Try.underlying24) rfl ?_
  refine W.y (y_assign rfl) rfl ?_
  refine W.y (y_assign rfl) rfl ?_
  refine W.fin ?_
  refine E.next ?_
  refine C.ret ?_
  exact E.ret2 rfl rfl rfl ⟨rfl, hk1.trans hk2⟩
theorem implOrdered_ret {w : World} {A : Option Addr} {n c : Nat} {ps : List (List UInt8)} (hP : Pcs w.heap.size w A ps) (hn : ps.length = n) (hN : ps.flatten.length ≤ 1048576) (hN2 : n ≤ 1048576) :
    Ret Try.prog 23 #[.slice A n c] w fun r w' => r = .tuple #[str (Pl.text 6 4 ordAl (-1) ps.flatten), .int .i64 (ps.flatten.length : Int)] ∧ Kp (fun _ => False) w w' := by
  refine ret_of Try.func23 rfl Try.ntmps23 (Nat.le_of_ble_eq_true rfl) ?_
  refine C.seq ?_
  refine C.reg ?_
  refine W.y (y_assign rfl) rfl ?_
  refine W.y (y_assign rfl) rfl ?_
  refine W.fin ?_
  refine E.next ?_
  refine C.seq ?_
  refine C.reg ?_
  refine W.y (y_move rfl) rfl ?_
  refine W.call ent19 rfl (encodeStream64_ret (al := ordAl) (pad := -1) ordFit hP hn (by omega) (by omega)) rfl ?_
  rintro _ w1 ⟨rfl, hk1⟩
  refine W.y (y_ext rfl rfl) rfl ?_
  refine W.y (y_ext rfl rfl) rfl ?_
  refine W.y (y_assign rfl) rfl ?_
  refine W.y (y_assign rfl) rfl ?_
  refine W.fin ?_
  refine E.next ?_
  refine C.ret ?_
  exact E.ret2 rfl rfl rfl ⟨rfl, hk1⟩
set_option maxRecDepth 4000 in
theorem fnExactOrdered64_ret {w : World} {A : Option Addr} {c n : Nat} {ps : List (List UInt8)} (hP : Pcs w.heap.size w A ps) (hn : ps.length = n) (hM : n ≤ 9223372036854775807) (hL : ∀ p ∈ ps, p.length ≤ 9223372036854775807) :
    Ret Try.prog 5 #[.slice A n c] w fun v w' => v = .bool true ∧ Kp (fun _ => False) w w' := by
  by_cases hbig : ps.length + ps.flatten.length ≤ 1048576
  · refine ret_of Try.func5 rfl Try.ntmps5 (Nat.le_of_ble_eq_true rfl) ?_
    refine C.seq ?_
    refine C.reg ?_
    refine W.y (y_assign rfl) rfl ?_
    refine W.fin ?_
    refine E.next ?_
    refine C.seq ?_
    refine C.reg ?_
    refine W.y (y_assign rfl) rfl ?_
    refine W.fin ?_
    refine E.next ?_
    refine C.seq ?_
    refine C.reg ?_
    refine W.y (y_move rfl) rfl ?_
    refine W.y (y_move rfl) rfl ?_
    refine W.call ent20 rfl (szByteSS_ret hP hn hM hL) rfl ?_
    rintro _ _ ⟨rfl, rfl | ⟨l, hl0, rfl, hsm⟩⟩
    · skip
      refine W.y (y_assign rfl) rfl ?_
      refine W.fin ?_
      refine E.next ?_
      refine C.seq ?_
      refine C.seq ?_
      refine C.reg ?_
      refine W.y (y_move rfl) rfl ?_
      refine W.y (y_lssT rfl rfl (by omega)) rfl ?_
      refine W.fin ?_
      refine E.next ?_
      refine C.yes rfl ?_
      refine C.seq ?_
      refine C.reg ?_
      refine W.y (y_assign rfl) rfl ?_
      refine W.fin ?_
      refine E.next ?_
      refine C.ret ?_
      refine E.thenRet ?_
      exact E.ret1 rfl rfl ⟨rfl, Kp.refl _ _⟩
    · skip
      refine W.y (y_assign rfl) rfl ?_
      refine W.fin ?_
      refine E.next ?_
      refine C.seq ?_
      refine C.seq ?_
      refine C.reg ?_
      refine W.y (y_move rfl) rfl ?_
      refine W.y (y_lssF rfl rfl (by omega)) rfl ?_
      refine W.fin ?_
      refine E.next ?_
      refine C.no rfl ?_
      refine C.skip ?_
      refine E.next ?_
      refine C.seq ?_
      refine C.reg ?_
      refine W.y (y_move rfl) rfl ?_
      refine W.call ent22 rfl (toByteSS_ret hP hn (by omega) (by omega)) rfl ?_
      rintro _ w1 ⟨⟨B1, rfl, hQB1⟩, k1⟩
      refine W.call ent21 rfl (specOrdered_ret hQB1 hn (by omega) (by omega)) rfl ?_
      rintro _ w2 ⟨rfl, k2⟩
      have K2 := k1.trans k2
      refine W.y (y_move rfl) rfl ?_
      refine W.y (y_ext rfl rfl) rfl ?_
      refine W.y (y_ext rfl rfl) rfl ?_
      refine W.y (y_assign rfl) rfl ?_
      refine W.y (y_assign rfl) rfl ?_
      refine W.fin ?_
      refine E.next ?_
      refine C.seq ?_
      refine C.reg ?_
      refine W.y (y_move rfl) rfl ?_
      refine W.call ent22 rfl (toByteSS_ret (hP.on K2) hn (by omega) (by omega)) rfl ?_
      rintro _ w3 ⟨⟨B2, rfl, hQB2⟩, k3⟩
      refine W.y (y_assign rfl) rfl ?_
      refine W.fin ?_
      refine E.next ?_
      refine C.seq ?_
      refine C.reg ?_
      refine W.y (y_move rfl) rfl ?_
      refine W.call ent23 rfl (implOrdered_ret hQB2 hn (by omega) (by omega)) rfl ?_
      rintro _ w4 ⟨rfl, k4⟩
      have K4 := (K2.trans k3).trans k4
      have hQ4 := hQB2.on k4
      refine W.y (y_move rfl) rfl ?_
      refine W.y (y_ext rfl rfl) rfl ?_
      refine W.y (y_ext rfl rfl) rfl ?_
      refine W.y (y_assign rfl) rfl ?_
      refine W.y (y_assign rfl) rfl ?_
      refine W.fin ?_
      refine E.next ?_
      refine C.seq ?_
      refine C.seq ?_
      refine C.reg ?_
      refine W.y (y_move rfl) rfl ?_
      refine W.y (y_move rfl) rfl ?_
      refine W.y (y_nesF rfl rfl rfl) rfl ?_
      refine W.y (y_move rfl) rfl ?_
      refine W.gy rfl rfl (y_move rfl) rfl ?_
      refine W.gy rfl rfl (y_move rfl) rfl ?_
      refine W.gy rfl rfl (y_neqF rfl rfl (by omega)) rfl ?_
      refine W.y (y_pick rfl rfl) rfl ?_
      refine W.fin ?_
      refine E.next ?_
      refine C.no rfl ?_
      refine C.skip ?_
      refine E.next ?_
      refine C.seq ?_
      refine C.seq ?_
      refine C.reg ?_
      refine W.y (y_move rfl) rfl ?_
      refine W.y (y_move rfl) rfl ?_
      refine W.call ent22 rfl (toByteSS_ret (hP.on K4) hn (by omega) (by omega)) rfl ?_
      rintro _ w5 ⟨⟨B3, rfl, hQB3⟩, k5⟩
      refine W.call ent24 rfl (eqByteSS_ret (hQ4.on k5) hQB3 hn (by omega) (by omega)) rfl ?_
      rintro _ w6 ⟨rfl, k6⟩
      refine W.y (y_not rfl) rfl ?_
      refine W.fin ?_
      refine E.next ?_
      refine C.no rfl ?_
      refine C.skip ?_
      refine E.next ?_
      refine C.seq ?_
      refine C.reg ?_
      refine W.y (y_assign rfl) rfl ?_
      refine W.fin ?_
      refine E.next ?_
      refine C.ret ?_
      exact E.ret1 rfl rfl ⟨rfl, (K4.trans k5).trans k6⟩
  · refine ret_of Try.func5 rfl Try.ntmps5 (Nat.le_of_ble_eq_true rfl) ?_
    refine C.seq ?_
    refine C.reg ?_
    refine W.y (y_assign rfl) rfl ?_
    refine W.fin ?_
    refine E.next ?_
    refine C.seq ?_
    refine C.reg ?_
    refine W.y (y_assign rfl) rfl ?_
    refine W.fin ?_
    refine E.next ?_
    refine C.seq ?_
    refine C.reg ?_
    refine W.y (y_move rfl) rfl ?_
    refine W.y (y_move rfl) rfl ?_
    refine W.call ent20 rfl (szByteSS_ret hP hn hM hL) rfl ?_
    rintro _ _ ⟨rfl, rfl | ⟨l, hl0, rfl, hsm⟩⟩
    · skip
      refine W.y (y_assign rfl) rfl ?_
      refine W.fin ?_
      refine E.next ?_
      refine C.seq ?_
      refine C.seq ?_
      refine C.reg ?_
      refine W.y (y_move rfl) rfl ?_
      refine W.y (y_lssT rfl rfl (by omega)) rfl ?_
      refine W.fin ?_
      refine E.next ?_
      refine C.yes rfl ?_
      refine C.seq ?_
      refine C.reg ?_
      refine W.y (y_assign rfl) rfl ?_
      refine W.fin ?_
      refine E.next ?_
      refine C.ret ?_
      refine E.thenRet ?_
      exact E.ret1 rfl rfl ⟨rfl, Kp.refl _ _⟩
    · skip
      exact absurd hsm hbig
end Go.Proofs.Ytmbglgepomeilaa
