/-
  Walk: FnOrder.
-/
import Derived.Test.YtmbglgepomeilaaLH
import Derived.Test.YtmbglgepomeilaaOrd
namespace Go.Proofs.Ytmbglgepomeilaa
open Go.RowKit

set_option maxRecDepth 4000 in
theorem fnOrder64_ret {w : World} {A A2 : Option Addr} {c n c2 n2 : Nat} {al : List UInt8} {pad : Int} {a b : List UInt8} (hal : al.length ≤ 9223372036854775807) (hA : Rd w A (bv a)) (hn : a.length = n) (hc : n ≤ c) (hN : n ≤ 140737488351232) (hB : Rd w A2 (bv b)) (hn2 : b.length = n2) (hc2 : n2 ≤ c2) (hN2 : n2 ≤ 140737488351232) :
    Ret Try.prog 11 #[str al, .int .i64 pad, .slice A n c, .slice A2 n2 c2] w fun v w' => v = .bool true ∧ Kp (fun _ => False) w w' := by
  subst hn hn2
  have hc0 := (Pl.letter al 0).toNat_lt
  by_cases hp : ((Pl.letter al 0).toNat : Int) ≤ pad
  · refine ret_of Try.func11 rfl Try.ntmps11 (Nat.le_of_ble_eq_true rfl) ?_
    refine C.seq ?_
    refine C.reg ?_
    refine W.y (y_assign rfl) rfl ?_
    refine W.fin ?_
    refine E.next ?_
    refine C.seq ?_
    refine C.seq ?_
    refine C.reg ?_
    refine W.y (y_move rfl) rfl ?_
    refine W.y (y_move rfl) rfl ?_
    refine W.call ent15 rfl (fit_ret (N := 64) (by omega)) rfl ?_
    rintro _ _ ⟨rfl, ⟨rfl, hf⟩ | rfl⟩
    rotate_left
    · skip
      refine W.y (y_not rfl) rfl ?_
      refine W.y (y_move rfl) rfl ?_
      refine W.gn rfl rfl rfl ?_
      refine W.gn rfl rfl rfl ?_
      refine W.gn rfl rfl rfl ?_
      refine W.gn rfl rfl rfl ?_
      refine W.gn rfl rfl rfl ?_
      refine W.y (y_pick rfl rfl) rfl ?_
      refine W.fin ?_
      refine E.next ?_
      refine C.yes rfl ?_
      refine C.seq ?_
      refine C.reg ?_
      refine W.y (y_assign rfl) rfl ?_
      refine W.fin ?_
      refine E.next ?_
      refine C.ret ?_
      refine E.thenRet ?_
      exact E.ret1 rfl rfl ⟨rfl, Kp.refl _ _⟩
    refine W.y (y_not rfl) rfl ?_
    refine W.y (y_move rfl) rfl ?_
    refine W.gy rfl rfl (y_move rfl) rfl ?_
    refine W.gy rfl rfl (y_move rfl) rfl ?_
    refine W.gy rfl rfl (y_ixs' (i := 0) rfl rfl Try.underlying9 (letter_get (i := 0) (by omega) hf.len)) rfl ?_
    refine W.gy rfl rfl (y_convI rfl Try.underlying5 Try.underlying2 (by omega)) rfl ?_
    refine W.gy rfl rfl (y_geqT rfl rfl (by omega)) rfl ?_
    refine W.y (y_pick rfl rfl) rfl ?_
    refine W.fin ?_
    refine E.next ?_
    refine C.yes rfl ?_
    refine C.seq ?_
    refine C.reg ?_
    refine W.y (y_assign rfl) rfl ?_
    refine W.fin ?_
    refine E.next ?_
    refine C.ret ?_
    refine E.thenRet ?_
    exact E.ret1 rfl rfl ⟨rfl, Kp.refl _ _⟩
  refine ret_of Try.func11 rfl Try.ntmps11 (Nat.le_of_ble_eq_true rfl) ?_
  refine C.seq ?_
  refine C.reg ?_
  refine W.y (y_assign rfl) rfl ?_
  refine W.fin ?_
  refine E.next ?_
  refine C.seq ?_
  refine C.seq ?_
  refine C.reg ?_
  refine W.y (y_move rfl) rfl ?_
  refine W.y (y_move rfl) rfl ?_
  refine W.call ent15 rfl (fit_ret (N := 64) (by omega)) rfl ?_
  rintro _ _ ⟨rfl, ⟨rfl, hf⟩ | rfl⟩
  rotate_left
  · skip
    refine W.y (y_not rfl) rfl ?_
    refine W.y (y_move rfl) rfl ?_
    refine W.gn rfl rfl rfl ?_
    refine W.gn rfl rfl rfl ?_
    refine W.gn rfl rfl rfl ?_
    refine W.gn rfl rfl rfl ?_
    refine W.gn rfl rfl rfl ?_
    refine W.y (y_pick rfl rfl) rfl ?_
    refine W.fin ?_
    refine E.next ?_
    refine C.yes rfl ?_
    refine C.seq ?_
    refine C.reg ?_
    refine W.y (y_assign rfl) rfl ?_
    refine W.fin ?_
    refine E.next ?_
    refine C.ret ?_
    refine E.thenRet ?_
    exact E.ret1 rfl rfl ⟨rfl, Kp.refl _ _⟩
  refine W.y (y_not rfl) rfl ?_
  refine W.y (y_move rfl) rfl ?_
  refine W.gy rfl rfl (y_move rfl) rfl ?_
  refine W.gy rfl rfl (y_move rfl) rfl ?_
  refine W.gy rfl rfl (y_ixs' (i := 0) rfl rfl Try.underlying9 (letter_get (i := 0) (by omega) hf.len)) rfl ?_
  refine W.gy rfl rfl (y_convI rfl Try.underlying5 Try.underlying2 (by omega)) rfl ?_
  refine W.gy rfl rfl (y_geqF rfl rfl (by omega)) rfl ?_
  refine W.y (y_pick rfl rfl) rfl ?_
  refine W.fin ?_
  refine E.next ?_
  refine C.no rfl ?_
  refine C.skip ?_
  refine E.next ?_
  refine C.seq ?_
  refine C.seq ?_
  refine C.reg ?_
  refine W.y (y_assign rfl) rfl ?_
  refine W.fin ?_
  refine E.next ?_
  refine C.block ?_
  refine C.loop (σ := Nat) (fun i w' => 1 ≤ i ∧ i ≤ al.length ∧ (∀ (j : Nat) (p q : UInt8), j + 1 < i → al[j]? = some p → al[j + 1]? = some q → p.toNat < q.toNat) ∧ Kp (fun _ => False) w w') (fun i => [(0, str al), (1, .int .i64 pad), (2, .slice A a.length c), (3, .slice A2 b.length c2), (9, .int .i64 (i : Int))]) (fun i => al.length - i) 1 ?_ ?_ ?_
  · exact ⟨by omega, by have := hf.len; omega, fun j p q hj => by omega, Kp.refl _ _⟩
  · exact (Sub.cons rfl (Sub.cons rfl (Sub.cons rfl (Sub.cons rfl (Sub.cons rfl (Sub.nil _))))))
  rintro i wi ⟨hi1, hi, hinc, hki⟩
  show C _ _ _ _ [(0, str al), (1, .int .i64 pad), (2, .slice A a.length c), (3, .slice A2 b.length c2), (9, .int .i64 (i : Int))] _
  by_cases h : i < al.length
  · obtain ⟨p, hpc⟩ : ∃ p, al[i - 1]? = some p := ⟨_, List.getElem?_eq_getElem (by omega)⟩
    obtain ⟨q, hqc⟩ : ∃ q, al[i]? = some q := ⟨_, List.getElem?_eq_getElem h⟩
    by_cases hpq : q.toNat ≤ p.toNat
    · skip
      refine C.seq ?_
      refine C.seq ?_
      refine C.reg ?_
      refine W.y (y_move rfl) rfl ?_
      refine W.y (y_move rfl) rfl ?_
      refine W.y (y_len' rfl Try.underlying9) rfl ?_
      refine W.y (y_lssT rfl rfl (by omega)) rfl ?_
      refine W.fin ?_
      refine E.next ?_
      refine C.yes rfl ?_
      refine C.skip ?_
      refine E.next ?_
      refine C.seq ?_
      refine C.block ?_
      refine C.seq ?_
      refine C.still mixed (by kernel_rfl) ?_
      refine S.y (y_move rfl) rfl ?_
      refine S.y (y_move rfl) rfl ?_
      refine S.y (Does.as (y_sub rfl rfl (wi64 (by omega) (by omega))) (vint (b := ((i - 1 : Nat) : Int)) (by omega))) rfl ?_
      refine S.y (y_ixs' (i := i - 1) rfl rfl Try.underlying9 hpc) rfl ?_
      refine S.y (y_move rfl) rfl ?_
      refine S.y (y_move rfl) rfl ?_
      refine S.y (y_ixs' rfl rfl Try.underlying9 hqc) rfl ?_
      refine S.y (y_geqT rfl rfl (by omega)) rfl ?_
      refine S.end_ ?_
      refine E.next ?_
      refine C.yes rfl ?_
      refine C.seq ?_
      refine C.reg ?_
      refine W.y (y_assign rfl) rfl ?_
      refine W.fin ?_
      refine E.next ?_
      refine C.ret ?_
      refine E.blockRet ?_
      refine E.thenRet ?_
      refine E.thenRet ?_
      refine E.blockRet ?_
      refine E.thenRet ?_
      exact E.ret1 rfl rfl ⟨rfl, hki.drew⟩
    · skip
      refine C.seq ?_
      refine C.seq ?_
      refine C.reg ?_
      refine W.y (y_move rfl) rfl ?_
      refine W.y (y_move rfl) rfl ?_
      refine W.y (y_len' rfl Try.underlying9) rfl ?_
      refine W.y (y_lssT rfl rfl (by omega)) rfl ?_
      refine W.fin ?_
      refine E.next ?_
      refine C.yes rfl ?_
      refine C.skip ?_
      refine E.next ?_
      refine C.seq ?_
      refine C.block ?_
      refine C.seq ?_
      refine C.still mixed (by kernel_rfl) ?_
      refine S.y (y_move rfl) rfl ?_
      refine S.y (y_move rfl) rfl ?_
      refine S.y (Does.as (y_sub rfl rfl (wi64 (by omega) (by omega))) (vint (b := ((i - 1 : Nat) : Int)) (by omega))) rfl ?_
      refine S.y (y_ixs' (i := i - 1) rfl rfl Try.underlying9 hpc) rfl ?_
      refine S.y (y_move rfl) rfl ?_
      refine S.y (y_move rfl) rfl ?_
      refine S.y (y_ixs' rfl rfl Try.underlying9 hqc) rfl ?_
      refine S.y (y_geqF rfl rfl (by omega)) rfl ?_
      refine S.end_ ?_
      refine E.next ?_
      refine C.no rfl ?_
      refine C.skip ?_
      refine E.blockNormal ?_
      refine E.next ?_
      refine C.reg ?_
      refine W.y (y_move rfl) rfl ?_
      refine W.y (y_add rfl rfl (wi64 (by omega) (by omega))) rfl ?_
      refine W.y (y_assign rfl) rfl ?_
      refine W.fin ?_
      refine E.again (i + 1) ⟨by omega, by omega, fun j x y hj hx hy => ?_, hki.drew⟩ (Sub.cons rfl (Sub.cons rfl (Sub.cons rfl (Sub.cons rfl (Sub.cons rfl (Sub.nil _)))))) (by omega)
      by_cases e : j + 1 = i
      · have e2 : j = i - 1 := by omega
        rw [e2, hpc] at hx
        rw [e, hqc] at hy
        injection hx with hx
        injection hy with hy
        subst hx hy
        omega
      · exact hinc j x y (by omega) hx hy
  · have hia := inc_all hf.len (fun j p q hp hq => hinc j p q (by have := get_lt hq; omega) hp hq)
    have hol := order_law (bits := 6) (block := 4) (al := al) (pad := pad) (a := a) (b := b) (by omega) (by omega) rfl hia (by omega)
    refine C.seq ?_
    refine C.seq ?_
    refine C.reg ?_
    refine W.y (y_move rfl) rfl ?_
    refine W.y (y_move rfl) rfl ?_
    refine W.y (y_len' rfl Try.underlying9) rfl ?_
    refine W.y (y_lssF rfl rfl (by omega)) rfl ?_
    refine W.fin ?_
    refine E.next ?_
    refine C.no rfl ?_
    refine C.exit ?_
    refine E.thenExit ?_
    refine E.thenExit ?_
    refine E.blockOut ?_
    refine E.next ?_
    refine C.seq ?_
    refine C.reg ?_
    refine W.y (y_move rfl) rfl ?_
    refine W.y (y_move rfl) rfl ?_
    refine W.y (y_move rfl) rfl ?_
    refine W.call ent27 rfl (encodeImpl64_ret hf (hA.kept hki (fun _ _ _ => id)) rfl hc (by omega)) rfl ?_
    rintro _ w1 ⟨rfl, hw1⟩
    refine W.y (y_assign rfl) rfl ?_
    refine W.fin ?_
    refine E.next ?_
    refine C.seq ?_
    refine C.reg ?_
    refine W.y (y_move rfl) rfl ?_
    refine W.y (y_move rfl) rfl ?_
    refine W.y (y_move rfl) rfl ?_
    refine W.call ent27 rfl (encodeImpl64_ret hf (hB.kept (hki.trans hw1) (fun _ _ _ => id)) rfl hc2 (by omega)) rfl ?_
    rintro _ w2 ⟨rfl, hw2⟩
    have hk2 := (hki.trans hw1).trans hw2
    have hcv1 := run_b2s (P := Try.prog) (t := 24) (t' := 9) (c := c) Try.underlying24 Try.underlying5 Try.underlying9 (hA.kept hk2 (fun _ _ _ => id))
    have hcv2 := run_b2s (P := Try.prog) (t := 24) (t' := 9) (c := c2) Try.underlying24 Try.underlying5 Try.underlying9 (hB.kept hk2 (fun _ _ _ => id))
    refine W.y (y_assign rfl) rfl ?_
    refine W.fin ?_
    refine E.next ?_
    refine C.seq ?_
    refine C.reg ?_
    refine W.y (y_move rfl) rfl ?_
    refine W.y (y_move rfl) rfl ?_
    refine W.y (y_lts rfl rfl) rfl ?_
    refine W.y (y_move rfl) rfl ?_
    refine W.y (y_cvt rfl hcv1) rfl ?_
    refine W.y (y_move rfl) rfl ?_
    refine W.y (y_cvt rfl hcv2) rfl ?_
    refine W.y (y_lts rfl rfl) rfl ?_
    refine W.y (Does.as (y_eqbool rfl rfl Try.underlying4) (congrArg Value.bool hol.1)) rfl ?_
    refine W.y (y_move rfl) rfl ?_
    refine W.gy rfl rfl (y_move rfl) rfl ?_
    refine W.gy rfl rfl (y_move rfl) rfl ?_
    refine W.gy rfl rfl (y_eqs rfl rfl) rfl ?_
    refine W.gy rfl rfl (y_move rfl) rfl ?_
    refine W.gy rfl rfl (y_cvt rfl hcv1) rfl ?_
    refine W.gy rfl rfl (y_move rfl) rfl ?_
    refine W.gy rfl rfl (y_cvt rfl hcv2) rfl ?_
    refine W.gy rfl rfl (y_eqs rfl rfl) rfl ?_
    refine W.gy rfl rfl (Does.as (y_eqbool rfl rfl Try.underlying4) (congrArg Value.bool hol.2)) rfl ?_
    refine W.y (y_pick rfl rfl) rfl ?_
    refine W.y (y_assign rfl) rfl ?_
    refine W.fin ?_
    refine E.next ?_
    refine C.ret ?_
    exact E.ret1 rfl rfl ⟨rfl, hk2⟩
end Go.Proofs.Ytmbglgepomeilaa
