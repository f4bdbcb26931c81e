/-
  Walks: fit, place.
-/
import Derived.Test.YtlcbcedhbahbbaaE64x
namespace Go.Proofs.Ytlcbcedhbahbbaa
open Go.RowKit

set_option maxRecDepth 4000 in
theorem fit_ret {w : World} {N : Nat} {al : List UInt8} {pad : Int} (hal : al.length ≤ 9223372036854775807) :
    Ret Try.prog 4 #[.int .i64 (N : Int), str al, .int .i64 pad] w fun v w' => w = w' ∧ ((v = .bool true ∧ Fit N al pad) ∨ v = .bool false) := by
  by_cases h1 : al.length = N
  rotate_left
  · refine ret_of Try.func4 rfl Try.ntmps4 (Nat.le_of_ble_eq_true rfl) ?_
    refine C.seq ?_
    refine C.reg ?_
    refine W.y (y_assign rfl) rfl ?_
    refine W.fin ?_
    refine E.next ?_
    refine C.seq ?_
    refine C.seq ?_
    refine C.reg ?_
    refine W.y (y_move rfl) rfl ?_
    refine W.y (y_len' rfl Try.underlying9) rfl ?_
    refine W.y (y_move rfl) rfl ?_
    refine W.y (y_neqT rfl rfl (by omega)) rfl ?_
    refine W.y (y_move rfl) rfl ?_
    refine W.gn rfl rfl rfl ?_
    refine W.gn rfl rfl rfl ?_
    refine W.y (y_pick rfl rfl) rfl ?_
    refine W.y (y_move rfl) rfl ?_
    refine W.gn rfl rfl rfl ?_
    refine W.gn rfl rfl rfl ?_
    refine W.y (y_pick rfl rfl) rfl ?_
    refine W.y (y_move rfl) rfl ?_
    refine W.gn rfl rfl rfl ?_
    refine W.gn rfl rfl rfl ?_
    refine W.y (y_pick rfl rfl) rfl ?_
    refine W.y (y_move rfl) rfl ?_
    refine W.gn rfl rfl rfl ?_
    refine W.gn rfl rfl rfl ?_
    refine W.y (y_pick rfl rfl) rfl ?_
    refine W.fin ?_
    refine E.next ?_
    refine C.yes rfl ?_
    refine C.seq ?_
    refine C.reg ?_
    refine W.y (y_assign rfl) rfl ?_
    refine W.fin ?_
    refine E.next ?_
    refine C.ret ?_
    refine E.thenRet ?_
    exact E.ret1 rfl rfl ⟨rfl, .inr rfl⟩
  by_cases h2 : -1 ≤ pad
  rotate_left
  · refine ret_of Try.func4 rfl Try.ntmps4 (Nat.le_of_ble_eq_true rfl) ?_
    refine C.seq ?_
    refine C.reg ?_
    refine W.y (y_assign rfl) rfl ?_
    refine W.fin ?_
    refine E.next ?_
    refine C.seq ?_
    refine C.seq ?_
    refine C.reg ?_
    refine W.y (y_move rfl) rfl ?_
    refine W.y (y_len' rfl Try.underlying9) rfl ?_
    refine W.y (y_move rfl) rfl ?_
    refine W.y (y_neqF rfl rfl (by omega)) rfl ?_
    refine W.y (y_move rfl) rfl ?_
    refine W.gy rfl rfl (y_move rfl) rfl ?_
    refine W.gy rfl rfl (y_lssT rfl rfl (by omega)) rfl ?_
    refine W.y (y_pick rfl rfl) rfl ?_
    refine W.y (y_move rfl) rfl ?_
    refine W.gn rfl rfl rfl ?_
    refine W.gn rfl rfl rfl ?_
    refine W.y (y_pick rfl rfl) rfl ?_
    refine W.y (y_move rfl) rfl ?_
    refine W.gn rfl rfl rfl ?_
    refine W.gn rfl rfl rfl ?_
    refine W.y (y_pick rfl rfl) rfl ?_
    refine W.y (y_move rfl) rfl ?_
    refine W.gn rfl rfl rfl ?_
    refine W.gn rfl rfl rfl ?_
    refine W.y (y_pick rfl rfl) rfl ?_
    refine W.fin ?_
    refine E.next ?_
    refine C.yes rfl ?_
    refine C.seq ?_
    refine C.reg ?_
    refine W.y (y_assign rfl) rfl ?_
    refine W.fin ?_
    refine E.next ?_
    refine C.ret ?_
    refine E.thenRet ?_
    exact E.ret1 rfl rfl ⟨rfl, .inr rfl⟩
  by_cases h3 : pad ≤ 255
  rotate_left
  · refine ret_of Try.func4 rfl Try.ntmps4 (Nat.le_of_ble_eq_true rfl) ?_
    refine C.seq ?_
    refine C.reg ?_
    refine W.y (y_assign rfl) rfl ?_
    refine W.fin ?_
    refine E.next ?_
    refine C.seq ?_
    refine C.seq ?_
    refine C.reg ?_
    refine W.y (y_move rfl) rfl ?_
    refine W.y (y_len' rfl Try.underlying9) rfl ?_
    refine W.y (y_move rfl) rfl ?_
    refine W.y (y_neqF rfl rfl (by omega)) rfl ?_
    refine W.y (y_move rfl) rfl ?_
    refine W.gy rfl rfl (y_move rfl) rfl ?_
    refine W.gy rfl rfl (y_lssF rfl rfl (by omega)) rfl ?_
    refine W.y (y_pick rfl rfl) rfl ?_
    refine W.y (y_move rfl) rfl ?_
    refine W.gy rfl rfl (y_move rfl) rfl ?_
    refine W.gy rfl rfl (y_gtrT rfl rfl (by omega)) rfl ?_
    refine W.y (y_pick rfl rfl) rfl ?_
    refine W.y (y_move rfl) rfl ?_
    refine W.gn rfl rfl rfl ?_
    refine W.gn rfl rfl rfl ?_
    refine W.y (y_pick rfl rfl) rfl ?_
    refine W.y (y_move rfl) rfl ?_
    refine W.gn rfl rfl rfl ?_
    refine W.gn rfl rfl rfl ?_
    refine W.y (y_pick rfl rfl) rfl ?_
    refine W.fin ?_
    refine E.next ?_
    refine C.yes rfl ?_
    refine C.seq ?_
    refine C.reg ?_
    refine W.y (y_assign rfl) rfl ?_
    refine W.fin ?_
    refine E.next ?_
    refine C.ret ?_
    refine E.thenRet ?_
    exact E.ret1 rfl rfl ⟨rfl, .inr rfl⟩
  by_cases h4 : pad ≠ 10
  rotate_left
  · refine ret_of Try.func4 rfl Try.ntmps4 (Nat.le_of_ble_eq_true rfl) ?_
    refine C.seq ?_
    refine C.reg ?_
    refine W.y (y_assign rfl) rfl ?_
    refine W.fin ?_
    refine E.next ?_
    refine C.seq ?_
    refine C.seq ?_
    refine C.reg ?_
    refine W.y (y_move rfl) rfl ?_
    refine W.y (y_len' rfl Try.underlying9) rfl ?_
    refine W.y (y_move rfl) rfl ?_
    refine W.y (y_neqF rfl rfl (by omega)) rfl ?_
    refine W.y (y_move rfl) rfl ?_
    refine W.gy rfl rfl (y_move rfl) rfl ?_
    refine W.gy rfl rfl (y_lssF rfl rfl (by omega)) rfl ?_
    refine W.y (y_pick rfl rfl) rfl ?_
    refine W.y (y_move rfl) rfl ?_
    refine W.gy rfl rfl (y_move rfl) rfl ?_
    refine W.gy rfl rfl (y_gtrF rfl rfl (by omega)) rfl ?_
    refine W.y (y_pick rfl rfl) rfl ?_
    refine W.y (y_move rfl) rfl ?_
    refine W.gy rfl rfl (y_move rfl) rfl ?_
    refine W.gy rfl rfl (y_eqlT rfl rfl (by omega)) rfl ?_
    refine W.y (y_pick rfl rfl) rfl ?_
    refine W.y (y_move rfl) rfl ?_
    refine W.gn rfl rfl rfl ?_
    refine W.gn rfl rfl rfl ?_
    refine W.y (y_pick rfl rfl) rfl ?_
    refine W.fin ?_
    refine E.next ?_
    refine C.yes rfl ?_
    refine C.seq ?_
    refine C.reg ?_
    refine W.y (y_assign rfl) rfl ?_
    refine W.fin ?_
    refine E.next ?_
    refine C.ret ?_
    refine E.thenRet ?_
    exact E.ret1 rfl rfl ⟨rfl, .inr rfl⟩
  by_cases h5 : pad ≠ 13
  rotate_left
  · refine ret_of Try.func4 rfl Try.ntmps4 (Nat.le_of_ble_eq_true rfl) ?_
    refine C.seq ?_
    refine C.reg ?_
    refine W.y (y_assign rfl) rfl ?_
    refine W.fin ?_
    refine E.next ?_
    refine C.seq ?_
    refine C.seq ?_
    refine C.reg ?_
    refine W.y (y_move rfl) rfl ?_
    refine W.y (y_len' rfl Try.underlying9) rfl ?_
    refine W.y (y_move rfl) rfl ?_
    refine W.y (y_neqF rfl rfl (by omega)) rfl ?_
    refine W.y (y_move rfl) rfl ?_
    refine W.gy rfl rfl (y_move rfl) rfl ?_
    refine W.gy rfl rfl (y_lssF rfl rfl (by omega)) rfl ?_
    refine W.y (y_pick rfl rfl) rfl ?_
    refine W.y (y_move rfl) rfl ?_
    refine W.gy rfl rfl (y_move rfl) rfl ?_
    refine W.gy rfl rfl (y_gtrF rfl rfl (by omega)) rfl ?_
    refine W.y (y_pick rfl rfl) rfl ?_
    refine W.y (y_move rfl) rfl ?_
    refine W.gy rfl rfl (y_move rfl) rfl ?_
    refine W.gy rfl rfl (y_eqlF rfl rfl (by omega)) rfl ?_
    refine W.y (y_pick rfl rfl) rfl ?_
    refine W.y (y_move rfl) rfl ?_
    refine W.gy rfl rfl (y_move rfl) rfl ?_
    refine W.gy rfl rfl (y_eqlT rfl rfl (by omega)) rfl ?_
    refine W.y (y_pick rfl rfl) rfl ?_
    refine W.fin ?_
    refine E.next ?_
    refine C.yes rfl ?_
    refine C.seq ?_
    refine C.reg ?_
    refine W.y (y_assign rfl) rfl ?_
    refine W.fin ?_
    refine E.next ?_
    refine C.ret ?_
    refine E.thenRet ?_
    exact E.ret1 rfl rfl ⟨rfl, .inr rfl⟩
  refine ret_of Try.func4 rfl Try.ntmps4 (Nat.le_of_ble_eq_true rfl) ?_
  refine C.seq ?_
  refine C.reg ?_
  refine W.y (y_assign rfl) rfl ?_
  refine W.fin ?_
  refine E.next ?_
  refine C.seq ?_
  refine C.seq ?_
  refine C.reg ?_
  refine W.y (y_move rfl) rfl ?_
  refine W.y (y_len' rfl Try.underlying9) rfl ?_
  refine W.y (y_move rfl) rfl ?_
  refine W.y (y_neqF rfl rfl (by omega)) rfl ?_
  refine W.y (y_move rfl) rfl ?_
  refine W.gy rfl rfl (y_move rfl) rfl ?_
  refine W.gy rfl rfl (y_lssF rfl rfl (by omega)) rfl ?_
  refine W.y (y_pick rfl rfl) rfl ?_
  refine W.y (y_move rfl) rfl ?_
  refine W.gy rfl rfl (y_move rfl) rfl ?_
  refine W.gy rfl rfl (y_gtrF rfl rfl (by omega)) rfl ?_
  refine W.y (y_pick rfl rfl) rfl ?_
  refine W.y (y_move rfl) rfl ?_
  refine W.gy rfl rfl (y_move rfl) rfl ?_
  refine W.gy rfl rfl (y_eqlF rfl rfl (by omega)) rfl ?_
  refine W.y (y_pick rfl rfl) rfl ?_
  refine W.y (y_move rfl) rfl ?_
  refine W.gy rfl rfl (y_move rfl) rfl ?_
  refine W.gy rfl rfl (y_eqlF rfl rfl (by omega)) rfl ?_
  refine W.y (y_pick rfl rfl) rfl ?_
  refine W.fin ?_
  refine E.next ?_
  refine C.no rfl ?_
  refine C.skip ?_
  refine E.next ?_
  refine C.seq ?_
  refine C.seq ?_
  refine C.reg ?_
  refine W.y (y_move rfl) rfl ?_
  refine W.y (y_len' rfl Try.underlying9) rfl ?_
  refine W.y (y_move rfl) rfl ?_
  refine W.fin ?_
  refine E.next ?_
  refine C.block ?_
  refine C.loop (σ := Nat) (fun i w' => i ≤ al.length ∧ w = w' ∧ (∀ (j : Nat) (c : UInt8), j < i → al[j]? = some c → c.toNat ≠ 10 ∧ c.toNat ≠ 13 ∧ c.toNat ≠ 61 ∧ (c.toNat : Int) ≠ pad) ∧ ∀ (j k : Nat) (a b : UInt8), k < i → j < k → al[j]? = some a → al[k]? = some b → a ≠ b) (fun i => [(1, str al), (2, .int .i64 pad), (31, .int .i64 (al.length : Int)), (32, .int .i64 (i : Int))]) (fun i => al.length - i) 0 ?_ ?_ ?_
  · exact ⟨by omega, rfl, fun j c h => by omega, fun j k a b h => by omega⟩
  · exact (Sub.cons rfl (Sub.cons rfl (Sub.cons rfl (Sub.cons rfl (Sub.nil _)))))
  rintro i _ ⟨hi, rfl, hno, hnd⟩
  show C _ _ _ _ [(1, str al), (2, .int .i64 pad), (31, .int .i64 (al.length : Int)), (32, .int .i64 (i : Int))] _
  by_cases hlt : i < al.length
  · obtain ⟨ch, hch⟩ : ∃ ch, al[i]? = some ch := ⟨_, List.getElem?_eq_getElem hlt⟩
    have hc8 : ch.toNat < 256 := ch.toNat_lt
    by_cases c1 : ch.toNat ≠ 10
    rotate_left
    · skip
      refine C.seq ?_
      refine C.reg ?_
      refine W.y (y_lssT rfl rfl (by omega)) rfl ?_
      refine W.fin ?_
      refine E.next ?_
      refine C.seq ?_
      refine C.yes rfl ?_
      refine C.skip ?_
      refine E.next ?_
      refine C.seq ?_
      refine C.block ?_
      refine C.seq ?_
      refine C.reg ?_
      refine W.y (y_move rfl) rfl ?_
      refine W.y (y_assign rfl) rfl ?_
      refine W.fin ?_
      refine E.next ?_
      refine C.seq ?_
      refine C.reg ?_
      refine W.y (y_move rfl) rfl ?_
      refine W.y (y_move rfl) rfl ?_
      refine W.y (y_ixs' rfl rfl Try.underlying9 hch) rfl ?_
      refine W.y (y_assign rfl) rfl ?_
      refine W.fin ?_
      refine E.next ?_
      refine C.seq ?_
      refine C.seq ?_
      refine C.reg ?_
      refine W.y (y_move rfl) rfl ?_
      refine W.y (y_eqlT rfl rfl (by omega)) rfl ?_
      refine W.y (y_move rfl) rfl ?_
      refine W.gn rfl rfl rfl ?_
      refine W.gn rfl rfl rfl ?_
      refine W.y (y_pick rfl rfl) rfl ?_
      refine W.y (y_move rfl) rfl ?_
      refine W.gn rfl rfl rfl ?_
      refine W.gn rfl rfl rfl ?_
      refine W.y (y_pick rfl rfl) rfl ?_
      refine W.y (y_move rfl) rfl ?_
      refine W.gn rfl rfl rfl ?_
      refine W.gn rfl rfl rfl ?_
      refine W.gn rfl rfl rfl ?_
      refine W.gn rfl rfl rfl ?_
      refine W.y (y_pick rfl rfl) rfl ?_
      refine W.fin ?_
      refine E.next ?_
      refine C.yes rfl ?_
      refine C.seq ?_
      refine C.reg ?_
      refine W.y (y_assign rfl) rfl ?_
      refine W.fin ?_
      refine E.next ?_
      refine C.ret ?_
      refine E.thenRet ?_
      refine E.blockRet ?_
      refine E.thenRet ?_
      refine E.thenRet ?_
      refine E.blockRet ?_
      refine E.thenRet ?_
      exact E.ret1 rfl rfl ⟨rfl, .inr rfl⟩
    by_cases c2 : ch.toNat ≠ 13
    rotate_left
    · skip
      refine C.seq ?_
      refine C.reg ?_
      refine W.y (y_lssT rfl rfl (by omega)) rfl ?_
      refine W.fin ?_
      refine E.next ?_
      refine C.seq ?_
      refine C.yes rfl ?_
      refine C.skip ?_
      refine E.next ?_
      refine C.seq ?_
      refine C.block ?_
      refine C.seq ?_
      refine C.reg ?_
      refine W.y (y_move rfl) rfl ?_
      refine W.y (y_assign rfl) rfl ?_
      refine W.fin ?_
      refine E.next ?_
      refine C.seq ?_
      refine C.reg ?_
      refine W.y (y_move rfl) rfl ?_
      refine W.y (y_move rfl) rfl ?_
      refine W.y (y_ixs' rfl rfl Try.underlying9 hch) rfl ?_
      refine W.y (y_assign rfl) rfl ?_
      refine W.fin ?_
      refine E.next ?_
      refine C.seq ?_
      refine C.seq ?_
      refine C.reg ?_
      refine W.y (y_move rfl) rfl ?_
      refine W.y (y_eqlF rfl rfl (by omega)) rfl ?_
      refine W.y (y_move rfl) rfl ?_
      refine W.gy rfl rfl (y_move rfl) rfl ?_
      refine W.gy rfl rfl (y_eqlT rfl rfl (by omega)) rfl ?_
      refine W.y (y_pick rfl rfl) rfl ?_
      refine W.y (y_move rfl) rfl ?_
      refine W.gn rfl rfl rfl ?_
      refine W.gn rfl rfl rfl ?_
      refine W.y (y_pick rfl rfl) rfl ?_
      refine W.y (y_move rfl) rfl ?_
      refine W.gn rfl rfl rfl ?_
      refine W.gn rfl rfl rfl ?_
      refine W.gn rfl rfl rfl ?_
      refine W.gn rfl rfl rfl ?_
      refine W.y (y_pick rfl rfl) rfl ?_
      refine W.fin ?_
      refine E.next ?_
      refine C.yes rfl ?_
      refine C.seq ?_
      refine C.reg ?_
      refine W.y (y_assign rfl) rfl ?_
      refine W.fin ?_
      refine E.next ?_
      refine C.ret ?_
      refine E.thenRet ?_
      refine E.blockRet ?_
      refine E.thenRet ?_
      refine E.thenRet ?_
      refine E.blockRet ?_
      refine E.thenRet ?_
      exact E.ret1 rfl rfl ⟨rfl, .inr rfl⟩
    by_cases c3 : ch.toNat ≠ 61
    rotate_left
    · skip
      refine C.seq ?_
      refine C.reg ?_
      refine W.y (y_lssT rfl rfl (by omega)) rfl ?_
      refine W.fin ?_
      refine E.next ?_
      refine C.seq ?_
      refine C.yes rfl ?_
      refine C.skip ?_
      refine E.next ?_
      refine C.seq ?_
      refine C.block ?_
      refine C.seq ?_
      refine C.reg ?_
      refine W.y (y_move rfl) rfl ?_
      refine W.y (y_assign rfl) rfl ?_
      refine W.fin ?_
      refine E.next ?_
      refine C.seq ?_
      refine C.reg ?_
      refine W.y (y_move rfl) rfl ?_
      refine W.y (y_move rfl) rfl ?_
      refine W.y (y_ixs' rfl rfl Try.underlying9 hch) rfl ?_
      refine W.y (y_assign rfl) rfl ?_
      refine W.fin ?_
      refine E.next ?_
      refine C.seq ?_
      refine C.seq ?_
      refine C.reg ?_
      refine W.y (y_move rfl) rfl ?_
      refine W.y (y_eqlF rfl rfl (by omega)) rfl ?_
      refine W.y (y_move rfl) rfl ?_
      refine W.gy rfl rfl (y_move rfl) rfl ?_
      refine W.gy rfl rfl (y_eqlF rfl rfl (by omega)) rfl ?_
      refine W.y (y_pick rfl rfl) rfl ?_
      refine W.y (y_move rfl) rfl ?_
      refine W.gy rfl rfl (y_move rfl) rfl ?_
      refine W.gy rfl rfl (y_eqlT rfl rfl (by omega)) rfl ?_
      refine W.y (y_pick rfl rfl) rfl ?_
      refine W.y (y_move rfl) rfl ?_
      refine W.gn rfl rfl rfl ?_
      refine W.gn rfl rfl rfl ?_
      refine W.gn rfl rfl rfl ?_
      refine W.gn rfl rfl rfl ?_
      refine W.y (y_pick rfl rfl) rfl ?_
      refine W.fin ?_
      refine E.next ?_
      refine C.yes rfl ?_
      refine C.seq ?_
      refine C.reg ?_
      refine W.y (y_assign rfl) rfl ?_
      refine W.fin ?_
      refine E.next ?_
      refine C.ret ?_
      refine E.thenRet ?_
      refine E.blockRet ?_
      refine E.thenRet ?_
      refine E.thenRet ?_
      refine E.blockRet ?_
      refine E.thenRet ?_
      exact E.ret1 rfl rfl ⟨rfl, .inr rfl⟩
    by_cases c4 : (ch.toNat : Int) ≠ pad
    rotate_left
    · skip
      refine C.seq ?_
      refine C.reg ?_
      refine W.y (y_lssT rfl rfl (by omega)) rfl ?_
      refine W.fin ?_
      refine E.next ?_
      refine C.seq ?_
      refine C.yes rfl ?_
      refine C.skip ?_
      refine E.next ?_
      refine C.seq ?_
      refine C.block ?_
      refine C.seq ?_
      refine C.reg ?_
      refine W.y (y_move rfl) rfl ?_
      refine W.y (y_assign rfl) rfl ?_
      refine W.fin ?_
      refine E.next ?_
      refine C.seq ?_
      refine C.reg ?_
      refine W.y (y_move rfl) rfl ?_
      refine W.y (y_move rfl) rfl ?_
      refine W.y (y_ixs' rfl rfl Try.underlying9 hch) rfl ?_
      refine W.y (y_assign rfl) rfl ?_
      refine W.fin ?_
      refine E.next ?_
      refine C.seq ?_
      refine C.seq ?_
      refine C.reg ?_
      refine W.y (y_move rfl) rfl ?_
      refine W.y (y_eqlF rfl rfl (by omega)) rfl ?_
      refine W.y (y_move rfl) rfl ?_
      refine W.gy rfl rfl (y_move rfl) rfl ?_
      refine W.gy rfl rfl (y_eqlF rfl rfl (by omega)) rfl ?_
      refine W.y (y_pick rfl rfl) rfl ?_
      refine W.y (y_move rfl) rfl ?_
      refine W.gy rfl rfl (y_move rfl) rfl ?_
      refine W.gy rfl rfl (y_eqlF rfl rfl (by omega)) rfl ?_
      refine W.y (y_pick rfl rfl) rfl ?_
      refine W.y (y_move rfl) rfl ?_
      refine W.gy rfl rfl (y_move rfl) rfl ?_
      refine W.gy rfl rfl (y_convI rfl Try.underlying5 Try.underlying2 (by omega)) rfl ?_
      refine W.gy rfl rfl (y_move rfl) rfl ?_
      refine W.gy rfl rfl (y_eqlT rfl rfl (by omega)) rfl ?_
      refine W.y (y_pick rfl rfl) rfl ?_
      refine W.fin ?_
      refine E.next ?_
      refine C.yes rfl ?_
      refine C.seq ?_
      refine C.reg ?_
      refine W.y (y_assign rfl) rfl ?_
      refine W.fin ?_
      refine E.next ?_
      refine C.ret ?_
      refine E.thenRet ?_
      refine E.blockRet ?_
      refine E.thenRet ?_
      refine E.thenRet ?_
      refine E.blockRet ?_
      refine E.thenRet ?_
      exact E.ret1 rfl rfl ⟨rfl, .inr rfl⟩
    refine C.seq ?_
    refine C.reg ?_
    refine W.y (y_lssT rfl rfl (by omega)) rfl ?_
    refine W.fin ?_
    refine E.next ?_
    refine C.seq ?_
    refine C.yes rfl ?_
    refine C.skip ?_
    refine E.next ?_
    refine C.seq ?_
    refine C.block ?_
    refine C.seq ?_
    refine C.reg ?_
    refine W.y (y_move rfl) rfl ?_
    refine W.y (y_assign rfl) rfl ?_
    refine W.fin ?_
    refine E.next ?_
    refine C.seq ?_
    refine C.reg ?_
    refine W.y (y_move rfl) rfl ?_
    refine W.y (y_move rfl) rfl ?_
    refine W.y (y_ixs' rfl rfl Try.underlying9 hch) rfl ?_
    refine W.y (y_assign rfl) rfl ?_
    refine W.fin ?_
    refine E.next ?_
    refine C.seq ?_
    refine C.seq ?_
    refine C.reg ?_
    refine W.y (y_move rfl) rfl ?_
    refine W.y (y_eqlF rfl rfl (by omega)) rfl ?_
    refine W.y (y_move rfl) rfl ?_
    refine W.gy rfl rfl (y_move rfl) rfl ?_
    refine W.gy rfl rfl (y_eqlF rfl rfl (by omega)) rfl ?_
    refine W.y (y_pick rfl rfl) rfl ?_
    refine W.y (y_move rfl) rfl ?_
    refine W.gy rfl rfl (y_move rfl) rfl ?_
    refine W.gy rfl rfl (y_eqlF rfl rfl (by omega)) rfl ?_
    refine W.y (y_pick rfl rfl) rfl ?_
    refine W.y (y_move rfl) rfl ?_
    refine W.gy rfl rfl (y_move rfl) rfl ?_
    refine W.gy rfl rfl (y_convI rfl Try.underlying5 Try.underlying2 (by omega)) rfl ?_
    refine W.gy rfl rfl (y_move rfl) rfl ?_
    refine W.gy rfl rfl (y_eqlF rfl rfl (by omega)) rfl ?_
    refine W.y (y_pick rfl rfl) rfl ?_
    refine W.fin ?_
    refine E.next ?_
    refine C.no rfl ?_
    refine C.skip ?_
    refine E.next ?_
    refine C.seq ?_
    refine C.reg ?_
    refine W.y (y_move rfl) rfl ?_
    refine W.y (y_move rfl) rfl ?_
    refine W.fin ?_
    refine E.next ?_
    refine C.block ?_
    refine C.loop (σ := Nat) (fun k w' => k ≤ i ∧ w = w' ∧ ∀ (j : Nat) (a : UInt8), j < k → al[j]? = some a → a ≠ ch) (fun k => [(1, str al), (2, .int .i64 pad), (31, .int .i64 (al.length : Int)), (32, .int .i64 (i : Int)), (8, u8 ch), (54, .int .i64 (i : Int)), (55, .int .i64 (k : Int))]) (fun k => i - k) 0 ?_ ?_ ?_
    · exact ⟨by omega, rfl, fun j a h => by omega⟩
    · exact (Sub.cons rfl (Sub.cons rfl (Sub.cons rfl (Sub.cons rfl (Sub.cons rfl (Sub.cons rfl (Sub.cons rfl (Sub.nil _))))))))
    rintro k _ ⟨hk, rfl, hne⟩
    show C _ _ _ _ [(1, str al), (2, .int .i64 pad), (31, .int .i64 (al.length : Int)), (32, .int .i64 (i : Int)), (8, u8 ch), (54, .int .i64 (i : Int)), (55, .int .i64 (k : Int))] _
    by_cases hk2 : k < i
    · obtain ⟨d, hd⟩ : ∃ d, al[k]? = some d := ⟨_, List.getElem?_eq_getElem (by omega)⟩
      by_cases hdc : d = ch
      · have hdn : (d.toNat : Int) = ch.toNat := by rw [hdc]
        refine C.seq ?_
        refine C.reg ?_
        refine W.y (y_lssT rfl rfl (by omega)) rfl ?_
        refine W.fin ?_
        refine E.next ?_
        refine C.seq ?_
        refine C.yes rfl ?_
        refine C.skip ?_
        refine E.next ?_
        refine C.seq ?_
        refine C.block ?_
        refine C.seq ?_
        refine C.reg ?_
        refine W.y (y_move rfl) rfl ?_
        refine W.y (y_assign rfl) rfl ?_
        refine W.fin ?_
        refine E.next ?_
        refine C.seq ?_
        refine C.reg ?_
        refine W.y (y_move rfl) rfl ?_
        refine W.y (y_move rfl) rfl ?_
        refine W.y (y_ixs' rfl rfl Try.underlying9 hd) rfl ?_
        refine W.y (y_move rfl) rfl ?_
        refine W.y (y_eqlT rfl rfl (by omega)) rfl ?_
        refine W.fin ?_
        refine E.next ?_
        refine C.yes rfl ?_
        refine C.seq ?_
        refine C.reg ?_
        refine W.y (y_assign rfl) rfl ?_
        refine W.fin ?_
        refine E.next ?_
        refine C.ret ?_
        refine E.blockRet ?_
        refine E.thenRet ?_
        refine E.thenRet ?_
        refine E.blockRet ?_
        refine E.blockRet ?_
        refine E.thenRet ?_
        refine E.thenRet ?_
        refine E.blockRet ?_
        refine E.thenRet ?_
        exact E.ret1 rfl rfl ⟨rfl, .inr rfl⟩
      · have hdn : ¬ (d.toNat : Int) = ch.toNat := fun e => hdc (UInt8.toNat_inj.1 (by omega))
        refine C.seq ?_
        refine C.reg ?_
        refine W.y (y_lssT rfl rfl (by omega)) rfl ?_
        refine W.fin ?_
        refine E.next ?_
        refine C.seq ?_
        refine C.yes rfl ?_
        refine C.skip ?_
        refine E.next ?_
        refine C.seq ?_
        refine C.block ?_
        refine C.seq ?_
        refine C.reg ?_
        refine W.y (y_move rfl) rfl ?_
        refine W.y (y_assign rfl) rfl ?_
        refine W.fin ?_
        refine E.next ?_
        refine C.seq ?_
        refine C.reg ?_
        refine W.y (y_move rfl) rfl ?_
        refine W.y (y_move rfl) rfl ?_
        refine W.y (y_ixs' rfl rfl Try.underlying9 hd) rfl ?_
        refine W.y (y_move rfl) rfl ?_
        refine W.y (y_eqlF rfl rfl (by omega)) rfl ?_
        refine W.fin ?_
        refine E.next ?_
        refine C.no rfl ?_
        refine C.skip ?_
        refine E.blockNormal ?_
        refine E.next ?_
        refine C.reg ?_
        refine W.y (y_add rfl rfl (wi64 (by omega) (by omega))) rfl ?_
        refine W.y (y_move rfl) rfl ?_
        refine W.fin ?_
        refine E.again (k + 1) ⟨by omega, rfl, fun j a hj ha => ?_⟩ (Sub.cons rfl (Sub.cons rfl (Sub.cons rfl (Sub.cons rfl (Sub.cons rfl (Sub.cons rfl (Sub.cons rfl (Sub.nil _)))))))) (by omega)
        by_cases e : j = k
        · subst e; rw [hd] at ha; injection ha with ha; rw [← ha]; exact hdc
        · exact hne j a (by omega) ha
    · skip
      refine C.seq ?_
      refine C.reg ?_
      refine W.y (y_lssF rfl rfl (by omega)) rfl ?_
      refine W.fin ?_
      refine E.next ?_
      refine C.seq ?_
      refine C.no rfl ?_
      refine C.exit ?_
      refine E.thenExit ?_
      refine E.thenExit ?_
      refine E.blockOut ?_
      refine E.blockNormal ?_
      refine E.next ?_
      refine C.reg ?_
      refine W.y (y_add rfl rfl (wi64 (by omega) (by omega))) rfl ?_
      refine W.y (y_move rfl) rfl ?_
      refine W.fin ?_
      refine E.again (i + 1) ⟨by omega, rfl, fun j c hj hc => ?_, fun j k a b hk3 hjk ha hb => ?_⟩ (Sub.cons rfl (Sub.cons rfl (Sub.cons rfl (Sub.cons rfl (Sub.nil _))))) (by omega)
      · by_cases e : j = i
        · subst e; rw [hch] at hc; injection hc with hc; subst hc; exact ⟨c1, c2, c3, c4⟩
        · exact hno j c (by omega) hc
      · by_cases e : k = i
        · subst e; rw [hch] at hb; injection hb with hb; rw [← hb]; exact hne j a (by omega) ha
        · exact hnd j k a b (by omega) hjk ha hb
  · skip
    refine C.seq ?_
    refine C.reg ?_
    refine W.y (y_lssF rfl rfl (by omega)) rfl ?_
    refine W.fin ?_
    refine E.next ?_
    refine C.seq ?_
    refine C.no rfl ?_
    refine C.exit ?_
    refine E.thenExit ?_
    refine E.thenExit ?_
    refine E.blockOut ?_
    refine E.next ?_
    refine C.seq ?_
    refine C.reg ?_
    refine W.y (y_assign rfl) rfl ?_
    refine W.fin ?_
    refine E.next ?_
    refine C.ret ?_
    exact E.ret1 rfl rfl ⟨rfl, .inl ⟨rfl, ⟨h1, h2, h3, ⟨h4, h5⟩, fun j c hc => hno j c (by have := get_lt hc; omega) hc, fun j k a b hjk ha hb => hnd j k a b (by have := get_lt hb; omega) hjk ha hb⟩⟩⟩
theorem place_ret {w : World} {N i : Nat} {al : List UInt8} {pad : Int} {ch : UInt8} (hf : Fit N al pad) (hN : N ≤ 64) (hi : al[i]? = some ch) :
    Ret Try.prog 7 #[str al, u8 ch] w fun v w' => v = .int .i64 (i : Int) ∧ w = w' := by
  have hil := get_lt hi
  have hlen := hf.len
  refine ret_of Try.func7 rfl Try.ntmps7 (Nat.le_of_ble_eq_true rfl) ?_
  refine C.seq ?_
  refine C.reg ?_
  refine W.y (y_assign rfl) rfl ?_
  refine W.fin ?_
  refine E.next ?_
  refine C.seq ?_
  refine C.seq ?_
  refine C.reg ?_
  refine W.y (y_move rfl) rfl ?_
  refine W.y (y_len' rfl Try.underlying9) rfl ?_
  refine W.y (y_move rfl) rfl ?_
  refine W.fin ?_
  refine E.next ?_
  refine C.block ?_
  refine C.loop (σ := Nat) (fun j w' => j ≤ i ∧ w = w') (fun j => [(0, str al), (1, u8 ch), (7, .int .i64 (al.length : Int)), (8, .int .i64 (j : Int))]) (fun j => i - j) 0 ?_ ?_ ?_
  · exact ⟨by omega, rfl⟩
  · exact (Sub.cons rfl (Sub.cons rfl (Sub.cons rfl (Sub.cons rfl (Sub.nil _)))))
  rintro j _ ⟨hj, rfl⟩
  show C _ _ _ _ [(0, str al), (1, u8 ch), (7, .int .i64 (al.length : Int)), (8, .int .i64 (j : Int))] _
  obtain ⟨d, hd⟩ : ∃ d, al[j]? = some d := ⟨_, List.getElem?_eq_getElem (by omega)⟩
  by_cases e : j = i
  · subst e
    have hdc : (d.toNat : Int) = ch.toNat := by rw [hd] at hi; injection hi with hi; rw [hi]
    refine C.seq ?_
    refine C.reg ?_
    refine W.y (y_lssT rfl rfl (by omega)) rfl ?_
    refine W.fin ?_
    refine E.next ?_
    refine C.seq ?_
    refine C.yes rfl ?_
    refine C.skip ?_
    refine E.next ?_
    refine C.seq ?_
    refine C.block ?_
    refine C.seq ?_
    refine C.reg ?_
    refine W.y (y_move rfl) rfl ?_
    refine W.y (y_assign rfl) rfl ?_
    refine W.fin ?_
    refine E.next ?_
    refine C.seq ?_
    refine C.reg ?_
    refine W.y (y_move rfl) rfl ?_
    refine W.y (y_move rfl) rfl ?_
    refine W.y (y_ixs' rfl rfl Try.underlying9 hd) rfl ?_
    refine W.y (y_move rfl) rfl ?_
    refine W.y (y_eqlT rfl rfl (by omega)) rfl ?_
    refine W.fin ?_
    refine E.next ?_
    refine C.yes rfl ?_
    refine C.seq ?_
    refine C.reg ?_
    refine W.y (y_move rfl) rfl ?_
    refine W.y (y_assign rfl) rfl ?_
    refine W.fin ?_
    refine E.next ?_
    refine C.ret ?_
    refine E.blockRet ?_
    refine E.thenRet ?_
    refine E.thenRet ?_
    refine E.blockRet ?_
    refine E.thenRet ?_
    exact E.ret1 rfl rfl ⟨rfl, rfl⟩
  · have hdc : ¬ (d.toNat : Int) = ch.toNat := fun q => hf.nodup j i d ch (by omega) hd hi (UInt8.toNat_inj.1 (by omega))
    refine C.seq ?_
    refine C.reg ?_
    refine W.y (y_lssT rfl rfl (by omega)) rfl ?_
    refine W.fin ?_
    refine E.next ?_
    refine C.seq ?_
    refine C.yes rfl ?_
    refine C.skip ?_
    refine E.next ?_
    refine C.seq ?_
    refine C.block ?_
    refine C.seq ?_
    refine C.reg ?_
    refine W.y (y_move rfl) rfl ?_
    refine W.y (y_assign rfl) rfl ?_
    refine W.fin ?_
    refine E.next ?_
    refine C.seq ?_
    refine C.reg ?_
    refine W.y (y_move rfl) rfl ?_
    refine W.y (y_move rfl) rfl ?_
    refine W.y (y_ixs' rfl rfl Try.underlying9 hd) rfl ?_
    refine W.y (y_move rfl) rfl ?_
    refine W.y (y_eqlF rfl rfl (by omega)) rfl ?_
    refine W.fin ?_
    refine E.next ?_
    refine C.no rfl ?_
    refine C.skip ?_
    refine E.blockNormal ?_
    refine E.next ?_
    refine C.reg ?_
    refine W.y (y_add rfl rfl (wi64 (by omega) (by omega))) rfl ?_
    refine W.y (y_move rfl) rfl ?_
    refine W.fin ?_
    exact E.again (j + 1) ⟨by omega, rfl⟩ (Sub.cons rfl (Sub.cons rfl (Sub.cons rfl (Sub.cons rfl (Sub.nil _))))) (by omega)
end Go.Proofs.Ytlcbcedhbahbbaa
