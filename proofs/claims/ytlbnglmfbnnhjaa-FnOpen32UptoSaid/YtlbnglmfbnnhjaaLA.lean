/-
  Walks: the laws on streams of pieces.
-/
import Derived.Test.YtlbnglmfbnnhjaaWD
import Derived.Test.YtlbnglmfbnnhjaaWE
import Derived.Test.YtlbnglmfbnnhjaaLE
namespace Go.Proofs.Ytlbnglmfbnnhjaa
open Go.RowKit
theorem ent15 : Enters Try.prog 15 := enters_of Try.func15 (by kernel_rfl) rfl
theorem ent16 : Enters Try.prog 16 := enters_of Try.func16 (by kernel_rfl) rfl
theorem ent17 : Enters Try.prog 17 := enters_of Try.func17 (by kernel_rfl) rfl
theorem ent18 : Enters Try.prog 18 := enters_of Try.func18 (by kernel_rfl) rfl
theorem ent19 : Enters Try.prog 19 := enters_of Try.func19 (by kernel_rfl) rfl

set_option maxRecDepth 4000 in
theorem fnStream32_ret {w : World} {A : Option Addr} {c n : Nat} {al : List UInt8} {pad : Int} {ps : List (List UInt8)} (hal : al.length ≤ 1048576) (hP : Pcs w.heap.size w A ps) (hn : ps.length = n) (hN : ps.flatten.length ≤ 1048576) (hN2 : ps.length ≤ 1048576) :
    Ret Try.prog 4 #[str al, .int .i64 pad, .slice A n c] w fun v w' => v = .bool true ∧ Kp (fun _ => False) w w' := by
  refine ret_of Try.func4 rfl Try.ntmps4 (Nat.le_of_ble_eq_true rfl) ?_
  refine C.seq ?_
  refine C.reg ?_
  refine W.y (y_assign rfl) rfl ?_
  refine W.fin ?_
  refine E.next ?_
  refine C.seq ?_
  refine C.seq ?_
  refine C.reg ?_
  refine W.y (y_move rfl) rfl ?_
  refine W.y (y_move rfl) rfl ?_
  refine W.call ent15 rfl (fit_ret (N := 32) (by omega)) rfl ?_
  rintro _ _ ⟨rfl, ⟨rfl, hf⟩ | rfl⟩
  rotate_left
  · skip
    refine W.y (y_not rfl) rfl ?_
    refine W.fin ?_
    refine E.next ?_
    refine C.yes rfl ?_
    refine C.seq ?_
    refine C.reg ?_
    refine W.y (y_assign rfl) rfl ?_
    refine W.fin ?_
    refine E.next ?_
    refine C.ret ?_
    refine E.thenRet ?_
    exact E.ret1 rfl rfl ⟨rfl, Kp.refl _ _⟩
  refine W.y (y_not rfl) rfl ?_
  refine W.fin ?_
  refine E.next ?_
  refine C.no rfl ?_
  refine C.skip ?_
  refine E.next ?_
  refine C.seq ?_
  refine C.reg ?_
  refine W.y (y_move rfl) rfl ?_
  refine W.call ent16 rfl (all_ret hP hn (by omega) (by omega)) rfl ?_
  rintro _ w1 ⟨ho, hob, hk1⟩
  obtain ⟨A1, c1, rfl, hr1, hc1, ha1⟩ := ho.bytes
  have hP1 := hP.on hk1
  refine W.y (y_assign rfl) rfl ?_
  refine W.fin ?_
  refine E.next ?_
  refine C.seq ?_
  refine C.reg ?_
  refine W.y (y_move rfl) rfl ?_
  refine W.y (y_move rfl) rfl ?_
  refine W.y (y_move rfl) rfl ?_
  refine W.call ent19 rfl (encodeStream32_ret hf hP1 hn (by omega) (by omega)) rfl ?_
  rintro _ w2 ⟨rfl, hk2⟩
  have hr2 := hr1.kept hk2 (fun _ _ _ => id)
  have hlo := hf.lo
  refine W.y (y_move rfl) rfl ?_
  refine W.y (y_ext rfl rfl) rfl ?_
  refine W.y (y_ext rfl rfl) rfl ?_
  refine W.y (y_assign rfl) rfl ?_
  refine W.y (y_assign rfl) rfl ?_
  refine W.fin ?_
  refine E.next ?_
  refine C.seq ?_
  refine C.reg ?_
  refine W.y (y_move rfl) rfl ?_
  refine W.y (y_move rfl) rfl ?_
  refine W.y (y_move rfl) rfl ?_
  refine W.y (y_move rfl) rfl ?_
  refine W.call ent18 rfl (text32_ret hr2 rfl (by omega) hf.len hf.lo hf.hi) rfl ?_
  rintro _ w3 ⟨rfl, hk3⟩
  refine W.y (y_eqsT rfl rfl rfl) rfl ?_
  refine W.y (y_move rfl) rfl ?_
  refine W.gy rfl rfl (y_move rfl) rfl ?_
  refine W.gy rfl rfl (y_move rfl) rfl ?_
  refine W.gy rfl rfl (y_len rfl Try.underlying24) rfl ?_
  refine W.gy rfl rfl (y_eqlT rfl rfl (by omega)) rfl ?_
  refine W.y (y_pick rfl rfl) rfl ?_
  refine W.y (y_assign rfl) rfl ?_
  refine W.fin ?_
  refine E.next ?_
  refine C.ret ?_
  exact E.ret1 rfl rfl ⟨rfl, (hk1.trans hk2).trans hk3⟩
set_option maxRecDepth 4000 in
theorem fnOpen32_ret {w : World} {A : Option Addr} {c n : Nat} {al : List UInt8} {pad : Int} {ps : List (List UInt8)} (hal : al.length ≤ 1048576) (hP : Pcs w.heap.size w A ps) (hn : ps.length = n) (hN : ps.flatten.length ≤ 1048576) (hN2 : ps.length ≤ 1048576) :
    Ret Try.prog 3 #[str al, .int .i64 pad, .slice A n c] w fun v w' => v = .bool true ∧ Kp (fun _ => False) w w' := by
  have hq : ((ps.flatten.length / 5 : Nat) : Int) = (ps.flatten.length : Int) / 5 := by omega
  have hlt : (ps.flatten.take (ps.flatten.length / 5 * 5)).length = ps.flatten.length / 5 * 5 := by rw [List.length_take]; omega
  refine ret_of Try.func3 rfl Try.ntmps3 (Nat.le_of_ble_eq_true rfl) ?_
  refine C.seq ?_
  refine C.reg ?_
  refine W.y (y_assign rfl) rfl ?_
  refine W.fin ?_
  refine E.next ?_
  refine C.seq ?_
  refine C.seq ?_
  refine C.reg ?_
  refine W.y (y_move rfl) rfl ?_
  refine W.y (y_move rfl) rfl ?_
  refine W.call ent15 rfl (fit_ret (N := 32) (by omega)) rfl ?_
  rintro _ _ ⟨rfl, ⟨rfl, hf⟩ | rfl⟩
  rotate_left
  · skip
    refine W.y (y_not rfl) rfl ?_
    refine W.fin ?_
    refine E.next ?_
    refine C.yes rfl ?_
    refine C.seq ?_
    refine C.reg ?_
    refine W.y (y_assign rfl) rfl ?_
    refine W.fin ?_
    refine E.next ?_
    refine C.ret ?_
    refine E.thenRet ?_
    exact E.ret1 rfl rfl ⟨rfl, Kp.refl _ _⟩
  refine W.y (y_not rfl) rfl ?_
  refine W.fin ?_
  refine E.next ?_
  refine C.no rfl ?_
  refine C.skip ?_
  refine E.next ?_
  refine C.seq ?_
  refine C.reg ?_
  refine W.y (y_move rfl) rfl ?_
  refine W.call ent16 rfl (all_ret hP hn (by omega) (by omega)) rfl ?_
  rintro _ w1 ⟨ho, hob, hk1⟩
  obtain ⟨A1, c1, rfl, hr1, hc1, ha1⟩ := ho.bytes
  have hP1 := hP.on hk1
  refine W.y (y_assign rfl) rfl ?_
  refine W.fin ?_
  refine E.next ?_
  refine C.seq ?_
  refine C.reg ?_
  refine W.y (y_move rfl) rfl ?_
  refine W.y (y_move rfl) rfl ?_
  refine W.y (y_move rfl) rfl ?_
  refine W.call ent17 rfl (encodeOpen32_ret hf hP1 hn (by omega) (by omega)) rfl ?_
  rintro _ w2 ⟨rfl, hk2⟩
  have hr2 := (hr1.kept hk2 (fun _ _ _ => id)).takeB (ps.flatten.length / 5 * 5)
  have hlo := hf.lo
  refine W.y (y_move rfl) rfl ?_
  refine W.y (y_ext rfl rfl) rfl ?_
  refine W.y (y_ext rfl rfl) rfl ?_
  refine W.y (y_assign rfl) rfl ?_
  refine W.y (y_assign rfl) rfl ?_
  refine W.fin ?_
  refine E.next ?_
  refine C.seq ?_
  refine C.reg ?_
  refine W.y (y_move rfl) rfl ?_
  refine W.y (y_move rfl) rfl ?_
  refine W.y (y_move rfl) rfl ?_
  refine W.y (y_move rfl) rfl ?_
  refine W.y (y_move rfl) rfl ?_
  refine W.y (y_len rfl Try.underlying24) rfl ?_
  refine W.y (y_quo rfl rfl (by omega) (by omega) (by omega)) rfl ?_
  refine W.y (y_mul (r := ((ps.flatten.length / 5 * 5 : Nat) : Int)) rfl rfl ((wi64 (by omega) (by omega)).trans (by omega))) rfl ?_
  refine W.y (y_cuth rfl rfl Try.underlying24 siz5 (by omega)) rfl ?_
  refine W.call ent18 rfl (text32_ret hr2 hlt (by omega) hf.len hf.lo hf.hi) rfl ?_
  rintro _ w3 ⟨rfl, hk3⟩
  refine W.y (y_eqsT rfl rfl (text_of_whole (whole32 hlt)).symm) rfl ?_
  refine W.y (y_move rfl) rfl ?_
  refine W.gy rfl rfl (y_move rfl) rfl ?_
  refine W.gy rfl rfl (y_move rfl) rfl ?_
  refine W.gy rfl rfl (y_len rfl Try.underlying24) rfl ?_
  refine W.gy rfl rfl (y_eqlT rfl rfl (by omega)) rfl ?_
  refine W.y (y_pick rfl rfl) rfl ?_
  refine W.y (y_assign rfl) rfl ?_
  refine W.fin ?_
  refine E.next ?_
  refine C.ret ?_
  exact E.ret1 rfl rfl ⟨rfl, (hk1.trans hk2).trans hk3⟩
end Go.Proofs.Ytlbnglmfbnnhjaa
