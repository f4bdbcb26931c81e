/-
  Walk: FnStreamThrough64.
-/
import Derived.Test.YtlcbcedhbahbbaaDoorSB
import Derived.Test.YtlcbcedhbahbbaaDoorStr3
import Derived.Test.YtlcbcedhbahbbaaDoorOne
import Derived.Test.YtlcbcedhbahbbaaDoorD64
namespace Go.Proofs.YtlcbcedhbahbbaaDoor
open Go.RowKit
theorem ent19 : Enters Tryd.prog 19 := enters_of Tryd.func19 (by kernel_rfl) rfl
theorem ent22 : Enters Tryd.prog 22 := enters_of Tryd.func22 (by kernel_rfl) rfl

set_option maxRecDepth 4000 in
theorem fnStreamThrough64_ret {w : World} {A A2 A3 : Option Addr} {c n c2 n2 c3 n3 : Nat} {al : List UInt8} {pad : Int} {st : Bool} {ps : List (List UInt8)} {ys zs : List Int} {ae : Addr} (hal : al.length ≤ 1048576) (hP : Pcs w.heap.size w A ps) (hn : ps.length = n) (hN : ps.flatten.length ≤ 1048576) (hN2 : ps.length ≤ 1048576) (hy : Rd w A2 (iv ys)) (hny : ys.length = n2) (hNy : n2 ≤ 1048576) (hz : Rd w A3 (iv zs)) (hnz : zs.length = n3) (hNz : n3 ≤ 1048576) (hEof : w.cell? ⟨0, 0, none⟩ = some (.iface 116 (.pointer (some ae)))) :
    Ret Tryd.prog 10 #[str al, .int .i64 pad, .bool st, .slice A n c, .slice A2 n2 c2, .slice A3 n3 c3] w fun v w' => v = .bool true ∧ Kp (fun _ => False) w w' := by
  subst hn hny hnz
  have htl0 := (text_bounds64 (al := al) (s := ps.flatten) (pad := pad)).2
  have hun := Pl.unpack_nums (bits := 6) (by omega) (by omega) ps.flatten
  refine ret_of Tryd.func10 rfl Tryd.ntmps10 (Nat.le_of_ble_eq_true rfl) ?_
  refine C.seq ?_
  refine C.reg ?_
  refine W.y (y_assign rfl) rfl ?_
  refine W.fin ?_
  refine E.next ?_
  refine C.seq ?_
  refine C.seq ?_
  refine C.reg ?_
  refine W.y (y_move rfl) rfl ?_
  refine W.y (y_move rfl) rfl ?_
  refine W.call ent18 rfl (fit_ret (N := 64) (by omega)) rfl ?_
  rintro _ _ ⟨rfl, ⟨rfl, hf⟩ | rfl⟩
  rotate_left
  · skip
    refine W.y (y_not rfl) rfl ?_
    refine W.y (y_move rfl) rfl ?_
    refine W.gn rfl rfl rfl ?_
    refine W.gn rfl rfl rfl ?_
    refine W.gn rfl rfl rfl ?_
    refine W.y (y_pick rfl rfl) rfl ?_
    refine W.fin ?_
    refine E.next ?_
    refine C.yes rfl ?_
    refine C.seq ?_
    refine C.reg ?_
    refine W.y (y_assign rfl) rfl ?_
    refine W.fin ?_
    refine E.next ?_
    refine C.ret ?_
    refine E.thenRet ?_
    exact E.ret1 rfl rfl ⟨rfl, Kp.refl _ _⟩
  refine W.y (y_not rfl) rfl ?_
  refine W.y (y_move rfl) rfl ?_
  refine W.gy rfl rfl (y_move rfl) rfl ?_
  refine W.gCall rfl rfl ent13 rfl (sized_ret hz rfl (by omega)) rfl ?_
  rintro _ _ ⟨rfl, ⟨rfl, hz0, hzz⟩ | rfl⟩
  rotate_left
  · skip
    refine W.gy rfl rfl (y_not rfl) rfl ?_
    refine W.y (y_pick rfl rfl) rfl ?_
    refine W.fin ?_
    refine E.next ?_
    refine C.yes rfl ?_
    refine C.seq ?_
    refine C.reg ?_
    refine W.y (y_assign rfl) rfl ?_
    refine W.fin ?_
    refine E.next ?_
    refine C.ret ?_
    refine E.thenRet ?_
    exact E.ret1 rfl rfl ⟨rfl, Kp.refl _ _⟩
  refine W.gy rfl rfl (y_not rfl) rfl ?_
  refine W.y (y_pick rfl rfl) rfl ?_
  refine W.fin ?_
  refine E.next ?_
  refine C.no rfl ?_
  refine C.skip ?_
  refine E.next ?_
  refine C.seq ?_
  refine C.reg ?_
  refine W.y (y_move rfl) rfl ?_
  refine W.y (y_move rfl) rfl ?_
  refine W.y (y_move rfl) rfl ?_
  refine W.call ent22 rfl (encodeStream64_ret hf hP rfl (by omega) (by omega)) rfl ?_
  rintro _ w1 ⟨rfl, hw1⟩
  refine W.y (y_move rfl) rfl ?_
  refine W.y (y_ext rfl rfl) rfl ?_
  refine W.y (y_ext rfl rfl) rfl ?_
  refine W.y (y_assign rfl) rfl ?_
  refine W.y (y_assign rfl) rfl ?_
  refine W.fin ?_
  refine E.next ?_
  refine C.seq ?_
  refine C.reg ?_
  refine W.y (y_move rfl) rfl ?_
  refine W.y (y_move rfl) rfl ?_
  refine W.y (y_move rfl) rfl ?_
  refine W.y (y_move rfl) rfl ?_
  refine W.y (y_move rfl) rfl ?_
  refine W.call ent15 rfl (cutText_ret (hy.kept hw1 (fun _ _ _ => id)) rfl (by omega) (by omega)) rfl ?_
  rintro _ w2 ⟨⟨ts, ht0, htf, htl, how⟩, _, hw2⟩
  obtain ⟨AT, cT, rfl, hrT, _, _⟩ := how.slice
  have hmT : (ts.map str).length = ts.length := List.length_map _
  rw [hmT]
  have hk2 := hw1.trans hw2
  refine W.y (y_move rfl) rfl ?_
  refine W.call ent19 rfl (decodeStream64_ret (vs := Pl.nums 6 ps.flatten) hf (fun _ => ⟨_, rfl⟩) (eof_kept hEof hk2 id) hrT rfl ht0 (by omega) (by rw [htf]; omega) (by rw [htf]; exact text_strip hf rfl) (Pl.nums_lt (bits := 6)) ⟨_, Pl.nums_length _ _⟩ (hz.kept hk2 (fun _ _ _ => id)) rfl (by omega) hz0 hzz) rfl ?_
  rintro _ w3 ⟨⟨vd, vc, ks, rfl, hod, hoc, hk0, hcn, hkl⟩, hw3⟩
  rw [hun] at hod hcn hkl
  obtain ⟨AD, cD, rfl, hrD, _, _⟩ := hod.slice
  obtain ⟨AC, cC, rfl, hrC, _, _⟩ := hoc.slice
  rw [bv_length, iv_length]
  have hkp := List.length_pos_iff.2 hk0
  have hk3 := hk2.trans hw3
  refine W.y (y_move rfl) rfl ?_
  refine W.y (y_ext rfl rfl) rfl ?_
  refine W.y (y_ext rfl rfl) rfl ?_
  refine W.y (y_ext rfl rfl) rfl ?_
  refine W.y (y_assign rfl) rfl ?_
  refine W.y (y_assign rfl) rfl ?_
  refine W.y (y_assign rfl) rfl ?_
  refine W.fin ?_
  refine E.next ?_
  refine C.seq ?_
  refine C.reg ?_
  refine W.y (y_move rfl) rfl ?_
  refine W.y (y_move rfl) rfl ?_
  refine W.call ent21 rfl (all_ret (hP.on hk3) rfl (by omega) (by omega)) rfl ?_
  rintro _ w4 ⟨ho, hob, hk4⟩
  obtain ⟨A9, c9, rfl, hr9, hc9, _⟩ := ho.bytes
  refine W.call ent17 rfl (same_ret (hrD.kept hk4 (fun _ _ _ => id)) rfl hr9 rfl) rfl ?_
  rintro _ _ ⟨rfl, rfl⟩
  refine W.y (y_move rfl) rfl ?_
  refine W.gy rfl rfl (y_move rfl) rfl ?_
  refine W.gy rfl rfl (y_eqlT rfl rfl (by omega)) rfl ?_
  refine W.y (y_pick rfl rfl) rfl ?_
  refine W.y (y_move rfl) rfl ?_
  refine W.gy rfl rfl (y_move rfl) rfl ?_
  refine W.gy rfl rfl (y_len rfl Tryd.underlying23) rfl ?_
  refine W.gy rfl rfl (y_gtrT rfl rfl (by omega)) rfl ?_
  refine W.y (y_pick rfl rfl) rfl ?_
  refine W.y (y_assign rfl) rfl ?_
  refine W.fin ?_
  refine E.next ?_
  refine C.ret ?_
  exact E.ret1 rfl rfl ⟨rfl, hk3.trans hk4⟩
end Go.Proofs.YtlcbcedhbahbbaaDoor
