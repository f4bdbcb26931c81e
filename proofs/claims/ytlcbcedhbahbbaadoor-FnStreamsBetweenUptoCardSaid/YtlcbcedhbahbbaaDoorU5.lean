/-
  Walk: FnStreamsBetween.
-/
import Derived.Test.YtlcbcedhbahbbaaDoorSB
import Derived.Test.YtlcbcedhbahbbaaDoorStr3
import Derived.Test.YtlcbcedhbahbbaaDoorOne
import Derived.Test.YtlcbcedhbahbbaaDoorD64
import Derived.Test.YtlcbcedhbahbbaaDoorRoad
namespace Go.Proofs.YtlcbcedhbahbbaaDoor
open Go.RowKit
theorem ent19 : Enters Tryd.prog 19 := enters_of Tryd.func19 (by kernel_rfl) rfl
theorem ent22 : Enters Tryd.prog 22 := enters_of Tryd.func22 (by kernel_rfl) rfl
theorem el38 : El Tryd.prog 38 22 24 := el_of Tryd.underlying38 (by kernel_rfl)

set_option maxRecDepth 4000 in
theorem fnStreamsBetween_ret {w : World} {A A2 A3 : Option Addr} {c n c2 n2 c3 n3 : Nat} {al bl : List UInt8} {pad pad2 : Int} {ps : List (List UInt8)} {ys zs : List Int} {ae : Addr} (hal : al.length ≤ 1048576) (hbl : bl.length ≤ 1048576) (hP : Pcs w.heap.size w A ps) (hn : ps.length = n) (hN : ps.flatten.length ≤ 1048576) (hN2 : ps.length ≤ 1048576) (hy : Rd w A2 (iv ys)) (hny : ys.length = n2) (hNy : n2 ≤ 1048576) (hz : Rd w A3 (iv zs)) (hnz : zs.length = n3) (hNz : n3 ≤ 1048576) (hEof : w.cell? ⟨0, 0, none⟩ = some (.iface 116 (.pointer (some ae)))) :
    Ret Tryd.prog 11 #[str al, .int .i64 pad, str bl, .int .i64 pad2, .slice A n c, .slice A2 n2 c2, .slice A3 n3 c3] w fun v w' => v = .bool true ∧ Kp (fun _ => False) w w' := by
  subst hn hny hnz
  by_cases hneg : pad2 < 0
  · refine ret_of Tryd.func11 rfl Tryd.ntmps11 (Nat.le_of_ble_eq_true rfl) ?_
    refine C.seq ?_
    refine C.reg ?_
    refine W.y (y_assign rfl) rfl ?_
    refine W.fin ?_
    refine E.next ?_
    refine C.seq ?_
    refine C.seq ?_
    refine C.reg ?_
    refine W.y (y_move rfl) rfl ?_
    refine W.y (y_move rfl) rfl ?_
    refine W.call ent18 rfl (fit_ret (N := 64) (by omega)) rfl ?_
    rintro _ _ ⟨rfl, ⟨rfl, hf⟩ | rfl⟩
    rotate_left
    · skip
      refine W.y (y_not rfl) rfl ?_
      refine W.y (y_move rfl) rfl ?_
      refine W.gn rfl rfl rfl ?_
      refine W.gn rfl rfl rfl ?_
      refine W.gn rfl rfl rfl ?_
      refine W.gn rfl rfl rfl ?_
      refine W.y (y_pick rfl rfl) rfl ?_
      refine W.y (y_move rfl) rfl ?_
      refine W.gn rfl rfl rfl ?_
      refine W.gn rfl rfl rfl ?_
      refine W.y (y_pick rfl rfl) rfl ?_
      refine W.y (y_move rfl) rfl ?_
      refine W.gn rfl rfl rfl ?_
      refine W.gn rfl rfl rfl ?_
      refine W.gn rfl rfl rfl ?_
      refine W.y (y_pick rfl rfl) rfl ?_
      refine W.fin ?_
      refine E.next ?_
      refine C.yes rfl ?_
      refine C.seq ?_
      refine C.reg ?_
      refine W.y (y_assign rfl) rfl ?_
      refine W.fin ?_
      refine E.next ?_
      refine C.ret ?_
      refine E.thenRet ?_
      exact E.ret1 rfl rfl ⟨rfl, Kp.refl _ _⟩
    refine W.y (y_not rfl) rfl ?_
    refine W.y (y_move rfl) rfl ?_
    refine W.gy rfl rfl (y_move rfl) rfl ?_
    refine W.gy rfl rfl (y_move rfl) rfl ?_
    refine W.gCall rfl rfl ent12 rfl (fitRead_ret (by omega)) rfl ?_
    rintro _ _ ⟨rfl, ⟨rfl, hf2, h255⟩ | rfl⟩
    rotate_left
    · skip
      refine W.gy rfl rfl (y_not rfl) rfl ?_
      refine W.y (y_pick rfl rfl) rfl ?_
      refine W.y (y_move rfl) rfl ?_
      refine W.gn rfl rfl rfl ?_
      refine W.gn rfl rfl rfl ?_
      refine W.y (y_pick rfl rfl) rfl ?_
      refine W.y (y_move rfl) rfl ?_
      refine W.gn rfl rfl rfl ?_
      refine W.gn rfl rfl rfl ?_
      refine W.gn rfl rfl rfl ?_
      refine W.y (y_pick rfl rfl) rfl ?_
      refine W.fin ?_
      refine E.next ?_
      refine C.yes rfl ?_
      refine C.seq ?_
      refine C.reg ?_
      refine W.y (y_assign rfl) rfl ?_
      refine W.fin ?_
      refine E.next ?_
      refine C.ret ?_
      refine E.thenRet ?_
      exact E.ret1 rfl rfl ⟨rfl, Kp.refl _ _⟩
    refine W.gy rfl rfl (y_not rfl) rfl ?_
    refine W.y (y_pick rfl rfl) rfl ?_
    refine W.y (y_move rfl) rfl ?_
    refine W.gy rfl rfl (y_move rfl) rfl ?_
    refine W.gy rfl rfl (y_lssT rfl rfl (by omega)) rfl ?_
    refine W.y (y_pick rfl rfl) rfl ?_
    refine W.y (y_move rfl) rfl ?_
    refine W.gn rfl rfl rfl ?_
    refine W.gn rfl rfl rfl ?_
    refine W.gn rfl rfl rfl ?_
    refine W.y (y_pick rfl rfl) rfl ?_
    refine W.fin ?_
    refine E.next ?_
    refine C.yes rfl ?_
    refine C.seq ?_
    refine C.reg ?_
    refine W.y (y_assign rfl) rfl ?_
    refine W.fin ?_
    refine E.next ?_
    refine C.ret ?_
    refine E.thenRet ?_
    exact E.ret1 rfl rfl ⟨rfl, Kp.refl _ _⟩
  have hp0 : 0 ≤ pad2 := by omega
  obtain ⟨D, hD⟩ : ∃ D, D = ps.flatten := ⟨_, rfl⟩
  have hDl : D.length ≤ 1048576 := by rw [hD]; exact hN
  have htl0 := (text_bounds64 (al := al) (s := D) (pad := pad)).2
  have htl9 := (text_bounds32 (al := bl) (s := D) (pad := pad2)).2
  have hun := Pl.unpack_nums (bits := 6) (by omega) (by omega) D
  have hun2 := Pl.unpack_nums (bits := 5) (by omega) (by omega) D
  refine ret_of Tryd.func11 rfl Tryd.ntmps11 (Nat.le_of_ble_eq_true rfl) ?_
  refine C.seq ?_
  refine C.reg ?_
  refine W.y (y_assign rfl) rfl ?_
  refine W.fin ?_
  refine E.next ?_
  refine C.seq ?_
  refine C.seq ?_
  refine C.reg ?_
  refine W.y (y_move rfl) rfl ?_
  refine W.y (y_move rfl) rfl ?_
  refine W.call ent18 rfl (fit_ret (N := 64) (by omega)) rfl ?_
  rintro _ _ ⟨rfl, ⟨rfl, hf⟩ | rfl⟩
  rotate_left
  · skip
    refine W.y (y_not rfl) rfl ?_
    refine W.y (y_move rfl) rfl ?_
    refine W.gn rfl rfl rfl ?_
    refine W.gn rfl rfl rfl ?_
    refine W.gn rfl rfl rfl ?_
    refine W.gn rfl rfl rfl ?_
    refine W.y (y_pick rfl rfl) rfl ?_
    refine W.y (y_move rfl) rfl ?_
    refine W.gn rfl rfl rfl ?_
    refine W.gn rfl rfl rfl ?_
    refine W.y (y_pick rfl rfl) rfl ?_
    refine W.y (y_move rfl) rfl ?_
    refine W.gn rfl rfl rfl ?_
    refine W.gn rfl rfl rfl ?_
    refine W.gn rfl rfl rfl ?_
    refine W.y (y_pick rfl rfl) rfl ?_
    refine W.fin ?_
    refine E.next ?_
    refine C.yes rfl ?_
    refine C.seq ?_
    refine C.reg ?_
    refine W.y (y_assign rfl) rfl ?_
    refine W.fin ?_
    refine E.next ?_
    refine C.ret ?_
    refine E.thenRet ?_
    exact E.ret1 rfl rfl ⟨rfl, Kp.refl _ _⟩
  refine W.y (y_not rfl) rfl ?_
  refine W.y (y_move rfl) rfl ?_
  refine W.gy rfl rfl (y_move rfl) rfl ?_
  refine W.gy rfl rfl (y_move rfl) rfl ?_
  refine W.gCall rfl rfl ent12 rfl (fitRead_ret (by omega)) rfl ?_
  rintro _ _ ⟨rfl, ⟨rfl, hf2, h255⟩ | rfl⟩
  rotate_left
  · skip
    refine W.gy rfl rfl (y_not rfl) rfl ?_
    refine W.y (y_pick rfl rfl) rfl ?_
    refine W.y (y_move rfl) rfl ?_
    refine W.gn rfl rfl rfl ?_
    refine W.gn rfl rfl rfl ?_
    refine W.y (y_pick rfl rfl) rfl ?_
    refine W.y (y_move rfl) rfl ?_
    refine W.gn rfl rfl rfl ?_
    refine W.gn rfl rfl rfl ?_
    refine W.gn rfl rfl rfl ?_
    refine W.y (y_pick rfl rfl) rfl ?_
    refine W.fin ?_
    refine E.next ?_
    refine C.yes rfl ?_
    refine C.seq ?_
    refine C.reg ?_
    refine W.y (y_assign rfl) rfl ?_
    refine W.fin ?_
    refine E.next ?_
    refine C.ret ?_
    refine E.thenRet ?_
    exact E.ret1 rfl rfl ⟨rfl, Kp.refl _ _⟩
  refine W.gy rfl rfl (y_not rfl) rfl ?_
  refine W.y (y_pick rfl rfl) rfl ?_
  refine W.y (y_move rfl) rfl ?_
  refine W.gy rfl rfl (y_move rfl) rfl ?_
  refine W.gy rfl rfl (y_lssF rfl rfl (by omega)) rfl ?_
  refine W.y (y_pick rfl rfl) rfl ?_
  refine W.y (y_move rfl) rfl ?_
  refine W.gy rfl rfl (y_move rfl) rfl ?_
  refine W.gCall rfl rfl ent13 rfl (sized_ret hz rfl (by omega)) rfl ?_
  rintro _ _ ⟨rfl, ⟨rfl, hz0, hzz⟩ | rfl⟩
  rotate_left
  · skip
    refine W.gy rfl rfl (y_not rfl) rfl ?_
    refine W.y (y_pick rfl rfl) rfl ?_
    refine W.fin ?_
    refine E.next ?_
    refine C.yes rfl ?_
    refine C.seq ?_
    refine C.reg ?_
    refine W.y (y_assign rfl) rfl ?_
    refine W.fin ?_
    refine E.next ?_
    refine C.ret ?_
    refine E.thenRet ?_
    exact E.ret1 rfl rfl ⟨rfl, Kp.refl _ _⟩
  refine W.gy rfl rfl (y_not rfl) rfl ?_
  refine W.y (y_pick rfl rfl) rfl ?_
  refine W.fin ?_
  refine E.next ?_
  refine C.no rfl ?_
  refine C.skip ?_
  refine E.next ?_
  refine C.seq ?_
  refine C.reg ?_
  refine W.y (y_move rfl) rfl ?_
  refine W.y (y_move rfl) rfl ?_
  refine W.y (y_move rfl) rfl ?_
  refine W.call ent22 rfl (encodeStream64_ret hf hP rfl (by omega) (by omega)) rfl ?_
  rintro _ w1 ⟨rfl, hw1⟩
  rw [← hD]
  refine W.y (y_move rfl) rfl ?_
  refine W.y (y_ext rfl rfl) rfl ?_
  refine W.y (y_ext rfl rfl) rfl ?_
  refine W.y (y_assign rfl) rfl ?_
  refine W.y (y_assign rfl) rfl ?_
  refine W.fin ?_
  refine E.next ?_
  refine C.seq ?_
  refine C.reg ?_
  refine W.y (y_move rfl) rfl ?_
  refine W.y (y_move rfl) rfl ?_
  refine W.y (y_move rfl) rfl ?_
  refine W.y (y_move rfl) rfl ?_
  refine W.call ent15 rfl (cutText_ret (hy.kept hw1 (fun _ _ _ => id)) rfl (by omega) (by omega)) rfl ?_
  rintro _ w2 ⟨⟨ts, ht0, htf, htl, how⟩, _, hw2⟩
  obtain ⟨AT, cT, rfl, hrT, _, _⟩ := how.slice
  have hmT : (ts.map str).length = ts.length := List.length_map _
  rw [hmT]
  have hk2 := hw1.trans hw2
  refine W.y (y_move rfl) rfl ?_
  refine W.call ent19 rfl (decodeStream64_ret (vs := Pl.nums 6 D) hf (fun _ => ⟨_, rfl⟩) (eof_kept hEof hk2 id) hrT rfl ht0 (by omega) (by rw [htf]; omega) (by rw [htf]; exact text_strip hf rfl) (Pl.nums_lt (bits := 6)) ⟨_, Pl.nums_length _ _⟩ (hz.kept hk2 (fun _ _ _ => id)) rfl (by omega) hz0 hzz) rfl ?_
  rintro _ w3 ⟨⟨vd, vc, ks, rfl, hod, hoc, hk0, hcn, hkl⟩, hw3⟩
  rw [hun] at hod hcn hkl
  obtain ⟨AD, cD, rfl, hrD, hcD, _⟩ := hod.slice
  obtain ⟨AC, cC, rfl, hrC, _, _⟩ := hoc.slice
  rw [bv_length, iv_length]
  have hkp := List.length_pos_iff.2 hk0
  have hk3 := hk2.trans hw3
  have hw4 : Kp (fun _ => False) w3 (w3.alloc (.cells #[.slice AD D.length cD] 22)) := (Kp.refl _ _).alloc _
  have hP4 : Pcs (w3.alloc (.cells #[.slice AD D.length cD] 22)).heap.size _ (some ⟨w3.heap.size, 0, none⟩) [D] := row_pcs (Bk.new _ _ _) (fun i p hp => by
    match i, hp with
    | 0, hp => injection hp with hp; subst hp; exact ⟨AD, cD, rfl, by have := hcD; rw [bv_length] at this; exact this, hrD.kept hw4 (fun _ _ _ => id)⟩)
  have hfD : [D].flatten = D := by simp
  have hk4 := hk3.trans hw4
  refine W.y (y_move rfl) rfl ?_
  refine W.y (y_ext rfl rfl) rfl ?_
  refine W.y (y_ext rfl rfl) rfl ?_
  refine W.y (y_ext rfl rfl) rfl ?_
  refine W.y (y_assign rfl) rfl ?_
  refine W.y (y_assign rfl) rfl ?_
  refine W.y (y_assign rfl) rfl ?_
  refine W.fin ?_
  refine E.next ?_
  refine C.seq ?_
  refine C.reg ?_
  refine W.y (y_move rfl) rfl ?_
  refine W.y (y_move rfl) rfl ?_
  refine W.y (y_move rfl) rfl ?_
  refine W.y (y_bs1 (v := .slice AD D.length cD) el38 rfl rfl) rfl ?_
  refine W.call ent20 rfl (encodeStream32_ret (n := 1) hf2 hP4 rfl (by rw [hfD]; omega) (by simp)) rfl ?_
  rintro _ w5 ⟨rfl, hw5⟩
  rw [hfD]
  have hk5 := hk4.trans hw5
  refine W.y (y_move rfl) rfl ?_
  refine W.y (y_ext rfl rfl) rfl ?_
  refine W.y (y_ext rfl rfl) rfl ?_
  refine W.y (y_assign rfl) rfl ?_
  refine W.y (y_assign rfl) rfl ?_
  refine W.fin ?_
  refine E.next ?_
  refine C.seq ?_
  refine C.reg ?_
  refine W.y (y_move rfl) rfl ?_
  refine W.y (y_move rfl) rfl ?_
  refine W.y (y_move rfl) rfl ?_
  refine W.y (y_move rfl) rfl ?_
  refine W.call ent15 rfl (cutText_ret (hz.kept hk5 (fun _ _ _ => id)) rfl (by omega) (by omega)) rfl ?_
  rintro _ w6 ⟨⟨ts2, ht02, htf2, htl2, how2⟩, _, hw6⟩
  obtain ⟨AT2, cT2, rfl, hrT2, _, _⟩ := how2.slice
  have hmT2 : (ts2.map str).length = ts2.length := List.length_map _
  rw [hmT2]
  have hk6 := hk5.trans hw6
  refine W.y (y_move rfl) rfl ?_
  refine W.call ent14 rfl (decodeStream32_ret (vs := Pl.nums 5 D) hf2 hp0 (eof_kept hEof hk6 id) hrT2 rfl ht02 (by omega) (by rw [htf2]; omega) (by rw [htf2]; exact text_strip hf2 rfl) (Pl.nums_lt (bits := 5)) ⟨_, Pl.nums_length _ _⟩ (hz.kept hk6 (fun _ _ _ => id)) rfl (by omega) hz0 hzz) rfl ?_
  rintro _ w7 ⟨⟨vd, vc, ks2, rfl, hod2, hoc2, hk02, hcn2, hkl2⟩, hw7⟩
  rw [hun2] at hod2 hcn2 hkl2
  obtain ⟨AD2, cD2, rfl, hrD2, _, _⟩ := hod2.slice
  obtain ⟨AC2, cC2, rfl, hrC2, _, _⟩ := hoc2.slice
  rw [bv_length, iv_length]
  have hkp2 := List.length_pos_iff.2 hk02
  have hk7 := hk6.trans hw7
  refine W.y (y_move rfl) rfl ?_
  refine W.y (y_ext rfl rfl) rfl ?_
  refine W.y (y_ext rfl rfl) rfl ?_
  refine W.y (y_ext rfl rfl) rfl ?_
  refine W.y (y_assign rfl) rfl ?_
  refine W.y (y_assign rfl) rfl ?_
  refine W.y (y_assign rfl) rfl ?_
  refine W.fin ?_
  refine E.next ?_
  refine C.seq ?_
  refine C.reg ?_
  refine W.y (y_move rfl) rfl ?_
  refine W.y (y_eqlT rfl rfl (by omega)) rfl ?_
  refine W.y (y_move rfl) rfl ?_
  refine W.gy rfl rfl (y_move rfl) rfl ?_
  refine W.gy rfl rfl (y_eqlT rfl rfl (by omega)) rfl ?_
  refine W.y (y_pick rfl rfl) rfl ?_
  refine W.y (y_move rfl) rfl ?_
  refine W.gy rfl rfl (y_move rfl) rfl ?_
  refine W.gy rfl rfl (y_len rfl Tryd.underlying23) rfl ?_
  refine W.gy rfl rfl (y_gtrT rfl rfl (by omega)) rfl ?_
  refine W.y (y_pick rfl rfl) rfl ?_
  refine W.y (y_move rfl) rfl ?_
  refine W.gy rfl rfl (y_move rfl) rfl ?_
  refine W.gy rfl rfl (y_move rfl) rfl ?_
  refine W.gCall rfl rfl ent21 rfl (all_ret (hP.on hk7) rfl (by omega) (by omega)) rfl ?_
  rintro _ w8 ⟨ho, hob, hk8⟩
  obtain ⟨A9, c9, rfl, hr9, hc9, _⟩ := ho.bytes
  refine W.gCall rfl rfl ent17 rfl (same_ret (hrD2.kept hk8 (fun _ _ _ => id)) rfl (hD ▸ hr9) (by rw [hD])) rfl ?_
  rintro _ _ ⟨rfl, rfl⟩
  refine W.y (y_pick rfl rfl) rfl ?_
  refine W.y (y_assign rfl) rfl ?_
  refine W.fin ?_
  refine E.next ?_
  refine C.ret ?_
  exact E.ret1 rfl rfl ⟨rfl, hk7.trans hk8⟩
end Go.Proofs.YtlcbcedhbahbbaaDoor
