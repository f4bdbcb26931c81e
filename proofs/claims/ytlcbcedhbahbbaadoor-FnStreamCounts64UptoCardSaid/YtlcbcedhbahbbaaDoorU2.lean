/-
  Walk: FnStreamCounts64.
-/
import Derived.Test.YtlcbcedhbahbbaaDoorSB
import Derived.Test.YtlcbcedhbahbbaaDoorStr3
import Derived.Test.YtlcbcedhbahbbaaDoorOne
import Derived.Test.YtlcbcedhbahbbaaDoorD64
namespace Go.Proofs.YtlcbcedhbahbbaaDoor
open Go.RowKit
theorem ent19 : Enters Tryd.prog 19 := enters_of Tryd.func19 (by kernel_rfl) rfl

set_option maxRecDepth 4000 in
theorem fnStreamCounts64_ret {w : World} {A A2 A3 : Option Addr} {c n c2 n2 c3 n3 : Nat} {al : List UInt8} {pad : Int} {st : Bool} {a : List UInt8} {ys zs : List Int} {ae : Addr} (hal : al.length ≤ 1048576) (hA : Rd w A (bv a)) (hn : a.length = n) (hN : n ≤ 1048576) (hy : Rd w A2 (iv ys)) (hny : ys.length = n2) (hNy : n2 ≤ 1048576) (hz : Rd w A3 (iv zs)) (hnz : zs.length = n3) (hNz : n3 ≤ 1048576) (hEof : w.cell? ⟨0, 0, none⟩ = some (.iface 116 (.pointer (some ae)))) :
    Ret Tryd.prog 6 #[str al, .int .i64 pad, .bool st, .slice A n c, .slice A2 n2 c2, .slice A3 n3 c3] w fun v w' => v = .bool true ∧ Kp (fun _ => False) w w' := by
  subst hn hny hnz
  have htl0 := (text_bounds64 (al := al) (s := a) (pad := pad)).2
  have hun := Pl.unpack_nums (bits := 6) (by omega) (by omega) a
  refine ret_of Tryd.func6 rfl Tryd.ntmps6 (Nat.le_of_ble_eq_true rfl) ?_
  refine C.seq ?_
  refine C.reg ?_
  refine W.y (y_assign rfl) rfl ?_
  refine W.fin ?_
  refine E.next ?_
  refine C.seq ?_
  refine C.seq ?_
  refine C.reg ?_
  refine W.y (y_move rfl) rfl ?_
  refine W.y (y_move rfl) rfl ?_
  refine W.call ent18 rfl (fit_ret (N := 64) (by omega)) rfl ?_
  rintro _ _ ⟨rfl, ⟨rfl, hf⟩ | rfl⟩
  rotate_left
  · skip
    refine W.y (y_not rfl) rfl ?_
    refine W.y (y_move rfl) rfl ?_
    refine W.gn rfl rfl rfl ?_
    refine W.gn rfl rfl rfl ?_
    refine W.gn rfl rfl rfl ?_
    refine W.y (y_pick rfl rfl) rfl ?_
    refine W.fin ?_
    refine E.next ?_
    refine C.yes rfl ?_
    refine C.seq ?_
    refine C.reg ?_
    refine W.y (y_assign rfl) rfl ?_
    refine W.fin ?_
    refine E.next ?_
    refine C.ret ?_
    refine E.thenRet ?_
    exact E.ret1 rfl rfl ⟨rfl, Kp.refl _ _⟩
  refine W.y (y_not rfl) rfl ?_
  refine W.y (y_move rfl) rfl ?_
  refine W.gy rfl rfl (y_move rfl) rfl ?_
  refine W.gCall rfl rfl ent13 rfl (sized_ret hz rfl (by omega)) rfl ?_
  rintro _ _ ⟨rfl, ⟨rfl, hz0, hzz⟩ | rfl⟩
  rotate_left
  · skip
    refine W.gy rfl rfl (y_not rfl) rfl ?_
    refine W.y (y_pick rfl rfl) rfl ?_
    refine W.fin ?_
    refine E.next ?_
    refine C.yes rfl ?_
    refine C.seq ?_
    refine C.reg ?_
    refine W.y (y_assign rfl) rfl ?_
    refine W.fin ?_
    refine E.next ?_
    refine C.ret ?_
    refine E.thenRet ?_
    exact E.ret1 rfl rfl ⟨rfl, Kp.refl _ _⟩
  refine W.gy rfl rfl (y_not rfl) rfl ?_
  refine W.y (y_pick rfl rfl) rfl ?_
  refine W.fin ?_
  refine E.next ?_
  refine C.no rfl ?_
  refine C.skip ?_
  refine E.next ?_
  refine C.seq ?_
  refine C.reg ?_
  refine W.y (y_move rfl) rfl ?_
  refine W.y (y_move rfl) rfl ?_
  refine W.y (y_move rfl) rfl ?_
  refine W.y (y_move rfl) rfl ?_
  refine W.y (y_move rfl) rfl ?_
  refine W.y (y_move rfl) rfl ?_
  refine W.call ent16 rfl (text64_ret hA rfl (by omega) hf.len hf.lo hf.hi) rfl ?_
  rintro _ w1 ⟨rfl, hw1⟩
  refine W.y (y_move rfl) rfl ?_
  refine W.call ent15 rfl (cutText_ret (hy.kept hw1 (fun _ _ _ => id)) rfl (by omega) (by omega)) rfl ?_
  rintro _ w2 ⟨⟨ts, ht0, htf, htl, how⟩, _, hw2⟩
  obtain ⟨AT, cT, rfl, hrT, _, _⟩ := how.slice
  have hmT : (ts.map str).length = ts.length := List.length_map _
  rw [hmT]
  have hk2 := hw1.trans hw2
  refine W.y (y_move rfl) rfl ?_
  refine W.call ent19 rfl (decodeStream64_ret (vs := Pl.nums 6 a) hf (fun _ => ⟨_, rfl⟩) (eof_kept hEof hk2 id) hrT rfl ht0 (by omega) (by rw [htf]; omega) (by rw [htf]; exact text_strip hf rfl) (Pl.nums_lt (bits := 6)) ⟨_, Pl.nums_length _ _⟩ (hz.kept hk2 (fun _ _ _ => id)) rfl (by omega) hz0 hzz) rfl ?_
  rintro _ w3 ⟨⟨vd, vc, ks, rfl, hod, hoc, hk0, hcn, hkl⟩, hw3⟩
  rw [hun] at hod hcn hkl
  obtain ⟨AD, cD, rfl, hrD, _, _⟩ := hod.slice
  obtain ⟨AC, cC, rfl, hrC, _, _⟩ := hoc.slice
  rw [bv_length, iv_length]
  have hkp := List.length_pos_iff.2 hk0
  have hk3 := hk2.trans hw3
  have hpos : ∀ k ∈ ks, 0 ≤ k := fun k hk => by
    obtain ⟨j, hj, e⟩ := List.mem_iff_getElem.1 hk
    exact (hcn.2 j k (by rw [← e]; exact List.getElem?_eq_getElem _)).1
  have hsum := hcn.1
  have hzp := List.length_pos_iff.2 hz0
  refine W.y (y_move rfl) rfl ?_
  refine W.y (y_ext rfl rfl) rfl ?_
  refine W.y (y_ext rfl rfl) rfl ?_
  refine W.y (y_ext rfl rfl) rfl ?_
  refine W.y (y_assign rfl) rfl ?_
  refine W.y (y_assign rfl) rfl ?_
  refine W.y (y_assign rfl) rfl ?_
  refine W.fin ?_
  refine E.next ?_
  refine C.seq ?_
  refine C.reg ?_
  refine W.y (y_assign rfl) rfl ?_
  refine W.fin ?_
  refine E.next ?_
  refine C.seq ?_
  refine C.seq ?_
  refine C.reg ?_
  refine W.y (y_move rfl) rfl ?_
  refine W.y (y_len rfl Tryd.underlying23) rfl ?_
  refine W.y (y_move rfl) rfl ?_
  refine W.fin ?_
  refine E.next ?_
  refine C.block ?_
  refine C.loop (σ := Nat) (fun i w' => i ≤ ks.length ∧ w3 = w') (fun i => [(3, .slice A a.length c), (5, .slice A3 zs.length c3), (14, .slice AC ks.length cC), (15, .int .i64 0), (16, .int .i64 ((ks.take i).sum)), (43, .slice AC ks.length cC), (44, .int .i64 (ks.length : Int)), (45, .int .i64 (i : Int))]) (fun i => ks.length - i) 0 ?_ ?_ ?_
  · exact ⟨by omega, rfl⟩
  · exact (Sub.cons rfl (Sub.cons rfl (Sub.cons rfl (Sub.cons rfl (Sub.cons rfl (Sub.cons rfl (Sub.cons rfl (Sub.cons rfl (Sub.nil _)))))))))
  rintro i _ ⟨hi, rfl⟩
  show C _ _ _ _ [(3, .slice A a.length c), (5, .slice A3 zs.length c3), (14, .slice AC ks.length cC), (15, .int .i64 0), (16, .int .i64 ((ks.take i).sum)), (43, .slice AC ks.length cC), (44, .int .i64 (ks.length : Int)), (45, .int .i64 (i : Int))] _
  have hts := take_sum hpos i
  by_cases h : i < ks.length
  · obtain ⟨k, hki⟩ : ∃ k, ks[i]? = some k := ⟨_, List.getElem?_eq_getElem h⟩
    have hmod := Nat.mod_lt i hzp
    obtain ⟨z, hzi⟩ : ∃ z, zs[i % zs.length]? = some z := ⟨_, List.getElem?_eq_getElem hmod⟩
    have hkz := hcn.2 i k hki
    have hkz2 := hkz.2 z hzi
    have hmore := take_sum_more hki
    have hts2 := take_sum hpos (i + 1)
    obtain ⟨g1, o1, rfl, _, hc1⟩ := hrC.get (by intro e; have := congrArg List.length e; rw [iv_length] at this; simp at this; exact hk0 this)
    obtain ⟨g2, o2, rfl, _, hc2⟩ := (hz.kept hk3 (fun _ _ _ => id)).get (by intro e; have := congrArg List.length e; rw [iv_length] at this; simp at this; exact hz0 this)
    have hcell1 := hc1 i (.int .i64 k) (by simp [iv, hki])
    have hcell2 := hc2 (i % zs.length) (.int .i64 z) (by simp [iv, hzi])
    refine C.seq ?_
    refine C.reg ?_
    refine W.y (y_lssT rfl rfl (by omega)) rfl ?_
    refine W.fin ?_
    refine E.next ?_
    refine C.seq ?_
    refine C.yes rfl ?_
    refine C.skip ?_
    refine E.next ?_
    refine C.seq ?_
    refine C.block ?_
    refine C.seq ?_
    refine C.reg ?_
    refine W.y (y_move rfl) rfl ?_
    refine W.y (y_ixn rfl rfl Tryd.underlying23 siz2 (by omega)) rfl ?_
    refine W.y (y_load rfl pl2 hcell1) rfl ?_
    refine W.y (y_assign rfl) rfl ?_
    refine W.y (y_assign rfl) rfl ?_
    refine W.fin ?_
    refine E.next ?_
    refine C.seq ?_
    refine C.seq ?_
    refine C.reg ?_
    refine W.y (y_move rfl) rfl ?_
    refine W.y (y_lssF rfl rfl (by omega)) rfl ?_
    refine W.y (y_move rfl) rfl ?_
    refine W.gy rfl rfl (y_move rfl) rfl ?_
    refine W.gy rfl rfl (y_move rfl) rfl ?_
    refine W.gy rfl rfl (y_move rfl) rfl ?_
    refine W.gy rfl rfl (y_move rfl) rfl ?_
    refine W.gy rfl rfl (y_len rfl Tryd.underlying23) rfl ?_
    refine W.gy rfl rfl (Does.as (y_rem rfl rfl (by omega) (by omega)) (vint (b := ((i % zs.length : Nat) : Int)) (by omega))) rfl ?_
    refine W.gy rfl rfl (y_ixn rfl rfl Tryd.underlying23 siz2 (by omega)) rfl ?_
    refine W.gy rfl rfl (y_load rfl pl2 hcell2) rfl ?_
    refine W.gy rfl rfl (y_gtrF rfl rfl (by omega)) rfl ?_
    refine W.y (y_pick rfl rfl) rfl ?_
    refine W.fin ?_
    refine E.next ?_
    refine C.no rfl ?_
    refine C.skip ?_
    refine E.next ?_
    refine C.reg ?_
    refine W.y (y_move rfl) rfl ?_
    refine W.y (y_move rfl) rfl ?_
    refine W.y (y_add (r := (ks.take (i + 1)).sum) rfl rfl ((wi64 (by omega) (by omega)).trans (by omega))) rfl ?_
    refine W.y (y_assign rfl) rfl ?_
    refine W.fin ?_
    refine E.blockNormal ?_
    refine E.next ?_
    refine C.reg ?_
    refine W.y (Does.as (y_add rfl rfl (wi64 (by omega) (by omega))) (vint (b := ((i + 1 : Nat) : Int)) (by omega))) rfl ?_
    refine W.y (y_move rfl) rfl ?_
    refine W.fin ?_
    exact E.again (i + 1) ⟨by omega, rfl⟩ (Sub.cons rfl (Sub.cons rfl (Sub.cons rfl (Sub.cons rfl (Sub.cons rfl (Sub.cons rfl (Sub.cons rfl (Sub.cons rfl (Sub.nil _))))))))) (by omega)
  obtain rfl : i = ks.length := by omega
  rw [List.take_length]
  refine C.seq ?_
  refine C.reg ?_
  refine W.y (y_lssF rfl rfl (by omega)) rfl ?_
  refine W.fin ?_
  refine E.next ?_
  refine C.seq ?_
  refine C.no rfl ?_
  refine C.exit ?_
  refine E.thenExit ?_
  refine E.thenExit ?_
  refine E.blockOut ?_
  refine E.next ?_
  refine C.seq ?_
  refine C.reg ?_
  refine W.y (y_move rfl) rfl ?_
  refine W.y (y_move rfl) rfl ?_
  refine W.y (y_len rfl Tryd.underlying22) rfl ?_
  refine W.y (y_eqlT rfl rfl (by omega)) rfl ?_
  refine W.y (y_move rfl) rfl ?_
  refine W.gy rfl rfl (y_move rfl) rfl ?_
  refine W.gy rfl rfl (y_eqlT rfl rfl (by omega)) rfl ?_
  refine W.y (y_pick rfl rfl) rfl ?_
  refine W.y (y_move rfl) rfl ?_
  refine W.gy rfl rfl (y_move rfl) rfl ?_
  refine W.gy rfl rfl (y_len rfl Tryd.underlying23) rfl ?_
  refine W.gy rfl rfl (y_gtrT rfl rfl (by omega)) rfl ?_
  refine W.y (y_pick rfl rfl) rfl ?_
  refine W.y (y_assign rfl) rfl ?_
  refine W.fin ?_
  refine E.next ?_
  refine C.ret ?_
  exact E.ret1 rfl rfl ⟨rfl, hk3⟩
end Go.Proofs.YtlcbcedhbahbbaaDoor
