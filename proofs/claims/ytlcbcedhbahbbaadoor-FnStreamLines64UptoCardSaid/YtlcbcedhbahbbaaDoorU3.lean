/-
  Walk: FnStreamLines64.
-/
import Derived.Test.YtlcbcedhbahbbaaDoorSB
import Derived.Test.YtlcbcedhbahbbaaDoorStr3
import Derived.Test.YtlcbcedhbahbbaaDoorOne
import Derived.Test.YtlcbcedhbahbbaaDoorD64
namespace Go.Proofs.YtlcbcedhbahbbaaDoor
open Go.RowKit
theorem ent19 : Enters Tryd.prog 19 := enters_of Tryd.func19 (by kernel_rfl) rfl

set_option maxRecDepth 4000 in
theorem fnStreamLines64_ret {w : World} {A A2 A3 : Option Addr} {c n c2 n2 c3 n3 : Nat} {al : List UInt8} {pad : Int} {st : Bool} {a : List UInt8} {ys zs : List Int} {ae : Addr} {zw : Int} (hal : al.length ≤ 1048576) (hA : Rd w A (bv a)) (hn : a.length = n) (hN : n ≤ 1048576) (hy : Rd w A2 (iv ys)) (hny : ys.length = n2) (hNy : n2 ≤ 1048576) (hz : Rd w A3 (iv zs)) (hnz : zs.length = n3) (hNz : n3 ≤ 1048576) (hEof : w.cell? ⟨0, 0, none⟩ = some (.iface 116 (.pointer (some ae)))) :
    Ret Tryd.prog 7 #[str al, .int .i64 pad, .bool st, .slice A n c, .int .i64 zw, .slice A2 n2 c2, .slice A3 n3 c3] w fun v w' => v = .bool true ∧ Kp (fun _ => False) w w' := by
  subst hn hny hnz
  by_cases hw1 : zw < 1
  · refine ret_of Tryd.func7 rfl Tryd.ntmps7 (Nat.le_of_ble_eq_true rfl) ?_
    refine C.seq ?_
    refine C.reg ?_
    refine W.y (y_assign rfl) rfl ?_
    refine W.fin ?_
    refine E.next ?_
    refine C.seq ?_
    refine C.seq ?_
    refine C.reg ?_
    refine W.y (y_move rfl) rfl ?_
    refine W.y (y_move rfl) rfl ?_
    refine W.call ent18 rfl (fit_ret (N := 64) (by omega)) rfl ?_
    rintro _ _ ⟨rfl, ⟨rfl, hf⟩ | rfl⟩
    rotate_left
    · skip
      refine W.y (y_not rfl) rfl ?_
      refine W.y (y_move rfl) rfl ?_
      refine W.gn rfl rfl rfl ?_
      refine W.gn rfl rfl rfl ?_
      refine W.gn rfl rfl rfl ?_
      refine W.y (y_pick rfl rfl) rfl ?_
      refine W.y (y_move rfl) rfl ?_
      refine W.gn rfl rfl rfl ?_
      refine W.gn rfl rfl rfl ?_
      refine W.y (y_pick rfl rfl) rfl ?_
      refine W.fin ?_
      refine E.next ?_
      refine C.yes rfl ?_
      refine C.seq ?_
      refine C.reg ?_
      refine W.y (y_assign rfl) rfl ?_
      refine W.fin ?_
      refine E.next ?_
      refine C.ret ?_
      refine E.thenRet ?_
      exact E.ret1 rfl rfl ⟨rfl, Kp.refl _ _⟩
    refine W.y (y_not rfl) rfl ?_
    refine W.y (y_move rfl) rfl ?_
    refine W.gy rfl rfl (y_move rfl) rfl ?_
    refine W.gCall rfl rfl ent13 rfl (sized_ret hz rfl (by omega)) rfl ?_
    rintro _ _ ⟨rfl, ⟨rfl, hz0, hzz⟩ | rfl⟩
    rotate_left
    · skip
      refine W.gy rfl rfl (y_not rfl) rfl ?_
      refine W.y (y_pick rfl rfl) rfl ?_
      refine W.y (y_move rfl) rfl ?_
      refine W.gn rfl rfl rfl ?_
      refine W.gn rfl rfl rfl ?_
      refine W.y (y_pick rfl rfl) rfl ?_
      refine W.fin ?_
      refine E.next ?_
      refine C.yes rfl ?_
      refine C.seq ?_
      refine C.reg ?_
      refine W.y (y_assign rfl) rfl ?_
      refine W.fin ?_
      refine E.next ?_
      refine C.ret ?_
      refine E.thenRet ?_
      exact E.ret1 rfl rfl ⟨rfl, Kp.refl _ _⟩
    refine W.gy rfl rfl (y_not rfl) rfl ?_
    refine W.y (y_pick rfl rfl) rfl ?_
    refine W.y (y_move rfl) rfl ?_
    refine W.gy rfl rfl (y_move rfl) rfl ?_
    refine W.gy rfl rfl (y_lssT rfl rfl (by omega)) rfl ?_
    refine W.y (y_pick rfl rfl) rfl ?_
    refine W.fin ?_
    refine E.next ?_
    refine C.yes rfl ?_
    refine C.seq ?_
    refine C.reg ?_
    refine W.y (y_assign rfl) rfl ?_
    refine W.fin ?_
    refine E.next ?_
    refine C.ret ?_
    refine E.thenRet ?_
    exact E.ret1 rfl rfl ⟨rfl, Kp.refl _ _⟩
  have htl0 := (text_bounds64 (al := al) (s := a) (pad := pad)).2
  have hun := Pl.unpack_nums (bits := 6) (by omega) (by omega) a
  obtain ⟨T, hT⟩ : ∃ T, T = Pl.text 6 4 al pad a := ⟨_, rfl⟩
  rw [← hT] at htl0
  refine ret_of Tryd.func7 rfl Tryd.ntmps7 (Nat.le_of_ble_eq_true rfl) ?_
  refine C.seq ?_
  refine C.reg ?_
  refine W.y (y_assign rfl) rfl ?_
  refine W.fin ?_
  refine E.next ?_
  refine C.seq ?_
  refine C.seq ?_
  refine C.reg ?_
  refine W.y (y_move rfl) rfl ?_
  refine W.y (y_move rfl) rfl ?_
  refine W.call ent18 rfl (fit_ret (N := 64) (by omega)) rfl ?_
  rintro _ _ ⟨rfl, ⟨rfl, hf⟩ | rfl⟩
  rotate_left
  · skip
    refine W.y (y_not rfl) rfl ?_
    refine W.y (y_move rfl) rfl ?_
    refine W.gn rfl rfl rfl ?_
    refine W.gn rfl rfl rfl ?_
    refine W.gn rfl rfl rfl ?_
    refine W.y (y_pick rfl rfl) rfl ?_
    refine W.y (y_move rfl) rfl ?_
    refine W.gn rfl rfl rfl ?_
    refine W.gn rfl rfl rfl ?_
    refine W.y (y_pick rfl rfl) rfl ?_
    refine W.fin ?_
    refine E.next ?_
    refine C.yes rfl ?_
    refine C.seq ?_
    refine C.reg ?_
    refine W.y (y_assign rfl) rfl ?_
    refine W.fin ?_
    refine E.next ?_
    refine C.ret ?_
    refine E.thenRet ?_
    exact E.ret1 rfl rfl ⟨rfl, Kp.refl _ _⟩
  refine W.y (y_not rfl) rfl ?_
  refine W.y (y_move rfl) rfl ?_
  refine W.gy rfl rfl (y_move rfl) rfl ?_
  refine W.gCall rfl rfl ent13 rfl (sized_ret hz rfl (by omega)) rfl ?_
  rintro _ _ ⟨rfl, ⟨rfl, hz0, hzz⟩ | rfl⟩
  rotate_left
  · skip
    refine W.gy rfl rfl (y_not rfl) rfl ?_
    refine W.y (y_pick rfl rfl) rfl ?_
    refine W.y (y_move rfl) rfl ?_
    refine W.gn rfl rfl rfl ?_
    refine W.gn rfl rfl rfl ?_
    refine W.y (y_pick rfl rfl) rfl ?_
    refine W.fin ?_
    refine E.next ?_
    refine C.yes rfl ?_
    refine C.seq ?_
    refine C.reg ?_
    refine W.y (y_assign rfl) rfl ?_
    refine W.fin ?_
    refine E.next ?_
    refine C.ret ?_
    refine E.thenRet ?_
    exact E.ret1 rfl rfl ⟨rfl, Kp.refl _ _⟩
  refine W.gy rfl rfl (y_not rfl) rfl ?_
  refine W.y (y_pick rfl rfl) rfl ?_
  refine W.y (y_move rfl) rfl ?_
  refine W.gy rfl rfl (y_move rfl) rfl ?_
  refine W.gy rfl rfl (y_lssF rfl rfl (by omega)) rfl ?_
  refine W.y (y_pick rfl rfl) rfl ?_
  refine W.fin ?_
  refine E.next ?_
  refine C.no rfl ?_
  refine C.skip ?_
  refine E.next ?_
  refine C.seq ?_
  refine C.reg ?_
  refine W.y (y_move rfl) rfl ?_
  refine W.y (y_move rfl) rfl ?_
  refine W.y (y_move rfl) rfl ?_
  refine W.call ent16 rfl (text64_ret hA rfl (by omega) hf.len hf.lo hf.hi) rfl ?_
  rintro _ w1 ⟨rfl, hw1'⟩
  rw [← hT]
  have hTn : ∀ x ∈ T, x.toNat ≠ 10 ∧ x.toNat ≠ 13 := by rw [hT, text_form]; exact vs_nonl hf (Pl.nums_lt (bits := 6))
  refine W.y (y_assign rfl) rfl ?_
  refine W.fin ?_
  refine E.next ?_
  refine C.seq ?_
  refine C.reg ?_
  refine W.y (y_assign rfl) rfl ?_
  refine W.fin ?_
  refine E.next ?_
  refine C.seq ?_
  refine C.block ?_
  refine C.loop (σ := List UInt8 × List UInt8) (fun (t, l) w' => w1 = w' ∧ strip l ++ t = T ∧ l.length + 3 * t.length ≤ 3 * T.length) (fun (t, l) => [(0, str al), (1, .int .i64 pad), (2, .bool st), (3, .slice A a.length c), (4, .int .i64 zw), (5, .slice A2 ys.length c2), (6, .slice A3 zs.length c3), (15, str t), (16, str l)]) (fun (t, _) => t.length) (T, []) ?_ ?_ ?_
  · exact ⟨rfl, rfl, by simp⟩
  · exact (Sub.cons rfl (Sub.cons rfl (Sub.cons rfl (Sub.cons rfl (Sub.cons rfl (Sub.cons rfl (Sub.cons rfl (Sub.cons rfl (Sub.cons rfl (Sub.nil _))))))))))
  rintro ⟨t, l⟩ _ ⟨rfl, hst, hll⟩
  show C _ _ _ _ [(0, str al), (1, .int .i64 pad), (2, .bool st), (3, .slice A a.length c), (4, .int .i64 zw), (5, .slice A2 ys.length c2), (6, .slice A3 zs.length c3), (15, str t), (16, str l)] _
  have htt : t.length ≤ T.length := by rw [← hst, List.length_append]; omega
  by_cases h : zw < (t.length : Int)
  · obtain ⟨k, rfl⟩ : ∃ k : Nat, zw = k := ⟨zw.toNat, by omega⟩
    have htk : (t.take k).length = k := by rw [List.length_take]; omega
    have htn : strip (t.take k) = t.take k := strip_all (fun x hx => hTn x (by rw [← hst]; exact List.mem_append_right _ (List.mem_of_mem_take hx)))
    refine C.seq ?_
    refine C.seq ?_
    refine C.reg ?_
    refine W.y (y_move rfl) rfl ?_
    refine W.y (y_len' rfl Tryd.underlying9) rfl ?_
    refine W.y (y_move rfl) rfl ?_
    refine W.y (y_gtrT rfl rfl (by omega)) rfl ?_
    refine W.fin ?_
    refine E.next ?_
    refine C.yes rfl ?_
    refine C.skip ?_
    refine E.next ?_
    refine C.block ?_
    refine C.seq ?_
    refine C.reg ?_
    refine W.y (y_move rfl) rfl ?_
    refine W.y (y_move rfl) rfl ?_
    refine W.y (y_move rfl) rfl ?_
    refine W.y (y_scuth' rfl rfl Tryd.underlying9 (by omega)) rfl ?_
    refine W.y (y_cat (b := [13, 10]) rfl rfl (by simp only [List.length_cons, List.length_nil]; omega)) rfl ?_
    refine W.y (y_cat rfl rfl (by simp only [List.length_append, List.length_cons, List.length_nil]; omega)) rfl ?_
    refine W.y (y_assign rfl) rfl ?_
    refine W.fin ?_
    refine E.next ?_
    refine C.reg ?_
    refine W.y (y_move rfl) rfl ?_
    refine W.y (y_move rfl) rfl ?_
    refine W.y (y_scutl' rfl rfl Tryd.underlying9 (by omega)) rfl ?_
    refine W.y (y_assign rfl) rfl ?_
    refine W.fin ?_
    refine E.blockNormal ?_
    exact E.again (t.drop k, l ++ (t.take k ++ [13, 10])) ⟨rfl, by rw [strip_append, strip_append, htn, nonl_lines.1, List.append_nil, List.append_assoc, List.take_append_drop]; exact hst, by simp only [List.length_append, List.length_cons, List.length_nil, List.length_drop, htk]; omega⟩ (Sub.cons rfl (Sub.cons rfl (Sub.cons rfl (Sub.cons rfl (Sub.cons rfl (Sub.cons rfl (Sub.cons rfl (Sub.cons rfl (Sub.cons rfl (Sub.nil _)))))))))) (by show (t.drop k).length < t.length; rw [List.length_drop]; omega)
  have htn : strip t = t := strip_all (fun x hx => hTn x (by rw [← hst]; exact List.mem_append_right _ hx))
  have hfin : strip (l ++ t ++ [10]) = T := by rw [strip_append, strip_append, htn, nonl_lines.2, List.append_nil]; exact hst
  obtain ⟨q, hq⟩ : ∃ q, q = l ++ t ++ [10] := ⟨_, rfl⟩
  have hql : q.length = l.length + t.length + 1 := by rw [hq]; simp only [List.length_append, List.length_cons, List.length_nil]
  rw [← hq] at hfin
  refine C.seq ?_
  refine C.seq ?_
  refine C.reg ?_
  refine W.y (y_move rfl) rfl ?_
  refine W.y (y_len' rfl Tryd.underlying9) rfl ?_
  refine W.y (y_move rfl) rfl ?_
  refine W.y (y_gtrF rfl rfl (by omega)) rfl ?_
  refine W.fin ?_
  refine E.next ?_
  refine C.no rfl ?_
  refine C.exit ?_
  refine E.thenExit ?_
  refine E.thenExit ?_
  refine E.blockOut ?_
  refine E.next ?_
  refine C.seq ?_
  refine C.reg ?_
  refine W.y (y_move rfl) rfl ?_
  refine W.y (y_move rfl) rfl ?_
  refine W.y (y_move rfl) rfl ?_
  refine W.y (y_move rfl) rfl ?_
  refine W.y (y_move rfl) rfl ?_
  refine W.y (y_cat rfl rfl (by omega)) rfl ?_
  refine W.y (Does.as (y_cat (b := [10]) rfl rfl (by simp only [List.length_append, List.length_cons, List.length_nil]; omega)) (congrArg str hq.symm)) rfl ?_
  refine W.y (y_move rfl) rfl ?_
  refine W.call ent15 rfl (cutText_ret (hy.kept hw1' (fun _ _ _ => id)) rfl (by omega) (by omega)) rfl ?_
  rintro _ w2 ⟨⟨ts, ht0, htf, htl, how⟩, _, hw2⟩
  obtain ⟨AT, cT, rfl, hrT, _, _⟩ := how.slice
  have hmT : (ts.map str).length = ts.length := List.length_map _
  rw [hmT]
  have hk2 := hw1'.trans hw2
  refine W.y (y_move rfl) rfl ?_
  refine W.call ent19 rfl (decodeStream64_ret (vs := Pl.nums 6 a) hf (fun _ => ⟨_, rfl⟩) (eof_kept hEof hk2 id) hrT rfl ht0 (by omega) (by rw [htf]; omega) (by rw [htf, hfin, hT]; exact text_form) (Pl.nums_lt (bits := 6)) ⟨_, Pl.nums_length _ _⟩ (hz.kept hk2 (fun _ _ _ => id)) rfl (by omega) hz0 hzz) rfl ?_
  rintro _ w3 ⟨⟨vd, vc, ks, rfl, hod, hoc, hk0, hcn, hkl⟩, hw3⟩
  rw [hun] at hod hcn hkl
  obtain ⟨AD, cD, rfl, hrD, _, _⟩ := hod.slice
  obtain ⟨AC, cC, rfl, hrC, _, _⟩ := hoc.slice
  rw [bv_length, iv_length]
  have hkp := List.length_pos_iff.2 hk0
  have hk3 := hk2.trans hw3
  refine W.y (y_move rfl) rfl ?_
  refine W.y (y_ext rfl rfl) rfl ?_
  refine W.y (y_ext rfl rfl) rfl ?_
  refine W.y (y_ext rfl rfl) rfl ?_
  refine W.y (y_assign rfl) rfl ?_
  refine W.y (y_assign rfl) rfl ?_
  refine W.y (y_assign rfl) rfl ?_
  refine W.fin ?_
  refine E.next ?_
  refine C.seq ?_
  refine C.reg ?_
  refine W.y (y_move rfl) rfl ?_
  refine W.y (y_move rfl) rfl ?_
  refine W.call ent17 rfl (same_ret hrD rfl (hA.kept hk3 (fun _ _ _ => id)) rfl) rfl ?_
  rintro _ _ ⟨rfl, rfl⟩
  refine W.y (y_move rfl) rfl ?_
  refine W.gy rfl rfl (y_move rfl) rfl ?_
  refine W.gy rfl rfl (y_eqlT rfl rfl (by omega)) rfl ?_
  refine W.y (y_pick rfl rfl) rfl ?_
  refine W.y (y_assign rfl) rfl ?_
  refine W.fin ?_
  refine E.next ?_
  refine C.ret ?_
  exact E.ret1 rfl rfl ⟨rfl, hk3⟩
end Go.Proofs.YtlcbcedhbahbbaaDoor
