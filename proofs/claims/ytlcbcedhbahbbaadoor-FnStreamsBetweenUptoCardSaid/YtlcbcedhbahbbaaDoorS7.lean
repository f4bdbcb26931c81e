/-
  Walk: readAll (base32).
-/
import Derived.Test.YtlcbcedhbahbbaaDoorS5
import Derived.Test.YtlcbcedhbahbbaaDoorS6
namespace Go.Proofs.YtlcbcedhbahbbaaDoor
open Go.RowKit
theorem ent61 : Enters Tryd.prog 61 := enters_of Tryd.func61 (by kernel_rfl) rfl
theorem el23 : El Tryd.prog 23 2 8 := el_of Tryd.underlying23 (by kernel_rfl)
theorem methDec32 : Meth Tryd.prog 69 "Read" 61 := fun a w => by kernel_rfl

set_option maxRecDepth 4000 in
set_option maxHeartbeats 1000000 in
theorem readAll32_ret {w : World} {gd gc gf gg gr n c : Nat} {A : Option Addr} {te : TypeId} {cs : Array Value} {al : List UInt8} {pad : Int} {D : List UInt8} {zs : List Int} {ae : Addr} (hSt : St32 76 70 72 55 57 9 w gd gc gf gg gr al pad (D))
    (hEof : w.cell? ⟨0, 0, none⟩ = some (.iface 116 (.pointer (some ae)))) (hbc : Bk w gc cs te (0, 0)) (hec : EncC 32 cs al pad) (hf : Fit 32 al pad) (hp0 : 0 ≤ pad) (hd : ∀ gp, w.heap.size ≤ gp → Dst gp gd gc gf gg gr) (hl : gd < w.heap.size ∧ gc < w.heap.size ∧ gf < w.heap.size ∧ gg < w.heap.size ∧ gr < w.heap.size ∧ 0 < w.heap.size)
    (hz : Rd w A (iv zs)) (hzA : ∀ g o, A = some ⟨g, o, none⟩ → ¬ (g = gd ∨ g = gg ∨ g = gr)) (hn : zs.length = n) (hN : n ≤ 1000000000000) (hz0 : zs ≠ []) (hzz : ∀ z ∈ zs, 1 ≤ z ∧ z ≤ 65536) (hDl : D.length ≤ 1000000000) :
    Ret Tryd.prog 24 #[.iface 69 (.pointer (some ⟨gd, 0, none⟩)), .slice A n c] w fun v w' => (∃ vd vc ks, v = .tuple #[vd, vc, (.iface 116 (.pointer (some ae)))] ∧ Own w' 5 vd (bv D) ∧ Own w' 2 vc (iv ks) ∧ ks ≠ [] ∧ Cnt zs ks D.length ∧ ks.length ≤ D.length + 1) ∧ Kp (fun k => k = gd ∨ k = gg ∨ k = gr) w w' := by
  subst hn
  have hzp := List.length_pos_iff.2 hz0
  refine ret_of Tryd.func24 rfl Tryd.ntmps24 (Nat.le_of_ble_eq_true rfl) ?_
  refine C.seq ?_
  refine C.reg ?_
  refine W.y (y_assign rfl) rfl ?_
  refine W.y (y_assign rfl) rfl ?_
  refine W.y (y_assign rfl) rfl ?_
  refine W.fin ?_
  refine E.next ?_
  refine C.seq ?_
  refine C.reg ?_
  refine W.y (y_assign rfl) rfl ?_
  refine W.fin ?_
  refine E.next ?_
  refine C.seq ?_
  refine C.reg ?_
  refine W.y (y_assign rfl) rfl ?_
  refine W.fin ?_
  refine E.next ?_
  refine C.seq ?_
  refine C.seq ?_
  refine C.reg ?_
  refine W.y (y_assign rfl) rfl ?_
  refine W.y (y_assign rfl) rfl ?_
  refine W.fin ?_
  refine E.next ?_
  refine C.block ?_
  refine C.loop (σ := Value × Value × List Int × List UInt8 × List UInt8) (fun (vd, vc, ks, D1, D2) w' => D1 ++ D2 = D ∧ Own w' 5 vd (bv D1) ∧ Own w' 2 vc (iv ks) ∧ Cnt zs ks D1.length ∧ ks.length ≤ D1.length ∧ St32 76 70 72 55 57 9 w' gd gc gf gg gr al pad (D2) ∧ (∀ k, vd.ownBlock = some k → w.heap.size ≤ k) ∧ (∀ k, vc.ownBlock = some k → w.heap.size ≤ k ∧ vd.ownBlock ≠ some k) ∧ Kp (fun k => k = gd ∨ k = gg ∨ k = gr) w w') (fun (vd, vc, ks, _, _) => [(0, .iface 69 (.pointer (some ⟨gd, 0, none⟩))), (1, .slice A zs.length c), (7, vd), (8, vc), (9, .int .i64 (ks.length : Int)), (10, .int .i64 0)]) (fun (_, _, _, _, D2) => D2.length) (.slice none 0 0, .slice none 0 0, [], [], D) ?_ ?_ ?_
  · exact ⟨rfl, Own.nil w 5, Own.nil w 2, Cnt.nil _, Nat.le_refl _, hSt, (fun k e => by cases e), (fun k e => by cases e), Kp.refl _ _⟩
  · exact (Sub.cons rfl (Sub.cons rfl (Sub.cons rfl (Sub.cons rfl (Sub.cons rfl (Sub.cons rfl (Sub.nil _)))))))
  rintro ⟨vd, vc, ks, D1, D2⟩ wi ⟨hDD, hod, hoc, hcn, hkl, hsi, hvd, hvc, hki⟩
  show C _ _ _ _ [(0, .iface 69 (.pointer (some ⟨gd, 0, none⟩))), (1, .slice A zs.length c), (7, vd), (8, vc), (9, .int .i64 (ks.length : Int)), (10, .int .i64 0)] _
  have hsz := hki.size
  have hmod := Nat.mod_lt ks.length hzp
  obtain ⟨z, hzi⟩ : ∃ z, zs[ks.length % zs.length]? = some z := ⟨_, List.getElem?_eq_getElem hmod⟩
  have hz1 := hzz z (List.mem_of_getElem? hzi)
  obtain ⟨m, rfl⟩ : ∃ m : Nat, z = m := ⟨z.toNat, by omega⟩
  have hlD : D1.length + D2.length = D.length := by rw [← hDD, List.length_append]
  obtain ⟨gz, oz, rfl, _, hcz⟩ := (hz.kept hki (fun g o e => hzA g o e)).get (by intro e; have := congrArg List.length e; rw [iv_length] at this; simp at this; exact hz0 this)
  have hcell := hcz (ks.length % zs.length) (.int .i64 (m : Int)) (by simp [iv, hzi])
  obtain ⟨zz, _, hzzs, hmk⟩ := run_makeN (P := Tryd.prog) (w := wi) (t := 22) (N := m) (k := .i64) (k' := .i64) el22 (by omega) (by omega)
  have hP : Bk (wi.alloc (.cells (madeCells zz.cells m) 5)) wi.heap.size (madeCells zz.cells m) 5 (0, 0) := Bk.new _ _ _
  have hms := made_size (N := m) hzzs
  have hka : Kp (fun _ => False) wi (wi.alloc (.cells (madeCells zz.cells m) 5)) := (Kp.refl _ wi).alloc _
  have hK1 : Kp (fun k => k = gd ∨ k = gg ∨ k = gr) w (wi.alloc (.cells (madeCells zz.cells m) 5)) := hki.alloc _
  have hdi := hd wi.heap.size hsz
  have hn3 : ¬ (gc = gd ∨ gc = gg ∨ gc = gr) := by have a := hdi.dc; have b := hdi.cg; have c := hdi.cr; omega
  have hE1 := eof_kept hEof hK1 (by have a := hdi.d0; have b := hdi.g0; have c := hdi.r0; omega)
  refine C.seq ?_
  refine C.seq ?_
  refine C.reg ?_
  refine W.y (y_move rfl) rfl ?_
  refine W.y (y_len rfl Tryd.underlying23) rfl ?_
  refine W.y (y_gtrT rfl rfl (by omega)) rfl ?_
  refine W.y (y_move rfl) rfl ?_
  refine W.gy rfl rfl (y_move rfl) rfl ?_
  refine W.gy rfl rfl (y_lssT rfl rfl (by omega)) rfl ?_
  refine W.y (y_pick rfl rfl) rfl ?_
  refine W.fin ?_
  refine E.next ?_
  refine C.yes rfl ?_
  refine C.skip ?_
  refine E.next ?_
  refine C.seq ?_
  refine C.block ?_
  refine C.seq ?_
  refine C.reg ?_
  refine W.y (y_move rfl) rfl ?_
  refine W.y (y_move rfl) rfl ?_
  refine W.y (y_move rfl) rfl ?_
  refine W.y (y_len rfl Tryd.underlying23) rfl ?_
  refine W.y (Does.as (y_rem rfl rfl (by omega) (by omega)) (vint (b := ((ks.length % zs.length : Nat) : Int)) (by omega))) rfl ?_
  refine W.y (y_ixn rfl rfl Tryd.underlying23 siz2 (by omega)) rfl ?_
  refine W.y (y_load rfl pl2 hcell) rfl ?_
  refine W.y (y_make rfl rfl hmk) rfl ?_
  refine W.y (y_assign rfl) rfl ?_
  refine W.fin ?_
  refine E.next ?_
  refine C.seq ?_
  refine C.reg ?_
  refine W.y (y_move rfl) rfl ?_
  refine W.y (y_move rfl) rfl ?_
  refine W.inv ent61 methDec32 rfl rfl (read32_ret (hsi.kept hka id id id id) hE1 (hbc.kept hK1 hn3) hec hf hp0 hdi hP hms (by omega) (by omega)) rfl ?_
  rintro x2 w2 ⟨hk2, hres⟩
  have hsz2 := hk2.size
  simp only [World.size_alloc] at hsz2
  obtain ⟨n2, e2, rfl, he2, hn2m, hn2D, hr2, hs2⟩ : ∃ (n2 : Nat) (e2 : Value), x2 = Value.tuple #[.int .i64 (n2 : Int), e2] ∧ (e2 = bif D2.isEmpty then ((.iface 116 (.pointer (some ae))) : Value) else Value.nilIface) ∧ n2 ≤ m ∧ n2 ≤ D2.length ∧ Rd w2 (some ⟨wi.heap.size, 0, none⟩) (bv (D2.take n2)) ∧ (D2 ≠ [] → 1 ≤ n2 ∧ St32 76 70 72 55 57 9 w2 gd gc gf gg gr al pad (D2.drop n2)) := by
    rcases hres with ⟨rfl, rfl⟩ | ⟨n2, a, b, c, rfl, ⟨p2, hb2, _, hh2⟩, hs⟩
    · exact ⟨0, _, rfl, rfl, by omega, Nat.le_refl _, .inl rfl, fun h => absurd rfl h⟩
    · refine ⟨n2, _, rfl, ?_, b, c, hh2.rd hb2, fun _ => ⟨a, hs⟩⟩
      cases D2 with
      | nil => simp at c; omega
      | cons x r => rfl
  have hK2 : Kp (fun k => k = gd ∨ k = gg ∨ k = gr) w w2 := hK1.trans' (hk2.mono (S' := fun k => k = gd ∨ k = gg ∨ k = gr ∨ wi.heap.size ≤ k) fun k _ e => by omega) (fun k hk e => by omega)
  have hod2 := (hod.kept hka (fun _ _ => id)).kept hk2 (fun k e => by have a := hvd k e; have b := hod.lt e; omega)
  have hoc2 := (hoc.kept hka (fun _ _ => id)).kept hk2 (fun k e => by have a := (hvc k e).1; have b := hoc.lt e; omega)
  have hl2 : (D2.take n2).length = n2 := by rw [List.length_take]; omega
  obtain ⟨v1, x1, hr1, ho1, hg1, ha1⟩ := run_app (P := Tryd.prog) (w := w2) (ty := 22) (c := m) el22 hod2 hr2 (one_u8 (D2.take n2)) (by simp only [bv_length]; omega) (by omega)
  rw [bv_length, hl2] at hr1
  rw [← bv_append] at ho1
  have hx1 := hg1.size
  have hk3 : Kp (fun k => vd.ownBlock = some k) w2 x1 := grown_kp hg1 (fun k e => .inl e)
  have hoc3 := hoc2.kept hk3 (fun k e => (hvc k e).2)
  obtain ⟨v3, x3, hr3, ho3, hg3, ha3⟩ := run_app (P := Tryd.prog) (w := (x1.alloc (.cells #[.int .i64 (n2 : Int)] 2))) (ty := 23) (c := 1) (r := [.int .i64 (n2 : Int)]) el23 (hoc3.kept ((Kp.refl (fun _ => False) x1).alloc _) (fun _ _ => id)) (Rd.one x1 2 _) (by intro u hu; rw [List.mem_singleton.1 hu]; rfl) (by rw [iv_length, List.length_singleton]; omega) (by omega)
  have ho3' : Own x3 2 v3 (iv (ks ++ [(n2 : Int)])) := by rw [iv_append]; exact ho3
  have hk4 : Kp (fun k => vc.ownBlock = some k) (x1.alloc (.cells #[.int .i64 (n2 : Int)] 2)) x3 := grown_kp hg3 (fun k e => .inl e)
  have hx3 := hg3.size
  simp only [World.size_alloc] at hx3
  have hv1 : ∀ k, v1.ownBlock = some k → w.heap.size ≤ k ∧ k < x1.heap.size := fun k e => by
    refine ⟨?_, ho1.lt e⟩
    rcases ha1 with e1 | e1
    · exact hvd k (by rw [← e1, e])
    · rw [e1] at e; injection e with e; omega
  have hne : ∀ k, v1.ownBlock = some k → vc.ownBlock ≠ some k := fun k e q => by
    have a := hvc k q
    have b := hoc2.lt q
    rcases ha1 with e1 | e1
    · exact a.2 (by rw [← e1, e])
    · rw [e1] at e; injection e with e; omega
  have ho1' := (ho1.kept ((Kp.refl (fun _ => False) x1).alloc (.cells #[.int .i64 (n2 : Int)] 2)) (fun _ _ => id)).kept hk4 hne
  have hK3 : Kp (fun k => k = gd ∨ k = gg ∨ k = gr) w x3 := ((hK2.grown hg1 (fun k e => .inr (hvd k e))).alloc _).grown hg3 (fun k e => .inr (hvc k e).1)
  have hcn2 := hcn.more hzi (by omega : (n2 : Int) ≤ (m : Int))
  refine W.y (y_move rfl) rfl ?_
  refine W.y (y_ext rfl rfl) rfl ?_
  refine W.y (y_ext rfl rfl) rfl ?_
  refine W.y (y_assign rfl) rfl ?_
  refine W.y (y_assign rfl) rfl ?_
  refine W.fin ?_
  refine E.next ?_
  refine C.seq ?_
  refine C.reg ?_
  refine W.y (y_move rfl) rfl ?_
  refine W.y (y_move rfl) rfl ?_
  refine W.y (y_move rfl) rfl ?_
  refine W.y (y_cuth rfl rfl Tryd.underlying22 siz5 (by omega)) rfl ?_
  refine W.y (y_app rfl rfl hr1) rfl ?_
  refine W.y (y_assign rfl) rfl ?_
  refine W.fin ?_
  refine E.next ?_
  refine C.seq ?_
  refine C.reg ?_
  refine W.y (y_move rfl) rfl ?_
  refine W.y (y_move rfl) rfl ?_
  refine W.y (y_bs1 (v := .int .i64 (n2 : Int)) el23 rfl rfl) rfl ?_
  refine W.y (y_app rfl rfl hr3) rfl ?_
  refine W.y (y_assign rfl) rfl ?_
  refine W.fin ?_
  refine E.next ?_
  refine C.seq ?_
  refine C.seq ?_
  by_cases hD0 : D2 = []
  · subst hD0
    obtain rfl : n2 = 0 := by simp at hn2D; omega
    obtain rfl : e2 = ((.iface 116 (.pointer (some ae))) : Value) := he2
    have hDe : D1 = D := by rw [← hDD, List.append_nil]
    refine C.reg ?_
    refine W.y (y_move rfl) rfl ?_
    refine W.y (y_neifN rfl Tryd.underlying47) rfl ?_
    refine W.fin ?_
    refine E.next ?_
    refine C.yes rfl ?_
    refine C.seq ?_
    refine C.reg ?_
    refine W.y (y_move rfl) rfl ?_
    refine W.y (y_move rfl) rfl ?_
    refine W.y (y_move rfl) rfl ?_
    refine W.y (y_assign rfl) rfl ?_
    refine W.y (y_assign rfl) rfl ?_
    refine W.y (y_assign rfl) rfl ?_
    refine W.fin ?_
    refine E.next ?_
    refine C.ret ?_
    refine E.thenRet ?_
    refine E.blockRet ?_
    refine E.thenRet ?_
    refine E.thenRet ?_
    refine E.blockRet ?_
    refine E.thenRet ?_
    exact E.ret3 rfl rfl rfl rfl ⟨⟨_, _, _, rfl, by rw [← hDe]; simpa using ho1', ho3', by simp, by rw [← hDe]; simpa using hcn2, by rw [List.length_append, List.length_singleton, ← hDe]; omega⟩, hK3⟩
  obtain ⟨hn21, hs2⟩ := hs2 hD0
  obtain rfl : e2 = Value.nilIface := by
    rw [he2]
    cases D2 with
    | nil => exact absurd rfl hD0
    | cons x r => rfl
  have hs3 : St32 76 70 72 55 57 9 x3 gd gc gf gg gr al pad (D2.drop n2) := ((hs2.kept hk3 (fun e => by have := hvd _ e; omega) (fun e => by have := hvd _ e; omega) (fun e => by have := hvd _ e; omega) (fun e => by have := hvd _ e; omega)).kept ((Kp.refl (fun _ => False) x1).alloc _) id id id id).kept hk4 (fun e => by have := (hvc _ e).1; omega) (fun e => by have := (hvc _ e).1; omega) (fun e => by have := (hvc _ e).1; omega) (fun e => by have := (hvc _ e).1; omega)
  refine C.reg ?_
  refine W.y (y_move rfl) rfl ?_
  refine W.y (y_nenil rfl eqNil47) rfl ?_
  refine W.fin ?_
  refine E.next ?_
  refine C.no rfl ?_
  refine C.skip ?_
  refine E.next ?_
  refine C.seq ?_
  refine C.reg ?_
  refine W.y (y_move rfl) rfl ?_
  refine W.y (y_eqlF rfl rfl (by omega)) rfl ?_
  refine W.fin ?_
  refine E.next ?_
  refine C.no rfl ?_
  refine C.skip ?_
  refine E.blockNormal ?_
  refine E.next ?_
  refine C.reg ?_
  refine W.y (y_move rfl) rfl ?_
  refine W.y (Does.as (y_add rfl rfl (wi64 (by omega) (by omega))) (vint (b := ((ks.length + 1 : Nat) : Int)) (by omega))) rfl ?_
  refine W.y (y_assign rfl) rfl ?_
  refine W.fin ?_
  exact E.again (v1, v3, ks ++ [(n2 : Int)], D1 ++ D2.take n2, D2.drop n2) ⟨by rw [List.append_assoc, List.take_append_drop]; exact hDD, ho1', ho3', by rw [List.length_append, hl2]; exact hcn2, by rw [List.length_append, List.length_append, List.length_singleton, hl2]; omega, hs3, (fun k e => (hv1 k e).1), (fun k e => by
    have hb := ho3.lt e
    rcases ha3 with e1 | e1
    · exact ⟨(hvc k (by rw [← e1, e])).1, fun q => hne k q (by rw [← e1, e])⟩
    · rw [e1] at e
      injection e with e
      simp only [World.size_alloc] at e
      exact ⟨by omega, fun q => by have := (hv1 k q).2; omega⟩), hK3⟩ (Sub.cons rfl (Sub.cons rfl (Sub.cons rfl (Sub.cons rfl (Sub.cons (by rw [List.length_append]; rfl) (Sub.cons rfl (Sub.nil _))))))) (by show (D2.drop n2).length < D2.length; rw [List.length_drop]; omega)
end Go.Proofs.YtlcbcedhbahbbaaDoor
