/-
  Walk: readEncodedData.
-/
import Derived.Test.YtlcbcedhbahbbaaDoorS2
namespace Go.Proofs.YtlcbcedhbahbbaaDoor
open Go.RowKit
theorem ent65 : Enters Tryd.prog 65 := enters_of Tryd.func65 (by kernel_rfl) rfl
theorem methFil32 : Meth Tryd.prog 70 "Read" 65 := fun a w => by kernel_rfl
theorem nilFil32 : NilA Tryd.prog 70 "Read" := fun a w => by kernel_rfl

set_option maxRecDepth 4000 in
theorem red32_ret {w : World} {gf gg gr gp off m c mn : Nat} {R : List UInt8} {ds : Array Value} {td : TypeId} {fd : Nat × Nat} {ae : Addr} (hS : Src 72 55 57 9 w gf gg gr (R)) (hEof : w.cell? ⟨0, 0, none⟩ = some (.iface 116 (.pointer (some ae)))) (hD : Bk w gp ds td fd) (h1 : gg ≠ gr) (h2 : gp ≠ gg) (h3 : gp ≠ gr) (h4 : gp ≠ gf) (h5 : gf ≠ gg) (h6 : gf ≠ gr) (h0 : gg ≠ 0 ∧ gr ≠ 0 ∧ gp ≠ 0) (hmn : 1 ≤ mn) (hmm : mn ≤ m) (hmc : m ≤ c) (ho : off + m ≤ ds.size) (hfd : off + m ≤ fd.1 ∨ fd.2 ≤ off) (hM : m ≤ 1000000000000) (hR : mn ≤ R.length) :
    Ret Tryd.prog 62 #[.iface 70 (.pointer (some ⟨gf, 0, none⟩)), .slice (some ⟨gp, off, none⟩) m c, .int .i64 (mn : Int), .bool true] w fun v w' => Kp (fun k => k = gg ∨ k = gr ∨ k = gp) w w' ∧
      ∃ k : Nat, mn ≤ k ∧ k ≤ m ∧ k ≤ R.length ∧ v = .tuple #[.int .i64 (k : Int), .nilIface] ∧ (∃ ds', Bk w' gp ds' td fd ∧ ds'.size = ds.size ∧ Outs ds ds' off m ∧ Hd ds' off (R.take k)) ∧ Src 72 55 57 9 w' gf gg gr (R.drop k) := by
  refine ret_of Tryd.func62 rfl Tryd.ntmps62 (Nat.le_of_ble_eq_true rfl) ?_
  refine C.seq ?_
  refine C.reg ?_
  refine W.y (y_assign rfl) rfl ?_
  refine W.y (y_assign rfl) rfl ?_
  refine W.fin ?_
  refine E.next ?_
  refine C.seq ?_
  refine C.block ?_
  refine C.loop (σ := Nat × Array Value) (fun (n, di) w' => Kp (fun k => k = gg ∨ k = gr ∨ k = gp) w w' ∧ n ≤ m ∧ n ≤ R.length ∧ Bk w' gp di td fd ∧ di.size = ds.size ∧ Outs ds di off m ∧ Hd di off (R.take n) ∧ Src 72 55 57 9 w' gf gg gr (R.drop n)) (fun (n, _) => [(0, .iface 70 (.pointer (some ⟨gf, 0, none⟩))), (1, .slice (some ⟨gp, off, none⟩) m c), (2, .int .i64 (mn : Int)), (3, .bool true), (8, .int .i64 (n : Int)), (9, .nilIface)]) (fun (n, _) => mn - n) (0, ds) ?_ ?_ ?_
  · exact ⟨Kp.refl _ _, by omega, by omega, hD, rfl, Outs.refl _ _ _, Hd.nil _ _, hS⟩
  · exact (Sub.cons rfl (Sub.cons rfl (Sub.cons rfl (Sub.cons rfl (Sub.cons rfl (Sub.cons rfl (Sub.nil _)))))))
  rintro ⟨n, di⟩ wi ⟨hki, hnm, hnR, hbi, hzi, hoi, hhi, hsi⟩
  show C _ _ _ _ [(0, .iface 70 (.pointer (some ⟨gf, 0, none⟩))), (1, .slice (some ⟨gp, off, none⟩) m c), (2, .int .i64 (mn : Int)), (3, .bool true), (8, .int .i64 (n : Int)), (9, .nilIface)] _
  by_cases h : n < mn
  · have hEq : wi.drew.cell? ⟨0, 0, none⟩ = some (.iface 116 (.pointer (some ae))) := by rw [← hEof]; exact World.cell?_of_block (hki.block 0 (World.block_lt_of_cell? w _ hEof) (by omega))
    refine C.seq ?_
    refine C.seq ?_
    refine C.reg ?_
    refine W.y (y_move rfl) rfl ?_
    refine W.y (y_move rfl) rfl ?_
    refine W.y (y_lssT rfl rfl (by omega)) rfl ?_
    refine W.y (y_move rfl) rfl ?_
    refine W.gy rfl rfl (y_move rfl) rfl ?_
    refine W.gy rfl rfl (y_eqnil rfl eqNil47) rfl ?_
    refine W.y (y_pick rfl rfl) rfl ?_
    refine W.fin ?_
    refine E.next ?_
    refine C.yes rfl ?_
    refine C.skip ?_
    refine E.next ?_
    refine C.block ?_
    refine C.seq ?_
    refine C.reg ?_
    refine W.y (y_assign rfl) rfl ?_
    refine W.fin ?_
    refine E.next ?_
    refine C.seq ?_
    refine C.any mixed ?_
    refine AN.take 0 rfl (by kernel_rfl) (by kernel_rfl) (by kernel_rfl) (fun _ => y_move rfl) rfl ?_
    refine AN.take 1 rfl (by kernel_rfl) (by kernel_rfl) (by kernel_rfl) (fun _ => y_move rfl) rfl ?_
    refine AN.take 2 rfl (by kernel_rfl) (by kernel_rfl) (by kernel_rfl) (fun _ => y_move rfl) rfl ?_
    refine AN.take 3 rfl (by kernel_rfl) (by kernel_rfl) (by kernel_rfl) (fun _ => y_cutl rfl rfl Tryd.underlying22 siz5 (by omega)) rfl ?_
    rw [cut_addr (j := off + n) rfl (by omega)]
    refine AN.take 4 rfl (by kernel_rfl) (by kernel_rfl) (by kernel_rfl) (fun _ => y_mkf rfl) rfl ?_
    refine AN.take 5 rfl (by kernel_rfl) (by kernel_rfl) (by kernel_rfl) (fun _ => y_nilm rfl nilFil32) rfl ?_
    refine AN.take 6 rfl (by kernel_rfl) (by kernel_rfl) (by kernel_rfl) (fun _ => y_move rfl) rfl ?_
    refine AN.oneInv 7 rfl (by kernel_rfl) ent65 methFil32 rfl rfl (filter32_ret hsi hEq hbi.drew h1 h2 h3 h4 h5 h6 h0 (by omega) (by omega) (by omega) (by omega) (by omega)) rfl ?_
    rintro x1 w1 ⟨hk1, hres⟩
    obtain ⟨k, hk1', hk2', hk3', rfl, ⟨d1, hb1, hz1, ho1, hh1⟩, hs1⟩ := hres.resolve_left (fun e => by
      have := congrArg List.length e.1
      rw [List.length_drop] at this
      simp only [List.length_nil] at this
      omega)
    rw [List.length_drop] at hk3'
    rw [List.drop_drop] at hs1
    refine AN.take 8 rfl (by kernel_rfl) (by kernel_rfl) (by kernel_rfl) (fun _ => y_move rfl) rfl ?_
    refine AN.take 9 rfl (by kernel_rfl) (by kernel_rfl) (by kernel_rfl) (fun _ => y_ext rfl rfl) rfl ?_
    refine AN.take 10 rfl (by kernel_rfl) (by kernel_rfl) (by kernel_rfl) (fun _ => y_ext rfl rfl) rfl ?_
    refine AN.take 11 rfl (by kernel_rfl) (by kernel_rfl) (by kernel_rfl) (fun _ => y_assign rfl) rfl ?_
    refine AN.take 12 rfl (by kernel_rfl) (by kernel_rfl) (by kernel_rfl) (fun _ => y_assign rfl) rfl ?_
    refine AN.done (by kernel_rfl) ?_
    refine E.next ?_
    refine C.reg ?_
    refine W.y (y_move rfl) rfl ?_
    refine W.y (y_move rfl) rfl ?_
    refine W.y (Does.as (y_add rfl rfl (wi64 (by omega) (by omega))) (vint (b := ((n + k : Nat) : Int)) (by omega))) rfl ?_
    refine W.y (y_assign rfl) rfl ?_
    refine W.fin ?_
    refine E.blockNormal ?_
    exact E.again (n + k, d1) ⟨hki.drew.trans hk1, by omega, by omega, hb1, hz1.trans hzi, hoi.trans (ho1.wide (by omega) (by omega)), by
      rw [List.take_add]
      exact (hhi.outs ho1 (by rw [List.length_take]; omega)).append hh1 (by rw [List.length_take]; omega), hs1⟩ (Sub.cons rfl (Sub.cons rfl (Sub.cons rfl (Sub.cons rfl (Sub.cons rfl (Sub.cons rfl (Sub.nil _))))))) (by show mn - (n + k) < mn - n; omega)
  by_cases h8 : mn < 8
  · skip
    refine C.seq ?_
    refine C.seq ?_
    refine C.reg ?_
    refine W.y (y_move rfl) rfl ?_
    refine W.y (y_move rfl) rfl ?_
    refine W.y (y_lssF rfl rfl (by omega)) rfl ?_
    refine W.y (y_move rfl) rfl ?_
    refine W.gn rfl rfl rfl ?_
    refine W.gn rfl rfl rfl ?_
    refine W.y (y_pick rfl rfl) rfl ?_
    refine W.fin ?_
    refine E.next ?_
    refine C.no rfl ?_
    refine C.exit ?_
    refine E.thenExit ?_
    refine E.thenExit ?_
    refine E.blockOut ?_
    refine E.next ?_
    refine C.seq ?_
    refine C.seq ?_
    refine C.reg ?_
    refine W.y (y_move rfl) rfl ?_
    refine W.y (y_move rfl) rfl ?_
    refine W.y (y_lssF rfl rfl (by omega)) rfl ?_
    refine W.y (y_move rfl) rfl ?_
    refine W.gn rfl rfl rfl ?_
    refine W.gn rfl rfl rfl ?_
    refine W.y (y_pick rfl rfl) rfl ?_
    refine W.y (y_move rfl) rfl ?_
    refine W.gn rfl rfl rfl ?_
    refine W.gn rfl rfl rfl ?_
    refine W.gn rfl rfl rfl ?_
    refine W.y (y_pick rfl rfl) rfl ?_
    refine W.fin ?_
    refine E.next ?_
    refine C.no rfl ?_
    refine C.skip ?_
    refine E.next ?_
    refine C.seq ?_
    refine C.seq ?_
    refine C.reg ?_
    refine W.y (y_move rfl) rfl ?_
    refine W.y (y_move rfl) rfl ?_
    refine W.gy rfl rfl (y_move rfl) rfl ?_
    refine W.gy rfl rfl (y_lssT rfl rfl (by omega)) rfl ?_
    refine W.y (y_pick rfl rfl) rfl ?_
    refine W.y (y_move rfl) rfl ?_
    refine W.gy rfl rfl (y_move rfl) rfl ?_
    refine W.gy rfl rfl (y_eqlF rfl rfl (by omega)) rfl ?_
    refine W.y (y_pick rfl rfl) rfl ?_
    refine W.y (y_move rfl) rfl ?_
    refine W.gn rfl rfl rfl ?_
    refine W.gn rfl rfl rfl ?_
    refine W.gn rfl rfl rfl ?_
    refine W.y (y_pick rfl rfl) rfl ?_
    refine W.fin ?_
    refine E.next ?_
    refine C.no rfl ?_
    refine C.skip ?_
    refine E.next ?_
    refine C.ret ?_
    exact E.ret2 rfl rfl rfl ⟨hki, n, by omega, hnm, hnR, rfl, ⟨di, hbi, hzi, hoi, hhi⟩, hsi⟩
  · skip
    refine C.seq ?_
    refine C.seq ?_
    refine C.reg ?_
    refine W.y (y_move rfl) rfl ?_
    refine W.y (y_move rfl) rfl ?_
    refine W.y (y_lssF rfl rfl (by omega)) rfl ?_
    refine W.y (y_move rfl) rfl ?_
    refine W.gn rfl rfl rfl ?_
    refine W.gn rfl rfl rfl ?_
    refine W.y (y_pick rfl rfl) rfl ?_
    refine W.fin ?_
    refine E.next ?_
    refine C.no rfl ?_
    refine C.exit ?_
    refine E.thenExit ?_
    refine E.thenExit ?_
    refine E.blockOut ?_
    refine E.next ?_
    refine C.seq ?_
    refine C.seq ?_
    refine C.reg ?_
    refine W.y (y_move rfl) rfl ?_
    refine W.y (y_move rfl) rfl ?_
    refine W.y (y_lssF rfl rfl (by omega)) rfl ?_
    refine W.y (y_move rfl) rfl ?_
    refine W.gn rfl rfl rfl ?_
    refine W.gn rfl rfl rfl ?_
    refine W.y (y_pick rfl rfl) rfl ?_
    refine W.y (y_move rfl) rfl ?_
    refine W.gn rfl rfl rfl ?_
    refine W.gn rfl rfl rfl ?_
    refine W.gn rfl rfl rfl ?_
    refine W.y (y_pick rfl rfl) rfl ?_
    refine W.fin ?_
    refine E.next ?_
    refine C.no rfl ?_
    refine C.skip ?_
    refine E.next ?_
    refine C.seq ?_
    refine C.seq ?_
    refine C.reg ?_
    refine W.y (y_move rfl) rfl ?_
    refine W.y (y_move rfl) rfl ?_
    refine W.gy rfl rfl (y_move rfl) rfl ?_
    refine W.gy rfl rfl (y_lssF rfl rfl (by omega)) rfl ?_
    refine W.y (y_pick rfl rfl) rfl ?_
    refine W.y (y_move rfl) rfl ?_
    refine W.gn rfl rfl rfl ?_
    refine W.gn rfl rfl rfl ?_
    refine W.y (y_pick rfl rfl) rfl ?_
    refine W.y (y_move rfl) rfl ?_
    refine W.gn rfl rfl rfl ?_
    refine W.gn rfl rfl rfl ?_
    refine W.gn rfl rfl rfl ?_
    refine W.y (y_pick rfl rfl) rfl ?_
    refine W.fin ?_
    refine E.next ?_
    refine C.no rfl ?_
    refine C.skip ?_
    refine E.next ?_
    refine C.ret ?_
    exact E.ret2 rfl rfl rfl ⟨hki, n, by omega, hnm, hnR, rfl, ⟨di, hbi, hzi, hoi, hhi⟩, hsi⟩
set_option maxRecDepth 4000 in
theorem redEnd32_ret {w : World} {gf gg gr gp off m c mn : Nat} {R : List UInt8} {ds : Array Value} {td : TypeId} {fd : Nat × Nat} {ae : Addr} (hS : Src 72 55 57 9 w gf gg gr (R)) (hEof : w.cell? ⟨0, 0, none⟩ = some (.iface 116 (.pointer (some ae)))) (hD : Bk w gp ds td fd) (h1 : gg ≠ gr) (h2 : gp ≠ gg) (h3 : gp ≠ gr) (h4 : gp ≠ gf) (h5 : gf ≠ gg) (h6 : gf ≠ gr) (h0 : gg ≠ 0 ∧ gr ≠ 0 ∧ gp ≠ 0) (hmn : 1 ≤ mn) (hmm : mn ≤ m) (hmc : m ≤ c) (ho : off + m ≤ ds.size) (hfd : off + m ≤ fd.1 ∨ fd.2 ≤ off) (hM : m ≤ 1000000000000) (hR : R = []) (h8 : mn = 8) :
    Ret Tryd.prog 62 #[.iface 70 (.pointer (some ⟨gf, 0, none⟩)), .slice (some ⟨gp, off, none⟩) m c, .int .i64 (mn : Int), .bool true] w fun v w' => Kp (fun k => k = gg ∨ k = gr ∨ k = gp) w w' ∧
      v = .tuple #[.int .i64 0, (.iface 116 (.pointer (some ae)))] ∧ (∃ ds', Bk w' gp ds' td fd ∧ ds'.size = ds.size ∧ Outs ds ds' off m) ∧ Src 72 55 57 9 w' gf gg gr ([]) := by
  subst hR h8
  refine ret_of Tryd.func62 rfl Tryd.ntmps62 (Nat.le_of_ble_eq_true rfl) ?_
  refine C.seq ?_
  refine C.reg ?_
  refine W.y (y_assign rfl) rfl ?_
  refine W.y (y_assign rfl) rfl ?_
  refine W.fin ?_
  refine E.next ?_
  refine C.seq ?_
  refine C.block ?_
  refine C.loop (σ := Bool × Array Value) (fun (en, di) w' => Kp (fun k => k = gg ∨ k = gr ∨ k = gp) w w' ∧ Bk w' gp di td fd ∧ di.size = ds.size ∧ Outs ds di off m ∧ Src 72 55 57 9 w' gf gg gr ([])) (fun (en, _) => [(0, .iface 70 (.pointer (some ⟨gf, 0, none⟩))), (1, .slice (some ⟨gp, off, none⟩) m c), (2, .int .i64 ((8 : Nat) : Int)), (3, .bool true), (8, .int .i64 0), (9, bif en then (.iface 116 (.pointer (some ae))) else .nilIface)]) (fun (en, _) => bif en then 0 else 1) (false, ds) ?_ ?_ ?_
  · exact ⟨Kp.refl _ _, hD, rfl, Outs.refl _ _ _, hS⟩
  · exact (Sub.cons rfl (Sub.cons rfl (Sub.cons rfl (Sub.cons rfl (Sub.cons rfl (Sub.cons rfl (Sub.nil _)))))))
  rintro ⟨en, di⟩ wi ⟨hki, hbi, hzi, hoi, hsi⟩
  show C _ _ _ _ [(0, .iface 70 (.pointer (some ⟨gf, 0, none⟩))), (1, .slice (some ⟨gp, off, none⟩) m c), (2, .int .i64 ((8 : Nat) : Int)), (3, .bool true), (8, .int .i64 0), (9, bif en then (.iface 116 (.pointer (some ae))) else .nilIface)] _
  cases en
  · have hEq : wi.drew.cell? ⟨0, 0, none⟩ = some (.iface 116 (.pointer (some ae))) := by rw [← hEof]; exact World.cell?_of_block (hki.block 0 (World.block_lt_of_cell? w _ hEof) (by omega))
    refine C.seq ?_
    refine C.seq ?_
    refine C.reg ?_
    refine W.y (y_move rfl) rfl ?_
    refine W.y (y_move rfl) rfl ?_
    refine W.y (y_lssT rfl rfl (by omega)) rfl ?_
    refine W.y (y_move rfl) rfl ?_
    refine W.gy rfl rfl (y_move rfl) rfl ?_
    refine W.gy rfl rfl (y_eqnil rfl eqNil47) rfl ?_
    refine W.y (y_pick rfl rfl) rfl ?_
    refine W.fin ?_
    refine E.next ?_
    refine C.yes rfl ?_
    refine C.skip ?_
    refine E.next ?_
    refine C.block ?_
    refine C.seq ?_
    refine C.reg ?_
    refine W.y (y_assign rfl) rfl ?_
    refine W.fin ?_
    refine E.next ?_
    refine C.seq ?_
    refine C.any mixed ?_
    refine AN.take 0 rfl (by kernel_rfl) (by kernel_rfl) (by kernel_rfl) (fun _ => y_move rfl) rfl ?_
    refine AN.take 1 rfl (by kernel_rfl) (by kernel_rfl) (by kernel_rfl) (fun _ => y_move rfl) rfl ?_
    refine AN.take 2 rfl (by kernel_rfl) (by kernel_rfl) (by kernel_rfl) (fun _ => y_move rfl) rfl ?_
    refine AN.take 3 rfl (by kernel_rfl) (by kernel_rfl) (by kernel_rfl) (fun _ => y_cutl (i := 0) rfl rfl Tryd.underlying22 siz5 (by omega)) rfl ?_
    rw [cut_addr (j := off) (by omega) (by omega)]
    refine AN.take 4 rfl (by kernel_rfl) (by kernel_rfl) (by kernel_rfl) (fun _ => y_mkf rfl) rfl ?_
    refine AN.take 5 rfl (by kernel_rfl) (by kernel_rfl) (by kernel_rfl) (fun _ => y_nilm rfl nilFil32) rfl ?_
    refine AN.take 6 rfl (by kernel_rfl) (by kernel_rfl) (by kernel_rfl) (fun _ => y_move rfl) rfl ?_
    refine AN.oneInv 7 rfl (by kernel_rfl) ent65 methFil32 rfl rfl (filter32_ret hsi hEq hbi.drew h1 h2 h3 h4 h5 h6 h0 (by omega) (by omega) (by omega) (by omega) (by omega)) rfl ?_
    rintro x1 w1 ⟨hk1, hres⟩
    obtain ⟨_, rfl, ⟨d1, hb1, hz1, ho1⟩, hs1⟩ := hres.resolve_right (fun ⟨k, a, _, b, _⟩ => by simp at b; omega)
    refine AN.take 8 rfl (by kernel_rfl) (by kernel_rfl) (by kernel_rfl) (fun _ => y_move rfl) rfl ?_
    refine AN.take 9 rfl (by kernel_rfl) (by kernel_rfl) (by kernel_rfl) (fun _ => y_ext rfl rfl) rfl ?_
    refine AN.take 10 rfl (by kernel_rfl) (by kernel_rfl) (by kernel_rfl) (fun _ => y_ext rfl rfl) rfl ?_
    refine AN.take 11 rfl (by kernel_rfl) (by kernel_rfl) (by kernel_rfl) (fun _ => y_assign rfl) rfl ?_
    refine AN.take 12 rfl (by kernel_rfl) (by kernel_rfl) (by kernel_rfl) (fun _ => y_assign rfl) rfl ?_
    refine AN.done (by kernel_rfl) ?_
    refine E.next ?_
    refine C.reg ?_
    refine W.y (y_move rfl) rfl ?_
    refine W.y (y_move rfl) rfl ?_
    refine W.y (y_add (r := 0) rfl rfl rfl) rfl ?_
    refine W.y (y_assign rfl) rfl ?_
    refine W.fin ?_
    refine E.blockNormal ?_
    exact E.again (true, d1) ⟨hki.drew.trans hk1, hb1, hz1.trans hzi, hoi.trans (ho1.wide (by omega) (by omega)), hs1⟩ (Sub.cons rfl (Sub.cons rfl (Sub.cons rfl (Sub.cons rfl (Sub.cons rfl (Sub.cons rfl (Sub.nil _))))))) (by show 0 < 1; omega)
  · skip
    refine C.seq ?_
    refine C.seq ?_
    refine C.reg ?_
    refine W.y (y_move rfl) rfl ?_
    refine W.y (y_move rfl) rfl ?_
    refine W.y (y_lssT rfl rfl (by omega)) rfl ?_
    refine W.y (y_move rfl) rfl ?_
    refine W.gy rfl rfl (y_move rfl) rfl ?_
    refine W.gy rfl rfl (y_eqifN rfl Tryd.underlying47) rfl ?_
    refine W.y (y_pick rfl rfl) rfl ?_
    refine W.fin ?_
    refine E.next ?_
    refine C.no rfl ?_
    refine C.exit ?_
    refine E.thenExit ?_
    refine E.thenExit ?_
    refine E.blockOut ?_
    refine E.next ?_
    refine C.seq ?_
    refine C.seq ?_
    refine C.reg ?_
    refine W.y (y_move rfl) rfl ?_
    refine W.y (y_move rfl) rfl ?_
    refine W.y (y_lssT rfl rfl (by omega)) rfl ?_
    refine W.y (y_move rfl) rfl ?_
    refine W.gy rfl rfl (y_move rfl) rfl ?_
    refine W.gy rfl rfl (y_gtrF rfl rfl (by omega)) rfl ?_
    refine W.y (y_pick rfl rfl) rfl ?_
    refine W.y (y_move rfl) rfl ?_
    refine W.gn rfl rfl rfl ?_
    refine W.gn rfl rfl rfl ?_
    refine W.gn rfl rfl rfl ?_
    refine W.y (y_pick rfl rfl) rfl ?_
    refine W.fin ?_
    refine E.next ?_
    refine C.no rfl ?_
    refine C.skip ?_
    refine E.next ?_
    refine C.seq ?_
    refine C.seq ?_
    refine C.reg ?_
    refine W.y (y_move rfl) rfl ?_
    refine W.y (y_move rfl) rfl ?_
    refine W.gy rfl rfl (y_move rfl) rfl ?_
    refine W.gy rfl rfl (y_lssF rfl rfl (by omega)) rfl ?_
    refine W.y (y_pick rfl rfl) rfl ?_
    refine W.y (y_move rfl) rfl ?_
    refine W.gn rfl rfl rfl ?_
    refine W.gn rfl rfl rfl ?_
    refine W.y (y_pick rfl rfl) rfl ?_
    refine W.y (y_move rfl) rfl ?_
    refine W.gn rfl rfl rfl ?_
    refine W.gn rfl rfl rfl ?_
    refine W.gn rfl rfl rfl ?_
    refine W.y (y_pick rfl rfl) rfl ?_
    refine W.fin ?_
    refine E.next ?_
    refine C.no rfl ?_
    refine C.skip ?_
    refine E.next ?_
    refine C.ret ?_
    exact E.ret2 rfl rfl rfl ⟨hki, rfl, ⟨di, hbi, hzi, hoi⟩, hsi⟩
end Go.Proofs.YtlcbcedhbahbbaaDoor
