/-
  Walk: FnReadAgain64.
-/
import Derived.Test.YtmbglgepomeilaaLN
import Derived.Test.YtmbglgepomeilaaOne
namespace Go.Proofs.Ytmbglgepomeilaa
open Go.RowKit
theorem ent25 : Enters Try.prog 25 := enters_of Try.func25 (by kernel_rfl) rfl
theorem ent26 : Enters Try.prog 26 := enters_of Try.func26 (by kernel_rfl) rfl

set_option maxRecDepth 4000 in
theorem fnReadAgain64_ret {w : World} {A : Option Addr} {c n : Nat} {al : List UInt8} {pad z : Int} {a : List UInt8} (hal : al.length ≤ 9223372036854775807) (hA : Rd w A (bv a)) (hn : a.length = n) (hc : n ≤ c) :
    Ret Try.prog 7 #[str al, .int .i64 pad, .slice A n c, .int .i64 z] w fun v w' => v = .bool true ∧ Kp (fun _ => False) w w' := by
  subst hn
  by_cases h1 : z < 0
  · refine ret_of Try.func7 rfl Try.ntmps7 (Nat.le_of_ble_eq_true rfl) ?_
    refine C.seq ?_
    refine C.reg ?_
    refine W.y (y_assign rfl) rfl ?_
    refine W.fin ?_
    refine E.next ?_
    refine C.seq ?_
    refine C.seq ?_
    refine C.reg ?_
    refine W.y (y_move rfl) rfl ?_
    refine W.y (y_move rfl) rfl ?_
    refine W.call ent15 rfl (fit_ret (N := 64) (by omega)) rfl ?_
    rintro _ _ ⟨rfl, ⟨rfl, hf⟩ | rfl⟩
    rotate_left
    · skip
      refine W.y (y_not rfl) rfl ?_
      refine W.y (y_move rfl) rfl ?_
      refine W.gn rfl rfl rfl ?_
      refine W.gn rfl rfl rfl ?_
      refine W.y (y_pick rfl rfl) rfl ?_
      refine W.y (y_move rfl) rfl ?_
      refine W.gn rfl rfl rfl ?_
      refine W.gn rfl rfl rfl ?_
      refine W.y (y_pick rfl rfl) rfl ?_
      refine W.y (y_move rfl) rfl ?_
      refine W.gn rfl rfl rfl ?_
      refine W.gn rfl rfl rfl ?_
      refine W.gn rfl rfl rfl ?_
      refine W.y (y_pick rfl rfl) rfl ?_
      refine W.fin ?_
      refine E.next ?_
      refine C.yes rfl ?_
      refine C.seq ?_
      refine C.reg ?_
      refine W.y (y_assign rfl) rfl ?_
      refine W.fin ?_
      refine E.next ?_
      refine C.ret ?_
      refine E.thenRet ?_
      exact E.ret1 rfl rfl ⟨rfl, Kp.refl _ _⟩
    refine W.y (y_not rfl) rfl ?_
    refine W.y (y_move rfl) rfl ?_
    refine W.gy rfl rfl (y_move rfl) rfl ?_
    refine W.gy rfl rfl (y_lssT rfl rfl (by omega)) rfl ?_
    refine W.y (y_pick rfl rfl) rfl ?_
    refine W.y (y_move rfl) rfl ?_
    refine W.gn rfl rfl rfl ?_
    refine W.gn rfl rfl rfl ?_
    refine W.y (y_pick rfl rfl) rfl ?_
    refine W.y (y_move rfl) rfl ?_
    refine W.gn rfl rfl rfl ?_
    refine W.gn rfl rfl rfl ?_
    refine W.gn rfl rfl rfl ?_
    refine W.y (y_pick rfl rfl) rfl ?_
    refine W.fin ?_
    refine E.next ?_
    refine C.yes rfl ?_
    refine C.seq ?_
    refine C.reg ?_
    refine W.y (y_assign rfl) rfl ?_
    refine W.fin ?_
    refine E.next ?_
    refine C.ret ?_
    refine E.thenRet ?_
    exact E.ret1 rfl rfl ⟨rfl, Kp.refl _ _⟩
  by_cases h2 : 6 < z
  · refine ret_of Try.func7 rfl Try.ntmps7 (Nat.le_of_ble_eq_true rfl) ?_
    refine C.seq ?_
    refine C.reg ?_
    refine W.y (y_assign rfl) rfl ?_
    refine W.fin ?_
    refine E.next ?_
    refine C.seq ?_
    refine C.seq ?_
    refine C.reg ?_
    refine W.y (y_move rfl) rfl ?_
    refine W.y (y_move rfl) rfl ?_
    refine W.call ent15 rfl (fit_ret (N := 64) (by omega)) rfl ?_
    rintro _ _ ⟨rfl, ⟨rfl, hf⟩ | rfl⟩
    rotate_left
    · skip
      refine W.y (y_not rfl) rfl ?_
      refine W.y (y_move rfl) rfl ?_
      refine W.gn rfl rfl rfl ?_
      refine W.gn rfl rfl rfl ?_
      refine W.y (y_pick rfl rfl) rfl ?_
      refine W.y (y_move rfl) rfl ?_
      refine W.gn rfl rfl rfl ?_
      refine W.gn rfl rfl rfl ?_
      refine W.y (y_pick rfl rfl) rfl ?_
      refine W.y (y_move rfl) rfl ?_
      refine W.gn rfl rfl rfl ?_
      refine W.gn rfl rfl rfl ?_
      refine W.gn rfl rfl rfl ?_
      refine W.y (y_pick rfl rfl) rfl ?_
      refine W.fin ?_
      refine E.next ?_
      refine C.yes rfl ?_
      refine C.seq ?_
      refine C.reg ?_
      refine W.y (y_assign rfl) rfl ?_
      refine W.fin ?_
      refine E.next ?_
      refine C.ret ?_
      refine E.thenRet ?_
      exact E.ret1 rfl rfl ⟨rfl, Kp.refl _ _⟩
    refine W.y (y_not rfl) rfl ?_
    refine W.y (y_move rfl) rfl ?_
    refine W.gy rfl rfl (y_move rfl) rfl ?_
    refine W.gy rfl rfl (y_lssF rfl rfl (by omega)) rfl ?_
    refine W.y (y_pick rfl rfl) rfl ?_
    refine W.y (y_move rfl) rfl ?_
    refine W.gy rfl rfl (y_move rfl) rfl ?_
    refine W.gy rfl rfl (y_gtrT rfl rfl (by omega)) rfl ?_
    refine W.y (y_pick rfl rfl) rfl ?_
    refine W.y (y_move rfl) rfl ?_
    refine W.gn rfl rfl rfl ?_
    refine W.gn rfl rfl rfl ?_
    refine W.gn rfl rfl rfl ?_
    refine W.y (y_pick rfl rfl) rfl ?_
    refine W.fin ?_
    refine E.next ?_
    refine C.yes rfl ?_
    refine C.seq ?_
    refine C.reg ?_
    refine W.y (y_assign rfl) rfl ?_
    refine W.fin ?_
    refine E.next ?_
    refine C.ret ?_
    refine E.thenRet ?_
    exact E.ret1 rfl rfl ⟨rfl, Kp.refl _ _⟩
  by_cases h3 : 2000 < a.length
  · refine ret_of Try.func7 rfl Try.ntmps7 (Nat.le_of_ble_eq_true rfl) ?_
    refine C.seq ?_
    refine C.reg ?_
    refine W.y (y_assign rfl) rfl ?_
    refine W.fin ?_
    refine E.next ?_
    refine C.seq ?_
    refine C.seq ?_
    refine C.reg ?_
    refine W.y (y_move rfl) rfl ?_
    refine W.y (y_move rfl) rfl ?_
    refine W.call ent15 rfl (fit_ret (N := 64) (by omega)) rfl ?_
    rintro _ _ ⟨rfl, ⟨rfl, hf⟩ | rfl⟩
    rotate_left
    · skip
      refine W.y (y_not rfl) rfl ?_
      refine W.y (y_move rfl) rfl ?_
      refine W.gn rfl rfl rfl ?_
      refine W.gn rfl rfl rfl ?_
      refine W.y (y_pick rfl rfl) rfl ?_
      refine W.y (y_move rfl) rfl ?_
      refine W.gn rfl rfl rfl ?_
      refine W.gn rfl rfl rfl ?_
      refine W.y (y_pick rfl rfl) rfl ?_
      refine W.y (y_move rfl) rfl ?_
      refine W.gn rfl rfl rfl ?_
      refine W.gn rfl rfl rfl ?_
      refine W.gn rfl rfl rfl ?_
      refine W.y (y_pick rfl rfl) rfl ?_
      refine W.fin ?_
      refine E.next ?_
      refine C.yes rfl ?_
      refine C.seq ?_
      refine C.reg ?_
      refine W.y (y_assign rfl) rfl ?_
      refine W.fin ?_
      refine E.next ?_
      refine C.ret ?_
      refine E.thenRet ?_
      exact E.ret1 rfl rfl ⟨rfl, Kp.refl _ _⟩
    refine W.y (y_not rfl) rfl ?_
    refine W.y (y_move rfl) rfl ?_
    refine W.gy rfl rfl (y_move rfl) rfl ?_
    refine W.gy rfl rfl (y_lssF rfl rfl (by omega)) rfl ?_
    refine W.y (y_pick rfl rfl) rfl ?_
    refine W.y (y_move rfl) rfl ?_
    refine W.gy rfl rfl (y_move rfl) rfl ?_
    refine W.gy rfl rfl (y_gtrF rfl rfl (by omega)) rfl ?_
    refine W.y (y_pick rfl rfl) rfl ?_
    refine W.y (y_move rfl) rfl ?_
    refine W.gy rfl rfl (y_move rfl) rfl ?_
    refine W.gy rfl rfl (y_len rfl Try.underlying24) rfl ?_
    refine W.gy rfl rfl (y_gtrT rfl rfl (by omega)) rfl ?_
    refine W.y (y_pick rfl rfl) rfl ?_
    refine W.fin ?_
    refine E.next ?_
    refine C.yes rfl ?_
    refine C.seq ?_
    refine C.reg ?_
    refine W.y (y_assign rfl) rfl ?_
    refine W.fin ?_
    refine E.next ?_
    refine C.ret ?_
    refine E.thenRet ?_
    exact E.ret1 rfl rfl ⟨rfl, Kp.refl _ _⟩
  obtain ⟨k, rfl⟩ : ∃ k : Nat, z = k := ⟨z.toNat, by omega⟩
  have hbd : ∀ t : List UInt8, _ := fun t => text_bounds64 (al := al) (s := t) (pad := pad)
  have hel : ∀ i, i ≤ 6 → (encs 6 4 al pad a i).length ≤ 200000 := fun i hi => encs_le hbd hi (by omega)
  have heg : ∀ i, a.length ≤ (encs 6 4 al pad a i).length := fun i => (encs_bounds hbd i).1
  refine ret_of Try.func7 rfl Try.ntmps7 (Nat.le_of_ble_eq_true rfl) ?_
  refine C.seq ?_
  refine C.reg ?_
  refine W.y (y_assign rfl) rfl ?_
  refine W.fin ?_
  refine E.next ?_
  refine C.seq ?_
  refine C.seq ?_
  refine C.reg ?_
  refine W.y (y_move rfl) rfl ?_
  refine W.y (y_move rfl) rfl ?_
  refine W.call ent15 rfl (fit_ret (N := 64) (by omega)) rfl ?_
  rintro _ _ ⟨rfl, ⟨rfl, hf⟩ | rfl⟩
  rotate_left
  · skip
    refine W.y (y_not rfl) rfl ?_
    refine W.y (y_move rfl) rfl ?_
    refine W.gn rfl rfl rfl ?_
    refine W.gn rfl rfl rfl ?_
    refine W.y (y_pick rfl rfl) rfl ?_
    refine W.y (y_move rfl) rfl ?_
    refine W.gn rfl rfl rfl ?_
    refine W.gn rfl rfl rfl ?_
    refine W.y (y_pick rfl rfl) rfl ?_
    refine W.y (y_move rfl) rfl ?_
    refine W.gn rfl rfl rfl ?_
    refine W.gn rfl rfl rfl ?_
    refine W.gn rfl rfl rfl ?_
    refine W.y (y_pick rfl rfl) rfl ?_
    refine W.fin ?_
    refine E.next ?_
    refine C.yes rfl ?_
    refine C.seq ?_
    refine C.reg ?_
    refine W.y (y_assign rfl) rfl ?_
    refine W.fin ?_
    refine E.next ?_
    refine C.ret ?_
    refine E.thenRet ?_
    exact E.ret1 rfl rfl ⟨rfl, Kp.refl _ _⟩
  refine W.y (y_not rfl) rfl ?_
  refine W.y (y_move rfl) rfl ?_
  refine W.gy rfl rfl (y_move rfl) rfl ?_
  refine W.gy rfl rfl (y_lssF rfl rfl (by omega)) rfl ?_
  refine W.y (y_pick rfl rfl) rfl ?_
  refine W.y (y_move rfl) rfl ?_
  refine W.gy rfl rfl (y_move rfl) rfl ?_
  refine W.gy rfl rfl (y_gtrF rfl rfl (by omega)) rfl ?_
  refine W.y (y_pick rfl rfl) rfl ?_
  refine W.y (y_move rfl) rfl ?_
  refine W.gy rfl rfl (y_move rfl) rfl ?_
  refine W.gy rfl rfl (y_len rfl Try.underlying24) rfl ?_
  refine W.gy rfl rfl (y_gtrF rfl rfl (by omega)) rfl ?_
  refine W.y (y_pick rfl rfl) rfl ?_
  refine W.fin ?_
  refine E.next ?_
  refine C.no rfl ?_
  refine C.skip ?_
  refine E.next ?_
  refine C.seq ?_
  refine C.reg ?_
  refine W.y (y_move rfl) rfl ?_
  refine W.y (y_assign rfl) rfl ?_
  refine W.fin ?_
  refine E.next ?_
  refine C.seq ?_
  refine C.seq ?_
  refine C.reg ?_
  refine W.y (y_move rfl) rfl ?_
  refine W.y (y_move rfl) rfl ?_
  refine W.fin ?_
  refine E.next ?_
  refine C.block ?_
  refine C.loop (σ := Nat × Option Addr × Nat) (fun (i, B, cc) w' => i ≤ k ∧ Rd w' B (bv (encs 6 4 al pad a i)) ∧ (encs 6 4 al pad a i).length ≤ cc ∧ Kp (fun _ => False) w w') (fun (i, B, cc) => [(0, str al), (1, .int .i64 pad), (2, .slice A a.length c), (3, .int .i64 (k : Int)), (9, .slice B (encs 6 4 al pad a i).length cc), (34, .int .i64 (k : Int)), (35, .int .i64 (i : Int))]) (fun (i, _, _) => k - i) (0, A, c) ?_ ?_ ?_
  · exact ⟨by omega, hA, hc, Kp.refl _ _⟩
  · exact (Sub.cons rfl (Sub.cons rfl (Sub.cons rfl (Sub.cons rfl (Sub.cons rfl (Sub.cons rfl (Sub.cons rfl (Sub.nil _))))))))
  rintro ⟨i, B, cc⟩ wi ⟨hi, hr, hcc, hk⟩
  show C _ _ _ _ [(0, str al), (1, .int .i64 pad), (2, .slice A a.length c), (3, .int .i64 (k : Int)), (9, .slice B (encs 6 4 al pad a i).length cc), (34, .int .i64 (k : Int)), (35, .int .i64 (i : Int))] _
  have hli := hel i (by omega)
  by_cases h : i < k
  · skip
    refine C.seq ?_
    refine C.reg ?_
    refine W.y (y_lssT rfl rfl (by omega)) rfl ?_
    refine W.fin ?_
    refine E.next ?_
    refine C.seq ?_
    refine C.yes rfl ?_
    refine C.skip ?_
    refine E.next ?_
    refine C.seq ?_
    refine C.block ?_
    refine C.reg ?_
    refine W.y (y_move rfl) rfl ?_
    refine W.y (y_move rfl) rfl ?_
    refine W.y (y_move rfl) rfl ?_
    refine W.call ent27 rfl (encodeImpl64_ret hf hr rfl hcc (by omega)) rfl ?_
    rintro _ w1 ⟨rfl, hw1⟩
    obtain ⟨cap, ds, w2, hcv, hb2, hds, hcap, hcs, hw2, hz2⟩ := run_s2b (P := Try.prog) (w := w1) (t := 9) (t' := 24) (s := Pl.text 6 4 al pad (encs 6 4 al pad a i)) Try.underlying9 Try.underlying24 Try.underlying5
    refine W.y (y_cvt rfl hcv) rfl ?_
    refine W.y (y_assign rfl) rfl ?_
    refine W.fin ?_
    refine E.blockNormal ?_
    refine E.next ?_
    refine C.reg ?_
    refine W.y (y_add rfl rfl (wi64 (by omega) (by omega))) rfl ?_
    refine W.y (y_move rfl) rfl ?_
    refine W.fin ?_
    exact E.again (i + 1, _, cap) ⟨by omega, Rd.of_bs (Bs.of_row hb2 (fun i x hx => by rw [Nat.zero_add]; exact hcs i x hx)), hcap, (hk.trans hw1).trans hw2⟩ (Sub.cons rfl (Sub.cons rfl (Sub.cons rfl (Sub.cons rfl (Sub.cons rfl (Sub.cons rfl (Sub.cons rfl (Sub.nil _)))))))) (by show k - (i + 1) < k - i; omega)
  obtain rfl : i = k := by omega
  have hge := heg i
  refine C.seq ?_
  refine C.reg ?_
  refine W.y (y_lssF rfl rfl (by omega)) rfl ?_
  refine W.fin ?_
  refine E.next ?_
  refine C.seq ?_
  refine C.no rfl ?_
  refine C.exit ?_
  refine E.thenExit ?_
  refine E.thenExit ?_
  refine E.blockOut ?_
  refine E.next ?_
  refine C.mid (σ := Unit) (fun (_ : Unit) w' => Rd w' B (bv (encs 6 4 al pad a i)) ∧ Kp (fun _ => False) w w') (fun _ => [(0, str al), (1, .int .i64 pad), (2, .slice A a.length c), (3, .int .i64 (i : Int)), (9, .slice B (encs 6 4 al pad a i).length cc)]) ?_ ?_
  · by_cases h0 : i = 0
    · subst h0
      have h00 : (encs 6 4 al pad a 0).length = a.length := rfl
      refine C.seq ?_
      refine C.reg ?_
      refine W.y (y_move rfl) rfl ?_
      refine W.y (y_gtrF rfl rfl (by omega)) rfl ?_
      refine W.y (y_move rfl) rfl ?_
      refine W.gn rfl rfl rfl ?_
      refine W.gn rfl rfl rfl ?_
      refine W.gn rfl rfl rfl ?_
      refine W.gn rfl rfl rfl ?_
      refine W.gn rfl rfl rfl ?_
      refine W.y (y_pick rfl rfl) rfl ?_
      refine W.y (y_move rfl) rfl ?_
      refine W.gy rfl rfl (y_move rfl) rfl ?_
      refine W.gy rfl rfl (y_eqlT rfl rfl (by omega)) rfl ?_
      refine W.gy rfl rfl (y_move rfl) rfl ?_
      refine W.gy rfl rfl (y_move rfl) rfl ?_
      refine W.gy rfl rfl (y_len rfl Try.underlying24) rfl ?_
      refine W.gy rfl rfl (y_move rfl) rfl ?_
      refine W.gy rfl rfl (y_len rfl Try.underlying24) rfl ?_
      refine W.gy rfl rfl (y_neqF rfl rfl (by omega)) rfl ?_
      refine W.gy rfl rfl (y_pick rfl rfl) rfl ?_
      refine W.y (y_pick rfl rfl) rfl ?_
      refine W.fin ?_
      refine E.next ?_
      refine C.no rfl ?_
      refine C.skip ?_
      exact E.mid (()) ⟨hr, hk⟩ (Sub.cons rfl (Sub.cons rfl (Sub.cons rfl (Sub.cons rfl (Sub.cons rfl (Sub.nil _))))))
    · skip
      refine C.seq ?_
      refine C.reg ?_
      refine W.y (y_move rfl) rfl ?_
      refine W.y (y_gtrT rfl rfl (by omega)) rfl ?_
      refine W.y (y_move rfl) rfl ?_
      refine W.gy rfl rfl (y_move rfl) rfl ?_
      refine W.gy rfl rfl (y_len rfl Try.underlying24) rfl ?_
      refine W.gy rfl rfl (y_move rfl) rfl ?_
      refine W.gy rfl rfl (y_len rfl Try.underlying24) rfl ?_
      refine W.gy rfl rfl (y_lssF rfl rfl (by omega)) rfl ?_
      refine W.y (y_pick rfl rfl) rfl ?_
      refine W.y (y_move rfl) rfl ?_
      refine W.gy rfl rfl (y_move rfl) rfl ?_
      refine W.gy rfl rfl (y_eqlF rfl rfl (by omega)) rfl ?_
      refine W.gy rfl rfl (y_move rfl) rfl ?_
      refine W.gn rfl rfl rfl ?_
      refine W.gn rfl rfl rfl ?_
      refine W.gn rfl rfl rfl ?_
      refine W.gn rfl rfl rfl ?_
      refine W.gn rfl rfl rfl ?_
      refine W.gy rfl rfl (y_pick rfl rfl) rfl ?_
      refine W.y (y_pick rfl rfl) rfl ?_
      refine W.fin ?_
      refine E.next ?_
      refine C.no rfl ?_
      refine C.skip ?_
      exact E.mid (()) ⟨hr, hk⟩ (Sub.cons rfl (Sub.cons rfl (Sub.cons rfl (Sub.cons rfl (Sub.cons rfl (Sub.nil _))))))
  rintro _ wm ⟨hrm, hkm⟩
  show C _ _ _ _ [(0, str al), (1, .int .i64 pad), (2, .slice A a.length c), (3, .int .i64 (i : Int)), (9, .slice B (encs 6 4 al pad a i).length cc)] _
  refine C.seq ?_
  refine C.seq ?_
  refine C.reg ?_
  refine W.y (y_move rfl) rfl ?_
  refine W.y (y_move rfl) rfl ?_
  refine W.fin ?_
  refine E.next ?_
  refine C.block ?_
  refine C.loop (σ := Nat × Option Addr × Nat) (fun (j, B, cc) w' => j ≤ i ∧ Rd w' B (bv (encs 6 4 al pad a (i - j))) ∧ (encs 6 4 al pad a (i - j)).length ≤ cc ∧ Kp (fun _ => False) w w') (fun (j, B, cc) => [(0, str al), (1, .int .i64 pad), (2, .slice A a.length c), (3, .int .i64 (i : Int)), (9, .slice B (encs 6 4 al pad a (i - j)).length cc), (63, .int .i64 (i : Int)), (64, .int .i64 (j : Int))]) (fun (j, _, _) => i - j) (0, B, cc) ?_ ?_ ?_
  · exact ⟨by omega, hrm, hcc, hkm⟩
  · exact (Sub.cons rfl (Sub.cons rfl (Sub.cons rfl (Sub.cons rfl (Sub.cons rfl (Sub.cons rfl (Sub.cons rfl (Sub.nil _))))))))
  rintro ⟨j, B, cc⟩ wj ⟨hj, hr2, hcc2, hk2⟩
  show C _ _ _ _ [(0, str al), (1, .int .i64 pad), (2, .slice A a.length c), (3, .int .i64 (i : Int)), (9, .slice B (encs 6 4 al pad a (i - j)).length cc), (63, .int .i64 (i : Int)), (64, .int .i64 (j : Int))] _
  by_cases h2 : j < i
  · have hlj := hel (i - j) (by omega)
    have hst : encs 6 4 al pad a (i - j) = Pl.text 6 4 al pad (encs 6 4 al pad a (i - (j + 1))) := by rw [show i - j = (i - (j + 1)) + 1 by omega]; rfl
    have hcv := run_b2s (P := Try.prog) (t := 24) (t' := 9) (c := cc) Try.underlying24 Try.underlying5 Try.underlying9 hr2
    have hle : 6 * (Pl.nums 6 (encs 6 4 al pad a (i - (j + 1)))).length / 8 = (encs 6 4 al pad a (i - (j + 1))).length := by rw [Pl.nums_length]; exact Pl.nlet_back (by omega) (by omega) _
    have hun := Pl.unpack_nums (bits := 6) (by omega) (by omega) (encs 6 4 al pad a (i - (j + 1)))
    refine C.seq ?_
    refine C.reg ?_
    refine W.y (y_lssT rfl rfl (by omega)) rfl ?_
    refine W.fin ?_
    refine E.next ?_
    refine C.seq ?_
    refine C.yes rfl ?_
    refine C.skip ?_
    refine E.next ?_
    refine C.seq ?_
    refine C.block ?_
    refine C.seq ?_
    refine C.reg ?_
    refine W.y (y_move rfl) rfl ?_
    refine W.y (y_move rfl) rfl ?_
    refine W.y (y_move rfl) rfl ?_
    refine W.y (y_cvt rfl hcv) rfl ?_
    refine W.call ent25 rfl (decodeImpl64_ret (vs := Pl.nums 6 (encs 6 4 al pad a (i - (j + 1)))) hf (fun _ => ⟨_, rfl⟩) (Pl.nums_lt (bits := 6)) ⟨_, Pl.nums_length _ _⟩ (hst.trans text_form) (by omega)) rfl ?_
    rintro _ w1 ⟨B1, c1, rfl, hr1, hc1, hw1⟩
    rw [hun] at hr1
    refine W.y (y_move rfl) rfl ?_
    refine W.y (y_ext rfl rfl) rfl ?_
    refine W.y (y_ext rfl rfl) rfl ?_
    refine W.y (y_ext rfl rfl) rfl ?_
    refine W.y (y_assign rfl) rfl ?_
    refine W.y (y_assign rfl) rfl ?_
    refine W.y (y_assign rfl) rfl ?_
    refine W.fin ?_
    refine E.next ?_
    refine C.seq ?_
    refine C.seq ?_
    refine C.reg ?_
    refine W.y (y_move rfl) rfl ?_
    refine W.y (y_not rfl) rfl ?_
    refine W.fin ?_
    refine E.next ?_
    refine C.no rfl ?_
    refine C.skip ?_
    refine E.next ?_
    refine C.reg ?_
    refine W.y (y_move rfl) rfl ?_
    refine W.y (y_assign rfl) rfl ?_
    refine W.fin ?_
    refine E.blockNormal ?_
    refine E.next ?_
    refine C.reg ?_
    refine W.y (y_add rfl rfl (wi64 (by omega) (by omega))) rfl ?_
    refine W.y (y_move rfl) rfl ?_
    refine W.fin ?_
    refine E.again (j + 1, B1, c1) ⟨by omega, hr1, by rw [← hle]; exact hc1, hk2.trans hw1⟩ (Sub.cons rfl (Sub.cons rfl (Sub.cons rfl (Sub.cons rfl (Sub.cons (congrArg (fun x => some (Value.slice B1 x c1)) hle) (Sub.cons rfl (Sub.cons rfl (Sub.nil _)))))))) (by show i - (j + 1) < i - j; omega)
  obtain rfl : j = i := by omega
  rw [Nat.sub_self] at hr2
  have hw1 : Kp (fun _ => False) wj (wj.alloc (.cells #[.int .u8 1] 5)) := (Kp.refl _ _).alloc _
  have hr1 : Rd (wj.alloc (.cells #[.int .u8 1] 5)) (some ⟨wj.heap.size, 0, none⟩) (bv [1]) := Rd.one wj 5 _
  have hse : encs 6 4 al pad a (j - j) = a := by rw [Nat.sub_self]; rfl
  refine C.seq ?_
  refine C.reg ?_
  refine W.y (y_lssF rfl rfl (by omega)) rfl ?_
  refine W.fin ?_
  refine E.next ?_
  refine C.seq ?_
  refine C.no rfl ?_
  refine C.exit ?_
  refine E.thenExit ?_
  refine E.thenExit ?_
  refine E.blockOut ?_
  refine E.next ?_
  refine C.seq ?_
  refine C.reg ?_
  refine W.y (y_move rfl) rfl ?_
  refine W.y (y_move rfl) rfl ?_
  refine W.y (y_move rfl) rfl ?_
  refine W.y (y_move rfl) rfl ?_
  refine W.y (y_bs1 (v := .int .u8 1) el24 rfl rfl) rfl ?_
  refine W.call ent27 rfl (encodeImpl64_ret (n := 1) (c := 1) hf hr1 rfl (Nat.le_refl _) (by omega)) rfl ?_
  rintro _ w2 ⟨rfl, hw2⟩
  have h1l := (text_bounds64 (al := al) (s := [1]) (pad := pad)).2
  simp only [List.length_singleton] at h1l
  refine W.call ent25 rfl (decodeImpl64_ret (vs := Pl.nums 6 [1]) hf (fun _ => ⟨_, rfl⟩) (Pl.nums_lt (bits := 6)) ⟨_, Pl.nums_length _ _⟩ text_form (by omega)) rfl ?_
  rintro _ w3 ⟨B3, c3, rfl, hr3, hc3, hw3⟩
  have hK3 := ((hk2.trans hw1).trans hw2).trans hw3
  have hw13 := (hw1.trans hw2).trans hw3
  have hl3 : 6 * (Pl.nums 6 [1]).length / 8 = 1 := by rw [Pl.nums_length]; exact Pl.nlet_back (by omega) (by omega) 1
  refine W.y (y_move rfl) rfl ?_
  refine W.y (y_ext rfl rfl) rfl ?_
  refine W.y (y_ext rfl rfl) rfl ?_
  refine W.y (y_ext rfl rfl) rfl ?_
  refine W.y (y_assign rfl) rfl ?_
  refine W.y (y_assign rfl) rfl ?_
  refine W.y (y_assign rfl) rfl ?_
  refine W.fin ?_
  refine E.next ?_
  refine C.seq ?_
  refine C.reg ?_
  refine W.y (y_move rfl) rfl ?_
  refine W.y (y_move rfl) rfl ?_
  refine W.call ent26 rfl (same_ret (hr2.kept hw13 (fun _ _ _ => id)) (by rw [Nat.sub_self]) (hA.kept hK3 (fun _ _ _ => id)) rfl) rfl ?_
  rintro _ _ ⟨rfl, rfl⟩
  refine W.y (y_move rfl) rfl ?_
  refine W.gy rfl rfl (y_move rfl) rfl ?_
  refine W.y (y_pick rfl rfl) rfl ?_
  refine W.y (y_move rfl) rfl ?_
  refine W.gy rfl rfl (y_move rfl) rfl ?_
  refine W.gy rfl rfl (y_len rfl Try.underlying24) rfl ?_
  refine W.gy rfl rfl (y_eqlT rfl rfl (by omega)) rfl ?_
  refine W.y (y_pick rfl rfl) rfl ?_
  refine W.y (y_assign rfl) rfl ?_
  refine W.fin ?_
  refine E.next ?_
  refine C.ret ?_
  exact E.ret1 rfl rfl ⟨rfl, hK3⟩
end Go.Proofs.Ytmbglgepomeilaa
