/-
  Walk: FnFullLetters.
-/
import Derived.Test.YtlbnglmfbnnhjaaWE
import Derived.Test.YtlbnglmfbnnhjaaLE
import Derived.Test.YtlbnglmfbnnhjaaLA
namespace Go.Proofs.Ytlbnglmfbnnhjaa
open Go.RowKit
theorem ent26 : Enters Try.prog 26 := enters_of Try.func26 (by kernel_rfl) rfl

set_option maxRecDepth 4000 in
theorem fnFullLetters32_ret {w : World} {A A2 : Option Addr} {c n c2 n2 : Nat} {al : List UInt8} {pad : Int} {a b : List UInt8} (hal : al.length ≤ 1048576) (hA : Rd w A (bv a)) (hn : a.length = n) (hc : n ≤ c) (hN : n ≤ 1048576) (hB : Rd w A2 (bv b)) (hn2 : b.length = n2) (hc2 : n2 ≤ c2) (hN2 : n2 ≤ 1048576) :
    Ret Try.prog 8 #[str al, .int .i64 pad, .slice A n c, .slice A2 n2 c2] w fun v w' => v = .bool true ∧ Kp (fun _ => False) w w' := by
  subst hn hn2
  obtain ⟨v1, x1, hr1, ho1, hg1, ha1⟩ := run_app (P := Try.prog) (w := w) (ty := 24) (c := c) el24 (Own.nil w 5) hA (one_u8 a) (by simp only [bv_length, List.length_nil]; omega) (by omega)
  rw [bv_length] at hr1
  rw [List.nil_append] at ho1
  have hk1 : Kp (fun _ => False) w x1 := grown_kp hg1 (fun _ e => by cases e)
  obtain ⟨v2, x2, hr2, ho2, hg2, ha2⟩ := run_app (P := Try.prog) (w := x1) (ty := 24) (c := c2) el24 ho1 (hB.kept hk1 (fun _ _ _ => id)) (one_u8 b) (by simp only [bv_length]; omega) (by omega)
  rw [bv_length] at hr2
  have hk2 : Kp (fun _ => False) w x2 := hk1.grown hg2 (fun k e => .inr (by
    rcases ha1 with e1 | e1
    · rw [e1] at e; cases e
    · rw [e1] at e; injection e with e; omega))
  rw [← bv_append] at ho2
  obtain ⟨A3, c3, rfl, hrd3, hc3, _⟩ := ho2.bytes
  have hl3 : (a ++ b).length = a.length + b.length := List.length_append
  have hA2 := hA.kept hk2 (fun _ _ _ => id)
  have hnf := nlet_full (bits := 5) (L := a.length)
  have hnf2 := nlet_full (bits := 5) (L := (a ++ b).length)
  have hna := text_ge (bits := 5) (block := 8) (al := al) (pad := pad) (src := a)
  have hnb := text_ge (bits := 5) (block := 8) (al := al) (pad := pad) (src := a ++ b)
  have htk := text_take_full (bits := 5) (block := 8) (al := al) (pad := pad) (a := a) (r := b) (by omega)
  obtain ⟨nl, hnl⟩ : ∃ nl, nl = 8 * a.length / 5 := ⟨_, rfl⟩
  rw [← hnl] at htk hnf
  refine ret_of Try.func8 rfl Try.ntmps8 (Nat.le_of_ble_eq_true rfl) ?_
  refine C.seq ?_
  refine C.reg ?_
  refine W.y (y_assign rfl) rfl ?_
  refine W.fin ?_
  refine E.next ?_
  refine C.seq ?_
  refine C.seq ?_
  refine C.reg ?_
  refine W.y (y_move rfl) rfl ?_
  refine W.y (y_move rfl) rfl ?_
  refine W.call ent15 rfl (fit_ret (N := 32) (by omega)) rfl ?_
  rintro _ _ ⟨rfl, ⟨rfl, hf⟩ | rfl⟩
  rotate_left
  · skip
    refine W.y (y_not rfl) rfl ?_
    refine W.fin ?_
    refine E.next ?_
    refine C.yes rfl ?_
    refine C.seq ?_
    refine C.reg ?_
    refine W.y (y_assign rfl) rfl ?_
    refine W.fin ?_
    refine E.next ?_
    refine C.ret ?_
    refine E.thenRet ?_
    exact E.ret1 rfl rfl ⟨rfl, Kp.refl _ _⟩
  refine W.y (y_not rfl) rfl ?_
  refine W.fin ?_
  refine E.next ?_
  refine C.no rfl ?_
  refine C.skip ?_
  refine E.next ?_
  refine C.seq ?_
  refine C.reg ?_
  refine W.y (y_move rfl) rfl ?_
  refine W.y (y_len rfl Try.underlying24) rfl ?_
  refine W.y (y_mul rfl rfl (wi64 (by omega) (by omega))) rfl ?_
  refine W.y (Does.as (y_quo rfl rfl (by omega) (by omega) (by omega)) (vint (b := ((nl : Nat) : Int)) (by omega))) rfl ?_
  refine W.y (y_assign rfl) rfl ?_
  refine W.fin ?_
  refine E.next ?_
  refine C.seq ?_
  refine C.reg ?_
  refine W.y (y_move rfl) rfl ?_
  refine W.y (y_move rfl) rfl ?_
  refine W.y (y_move rfl) rfl ?_
  refine W.y (y_app rfl rfl hr1) rfl ?_
  refine W.y (y_move rfl) rfl ?_
  refine W.y (y_app rfl rfl hr2) rfl ?_
  refine W.call ent26 rfl (encodeImpl32_ret hf hrd3 rfl hc3 (by omega)) rfl ?_
  rintro _ w1 ⟨rfl, hw1⟩
  refine W.y (y_assign rfl) rfl ?_
  refine W.fin ?_
  refine E.next ?_
  refine C.seq ?_
  refine C.reg ?_
  refine W.y (y_move rfl) rfl ?_
  refine W.y (y_move rfl) rfl ?_
  refine W.y (y_move rfl) rfl ?_
  refine W.call ent26 rfl (encodeImpl32_ret hf (hA2.kept hw1 (fun _ _ _ => id)) rfl hc (by omega)) rfl ?_
  rintro _ w2 ⟨rfl, hw2⟩
  refine W.y (y_assign rfl) rfl ?_
  refine W.fin ?_
  refine E.next ?_
  refine C.seq ?_
  refine C.seq ?_
  refine C.still mixed (by kernel_rfl) ?_
  refine S.y (y_move rfl) rfl ?_
  refine S.y (y_len' rfl Try.underlying9) rfl ?_
  refine S.y (y_move rfl) rfl ?_
  refine S.y (y_lssF rfl rfl (by omega)) rfl ?_
  refine S.y (y_move rfl) rfl ?_
  refine S.gy rfl rfl (y_move rfl) rfl ?_
  refine S.gy rfl rfl (y_len' rfl Try.underlying9) rfl ?_
  refine S.gy rfl rfl (y_move rfl) rfl ?_
  refine S.gy rfl rfl (y_lssF rfl rfl (by omega)) rfl ?_
  refine S.y (y_pick rfl rfl) rfl ?_
  refine S.y (y_move rfl) rfl ?_
  refine S.gy rfl rfl (y_move rfl) rfl ?_
  refine S.gy rfl rfl (y_move rfl) rfl ?_
  refine S.gy rfl rfl (y_scuth' rfl rfl Try.underlying9 (by omega)) rfl ?_
  refine S.gy rfl rfl (y_move rfl) rfl ?_
  refine S.gy rfl rfl (y_move rfl) rfl ?_
  refine S.gy rfl rfl (y_scuth' rfl rfl Try.underlying9 (by omega)) rfl ?_
  refine S.gy rfl rfl (y_nesF rfl rfl htk) rfl ?_
  refine S.y (y_pick rfl rfl) rfl ?_
  refine S.end_ ?_
  refine E.next ?_
  refine C.no rfl ?_
  refine C.skip ?_
  refine E.next ?_
  refine C.seq ?_
  refine C.seq ?_
  refine C.reg ?_
  refine W.y (y_assign rfl) rfl ?_
  refine W.fin ?_
  refine E.next ?_
  refine C.block ?_
  have hK : Kp (fun _ => False) w w2.drew := ((hk2.trans hw1).trans hw2).drew
  refine C.loop (σ := Nat) (fun i w' => i ≤ nl ∧ Kp (fun _ => False) w w') (fun i => [(0, str al), (2, .slice A a.length c), (9, .int .i64 (nl : Int)), (11, str (Pl.text 5 8 al pad a)), (12, .int .i64 (i : Int))]) (fun i => nl - i) 0 ?_ ?_ ?_
  · exact ⟨by omega, hK⟩
  · exact (Sub.cons rfl (Sub.cons rfl (Sub.cons rfl (Sub.cons rfl (Sub.cons rfl (Sub.nil _))))))
  rintro i wi ⟨hi, hki⟩
  show C _ _ _ _ [(0, str al), (2, .slice A a.length c), (9, .int .i64 (nl : Int)), (11, str (Pl.text 5 8 al pad a)), (12, .int .i64 (i : Int))] _
  by_cases h : i < nl
  · have hlt : Pl.numF 5 (Pl.bit a) (5 * i) < 32 := num_lt a _
    have hx := text_get (block := 8) (al := al) (pad := pad) (bits := 5) (src := a) (i := i) (by omega)
    have hy := letter_get hlt hf.len
    refine C.seq ?_
    refine C.seq ?_
    refine C.reg ?_
    refine W.y (y_move rfl) rfl ?_
    refine W.y (y_move rfl) rfl ?_
    refine W.y (y_lssT rfl rfl (by omega)) rfl ?_
    refine W.fin ?_
    refine E.next ?_
    refine C.yes rfl ?_
    refine C.skip ?_
    refine E.next ?_
    refine C.seq ?_
    refine C.block ?_
    refine C.seq ?_
    refine C.any mixed ?_
    refine AN.take 0 rfl (by kernel_rfl) (by kernel_rfl) (by kernel_rfl) (fun _ => y_move rfl) rfl ?_
    refine AN.take 1 rfl (by kernel_rfl) (by kernel_rfl) (by kernel_rfl) (fun _ => y_move rfl) rfl ?_
    refine AN.take 2 rfl (by kernel_rfl) (by kernel_rfl) (by kernel_rfl) (fun _ => y_ixs' rfl rfl Try.underlying9 hx) rfl ?_
    refine AN.take 3 rfl (by kernel_rfl) (by kernel_rfl) (by kernel_rfl) (fun _ => y_move rfl) rfl ?_
    refine AN.take 4 rfl (by kernel_rfl) (by kernel_rfl) (by kernel_rfl) (fun _ => y_move rfl) rfl ?_
    refine AN.take 5 rfl (by kernel_rfl) (by kernel_rfl) (by kernel_rfl) (fun _ => y_move rfl) rfl ?_
    refine AN.take 6 rfl (by kernel_rfl) (by kernel_rfl) (by kernel_rfl) (fun _ => Does.as (y_mul rfl rfl (wi64 (by omega) (by omega))) (vint (b := ((5 * i : Nat) : Int)) (by omega))) rfl ?_
    refine AN.oneCall 7 rfl (by kernel_rfl) ent29 rfl (number_ret (bits := 5) (p := 5 * i) (hA.kept hki.drew (fun _ _ _ => id)) rfl (by omega) (by omega) (by omega)) rfl ?_
    rintro _ _ ⟨rfl, rfl⟩
    refine AN.take 8 rfl (by kernel_rfl) (by kernel_rfl) (by kernel_rfl) (fun _ => y_ixs' rfl rfl Try.underlying9 hy) rfl ?_
    refine AN.take 9 rfl (by kernel_rfl) (by kernel_rfl) (by kernel_rfl) (fun _ => y_neqF rfl rfl (by omega)) rfl ?_
    refine AN.done (by kernel_rfl) ?_
    refine E.next ?_
    refine C.no rfl ?_
    refine C.skip ?_
    refine E.blockNormal ?_
    refine E.next ?_
    refine C.reg ?_
    refine W.y (y_move rfl) rfl ?_
    refine W.y (y_add rfl rfl (wi64 (by omega) (by omega))) rfl ?_
    refine W.y (y_assign rfl) rfl ?_
    refine W.fin ?_
    exact E.again (i + 1) ⟨by omega, hki.drew⟩ (Sub.cons rfl (Sub.cons rfl (Sub.cons rfl (Sub.cons rfl (Sub.cons rfl (Sub.nil _)))))) (by omega)
  · skip
    refine C.seq ?_
    refine C.seq ?_
    refine C.reg ?_
    refine W.y (y_move rfl) rfl ?_
    refine W.y (y_move rfl) rfl ?_
    refine W.y (y_lssF rfl rfl (by omega)) rfl ?_
    refine W.fin ?_
    refine E.next ?_
    refine C.no rfl ?_
    refine C.exit ?_
    refine E.thenExit ?_
    refine E.thenExit ?_
    refine E.blockOut ?_
    refine E.next ?_
    refine C.seq ?_
    refine C.reg ?_
    refine W.y (y_assign rfl) rfl ?_
    refine W.fin ?_
    refine E.next ?_
    refine C.ret ?_
    exact E.ret1 rfl rfl ⟨rfl, hki⟩
end Go.Proofs.Ytlbnglmfbnnhjaa
