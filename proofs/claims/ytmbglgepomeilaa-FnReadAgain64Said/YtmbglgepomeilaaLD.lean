/-
  Walk: FnOneBit.
-/
import Derived.Test.YtmbglgepomeilaaLC
namespace Go.Proofs.Ytmbglgepomeilaa
open Go.RowKit

set_option maxRecDepth 4000 in
theorem fnOneBit64_ret {w : World} {A : Option Addr} {c n : Nat} {al : List UInt8} {pad z : Int} {a : List UInt8} (hal : al.length ≤ 9223372036854775807) (hA : Rd w A (bv a)) (hn : a.length = n) (hc : n ≤ c) (hN : n ≤ 140737488351232) :
    Ret Try.prog 10 #[str al, .int .i64 pad, .slice A n c, .int .i64 z] w fun v w' => v = .bool true ∧ Kp (fun _ => False) w w' := by
  subst hn
  by_cases h1 : z < 0
  · refine ret_of Try.func10 rfl Try.ntmps10 (Nat.le_of_ble_eq_true rfl) ?_
    refine C.seq ?_
    refine C.reg ?_
    refine W.y (y_assign rfl) rfl ?_
    refine W.fin ?_
    refine E.next ?_
    refine C.seq ?_
    refine C.seq ?_
    refine C.reg ?_
    refine W.y (y_move rfl) rfl ?_
    refine W.y (y_move rfl) rfl ?_
    refine W.call ent15 rfl (fit_ret (N := 64) (by omega)) rfl ?_
    rintro _ _ ⟨rfl, ⟨rfl, hf⟩ | rfl⟩
    rotate_left
    · skip
      refine W.y (y_not rfl) rfl ?_
      refine W.y (y_move rfl) rfl ?_
      refine W.gn rfl rfl rfl ?_
      refine W.gn rfl rfl rfl ?_
      refine W.y (y_pick rfl rfl) rfl ?_
      refine W.y (y_move rfl) rfl ?_
      refine W.gn rfl rfl rfl ?_
      refine W.gn rfl rfl rfl ?_
      refine W.gn rfl rfl rfl ?_
      refine W.gn rfl rfl rfl ?_
      refine W.gn rfl rfl rfl ?_
      refine W.y (y_pick rfl rfl) rfl ?_
      refine W.fin ?_
      refine E.next ?_
      refine C.yes rfl ?_
      refine C.seq ?_
      refine C.reg ?_
      refine W.y (y_assign rfl) rfl ?_
      refine W.fin ?_
      refine E.next ?_
      refine C.ret ?_
      refine E.thenRet ?_
      exact E.ret1 rfl rfl ⟨rfl, Kp.refl _ _⟩
    refine W.y (y_not rfl) rfl ?_
    refine W.y (y_move rfl) rfl ?_
    refine W.gy rfl rfl (y_move rfl) rfl ?_
    refine W.gy rfl rfl (y_lssT rfl rfl (by omega)) rfl ?_
    refine W.y (y_pick rfl rfl) rfl ?_
    refine W.y (y_move rfl) rfl ?_
    refine W.gn rfl rfl rfl ?_
    refine W.gn rfl rfl rfl ?_
    refine W.gn rfl rfl rfl ?_
    refine W.gn rfl rfl rfl ?_
    refine W.gn rfl rfl rfl ?_
    refine W.y (y_pick rfl rfl) rfl ?_
    refine W.fin ?_
    refine E.next ?_
    refine C.yes rfl ?_
    refine C.seq ?_
    refine C.reg ?_
    refine W.y (y_assign rfl) rfl ?_
    refine W.fin ?_
    refine E.next ?_
    refine C.ret ?_
    refine E.thenRet ?_
    exact E.ret1 rfl rfl ⟨rfl, Kp.refl _ _⟩
  by_cases h2 : 8 * (a.length : Int) ≤ z
  · refine ret_of Try.func10 rfl Try.ntmps10 (Nat.le_of_ble_eq_true rfl) ?_
    refine C.seq ?_
    refine C.reg ?_
    refine W.y (y_assign rfl) rfl ?_
    refine W.fin ?_
    refine E.next ?_
    refine C.seq ?_
    refine C.seq ?_
    refine C.reg ?_
    refine W.y (y_move rfl) rfl ?_
    refine W.y (y_move rfl) rfl ?_
    refine W.call ent15 rfl (fit_ret (N := 64) (by omega)) rfl ?_
    rintro _ _ ⟨rfl, ⟨rfl, hf⟩ | rfl⟩
    rotate_left
    · skip
      refine W.y (y_not rfl) rfl ?_
      refine W.y (y_move rfl) rfl ?_
      refine W.gn rfl rfl rfl ?_
      refine W.gn rfl rfl rfl ?_
      refine W.y (y_pick rfl rfl) rfl ?_
      refine W.y (y_move rfl) rfl ?_
      refine W.gn rfl rfl rfl ?_
      refine W.gn rfl rfl rfl ?_
      refine W.gn rfl rfl rfl ?_
      refine W.gn rfl rfl rfl ?_
      refine W.gn rfl rfl rfl ?_
      refine W.y (y_pick rfl rfl) rfl ?_
      refine W.fin ?_
      refine E.next ?_
      refine C.yes rfl ?_
      refine C.seq ?_
      refine C.reg ?_
      refine W.y (y_assign rfl) rfl ?_
      refine W.fin ?_
      refine E.next ?_
      refine C.ret ?_
      refine E.thenRet ?_
      exact E.ret1 rfl rfl ⟨rfl, Kp.refl _ _⟩
    refine W.y (y_not rfl) rfl ?_
    refine W.y (y_move rfl) rfl ?_
    refine W.gy rfl rfl (y_move rfl) rfl ?_
    refine W.gy rfl rfl (y_lssF rfl rfl (by omega)) rfl ?_
    refine W.y (y_pick rfl rfl) rfl ?_
    refine W.y (y_move rfl) rfl ?_
    refine W.gy rfl rfl (y_move rfl) rfl ?_
    refine W.gy rfl rfl (y_move rfl) rfl ?_
    refine W.gy rfl rfl (y_len rfl Try.underlying24) rfl ?_
    refine W.gy rfl rfl (y_mul rfl rfl (wi64 (by omega) (by omega))) rfl ?_
    refine W.gy rfl rfl (y_geqT rfl rfl (by omega)) rfl ?_
    refine W.y (y_pick rfl rfl) rfl ?_
    refine W.fin ?_
    refine E.next ?_
    refine C.yes rfl ?_
    refine C.seq ?_
    refine C.reg ?_
    refine W.y (y_assign rfl) rfl ?_
    refine W.fin ?_
    refine E.next ?_
    refine C.ret ?_
    refine E.thenRet ?_
    exact E.ret1 rfl rfl ⟨rfl, Kp.refl _ _⟩
  obtain ⟨k, rfl⟩ : ∃ k : Nat, z = k := ⟨z.toNat, by omega⟩
  have hk8 : k / 8 < a.length := by omega
  obtain ⟨e, he⟩ : ∃ e, a[k / 8]? = some e := ⟨_, List.getElem?_eq_getElem hk8⟩
  have he8 : e.toNat < 256 := e.toNat_lt
  obtain ⟨v1, x1, hr1, ho1, hg1, ha1⟩ := run_app (P := Try.prog) (w := w) (ty := 24) (c := c) el24 (Own.nil w 5) hA (one_u8 a) (by simp only [bv_length, List.length_nil]; omega) (by omega)
  rw [bv_length] at hr1
  rw [List.nil_append] at ho1
  have hk1 : Kp (fun _ => False) w x1 := grown_kp hg1 (fun _ e => by cases e)
  rcases ho1.form with ⟨_, e0⟩ | ⟨g, cap, cs, e1, hb1, hl1, hcs1, hcc⟩
  · have := congrArg List.length e0; rw [bv_length] at this; simp at this; simp [this] at hk8
  rw [bv_length] at e1 hl1
  subst e1
  have hgw : w.heap.size ≤ g := by
    rcases ha1 with e1 | e1
    · cases e1
    · have e2 : g = w.heap.size := Option.some.inj e1
      omega
  have hcell : x1.cell? ⟨g, 0 + k / 8, none⟩ = some (u8 e) := by rw [Nat.zero_add]; exact hb1.at_ (hcc _ _ (by simp [bv, he]))
  obtain ⟨nb, hnb⟩ : ∃ nb, nb = e.toNat ^^^ 128 / 2 ^ (k % 8) := ⟨_, rfl⟩
  have hnl : nb < 256 := by rw [hnb]; exact xor8 he8 (shr8 _)
  have hb2 := Bk.set hb1 (0 + k / 8) (.int .u8 (nb : Int))
  have hro : Rd (x1.setCell ⟨g, 0 + k / 8, none⟩ (.int .u8 (nb : Int))) (some ⟨g, 0, none⟩) (bv (a.set (k / 8) (UInt8.ofNat nb))) := Rd.of_bs (Bs.of_row hb2 (fun j x hx => by
    rw [Nat.zero_add, Nat.zero_add, Array.getElem?_setIfInBounds]
    by_cases hj : k / 8 = j
    · subst hj
      rw [List.getElem?_set_self hk8] at hx
      injection hx with hx
      rw [if_pos rfl, if_pos (by omega), ← hx]
      unfold u8
      rw [byte_of hnl]
    · rw [List.getElem?_set_ne hj] at hx
      rw [if_neg hj]
      exact hcc _ _ (by simp [bv, hx])))
  have hkx : Kp (fun _ => False) w (x1.setCell ⟨g, 0 + k / 8, none⟩ (.int .u8 (nb : Int))) := hk1.set (.inr hgw) _
  have hbit := bit_set (k := k) he (c' := UInt8.ofNat nb) (by rw [byte_of hnl, hnb])
  have hol : (a.set (k / 8) (UInt8.ofNat nb)).length = a.length := List.length_set
  generalize a.set (k / 8) (UInt8.ofNat nb) = ot at *
  have htg := text_ge (bits := 6) (block := 4) (al := al) (pad := pad) (src := a)
  have hng : Pl.nlet 6 a.length = (8 * a.length + 5) / 6 := rfl
  have hle := encLen64_le pad a.length
  refine ret_of Try.func10 rfl Try.ntmps10 (Nat.le_of_ble_eq_true rfl) ?_
  refine C.seq ?_
  refine C.reg ?_
  refine W.y (y_assign rfl) rfl ?_
  refine W.fin ?_
  refine E.next ?_
  refine C.seq ?_
  refine C.seq ?_
  refine C.reg ?_
  refine W.y (y_move rfl) rfl ?_
  refine W.y (y_move rfl) rfl ?_
  refine W.call ent15 rfl (fit_ret (N := 64) (by omega)) rfl ?_
  rintro _ _ ⟨rfl, ⟨rfl, hf⟩ | rfl⟩
  rotate_left
  · skip
    refine W.y (y_not rfl) rfl ?_
    refine W.y (y_move rfl) rfl ?_
    refine W.gn rfl rfl rfl ?_
    refine W.gn rfl rfl rfl ?_
    refine W.y (y_pick rfl rfl) rfl ?_
    refine W.y (y_move rfl) rfl ?_
    refine W.gn rfl rfl rfl ?_
    refine W.gn rfl rfl rfl ?_
    refine W.gn rfl rfl rfl ?_
    refine W.gn rfl rfl rfl ?_
    refine W.gn rfl rfl rfl ?_
    refine W.y (y_pick rfl rfl) rfl ?_
    refine W.fin ?_
    refine E.next ?_
    refine C.yes rfl ?_
    refine C.seq ?_
    refine C.reg ?_
    refine W.y (y_assign rfl) rfl ?_
    refine W.fin ?_
    refine E.next ?_
    refine C.ret ?_
    refine E.thenRet ?_
    exact E.ret1 rfl rfl ⟨rfl, Kp.refl _ _⟩
  refine W.y (y_not rfl) rfl ?_
  refine W.y (y_move rfl) rfl ?_
  refine W.gy rfl rfl (y_move rfl) rfl ?_
  refine W.gy rfl rfl (y_lssF rfl rfl (by omega)) rfl ?_
  refine W.y (y_pick rfl rfl) rfl ?_
  refine W.y (y_move rfl) rfl ?_
  refine W.gy rfl rfl (y_move rfl) rfl ?_
  refine W.gy rfl rfl (y_move rfl) rfl ?_
  refine W.gy rfl rfl (y_len rfl Try.underlying24) rfl ?_
  refine W.gy rfl rfl (y_mul rfl rfl (wi64 (by omega) (by omega))) rfl ?_
  refine W.gy rfl rfl (y_geqF rfl rfl (by omega)) rfl ?_
  refine W.y (y_pick rfl rfl) rfl ?_
  refine W.fin ?_
  refine E.next ?_
  refine C.no rfl ?_
  refine C.skip ?_
  refine E.next ?_
  refine C.seq ?_
  refine C.reg ?_
  refine W.y (y_move rfl) rfl ?_
  refine W.y (y_app rfl rfl hr1) rfl ?_
  refine W.y (y_assign rfl) rfl ?_
  refine W.fin ?_
  refine E.next ?_
  refine C.seq ?_
  refine C.reg ?_
  refine W.y (y_move rfl) rfl ?_
  refine W.y (y_move rfl) rfl ?_
  refine W.y (Does.as (y_quo rfl rfl (by omega) (by omega) (by omega)) (vint (b := ((k / 8 : Nat) : Int)) (by omega))) rfl ?_
  refine W.y (y_ixn rfl rfl Try.underlying24 siz5 (by omega)) rfl ?_
  refine W.y (y_load rfl pl5 hcell) rfl ?_
  refine W.y (y_move rfl) rfl ?_
  refine W.y (Does.as (y_rem rfl rfl (by omega) (by omega)) (vint (b := ((k % 8 : Nat) : Int)) (by omega))) rfl ?_
  refine W.y (y_convN uk64 rfl Try.underlying3 Try.underlying35 (by omega)) rfl ?_
  refine W.y (y_shr uk8 (a := 128) (s := k % 8) rfl rfl (by omega)) rfl ?_
  refine W.y (Does.as (y_xor uk8 rfl rfl he8 (shr8 _)) (vint (b := (nb : Int)) (by rw [hnb]))) rfl ?_
  refine W.y (y_ixn rfl rfl Try.underlying24 siz5 (by omega)) rfl ?_
  refine W.s (s_store rfl rfl rfl siz5 (Bk.some hb1 (by omega)) (Bk.melt hb1)) ?_
  refine W.fin ?_
  refine E.next ?_
  refine C.seq ?_
  refine C.reg ?_
  refine W.y (y_move rfl) rfl ?_
  refine W.y (y_move rfl) rfl ?_
  refine W.y (y_move rfl) rfl ?_
  refine W.call ent27 rfl (encodeImpl64_ret hf (hA.kept hkx (fun _ _ _ => id)) rfl hc (by omega)) rfl ?_
  rintro _ w1 ⟨rfl, hw1⟩
  refine W.y (y_assign rfl) rfl ?_
  refine W.fin ?_
  refine E.next ?_
  refine C.seq ?_
  refine C.reg ?_
  refine W.y (y_move rfl) rfl ?_
  refine W.y (y_move rfl) rfl ?_
  refine W.y (y_move rfl) rfl ?_
  refine W.call ent27 rfl (encodeImpl64_ret hf (hro.kept hw1 (fun _ _ _ => id)) hol (by omega) (by omega)) rfl ?_
  rintro _ w2 ⟨rfl, hw2⟩
  have hta := text_length64 (al := al) hf.lo a
  have hto := text_length64 (al := al) hf.lo ot
  rw [hol] at hto
  refine W.y (y_assign rfl) rfl ?_
  refine W.fin ?_
  refine E.next ?_
  refine C.seq ?_
  refine C.seq ?_
  refine C.reg ?_
  refine W.y (y_move rfl) rfl ?_
  refine W.y (y_len' rfl Try.underlying9) rfl ?_
  refine W.y (y_move rfl) rfl ?_
  refine W.y (y_len' rfl Try.underlying9) rfl ?_
  refine W.y (y_neqF rfl rfl (by omega)) rfl ?_
  refine W.y (y_move rfl) rfl ?_
  refine W.gy rfl rfl (y_move rfl) rfl ?_
  refine W.gy rfl rfl (Does.as (y_quo rfl rfl (by omega) (by omega) (by omega)) (vint (b := ((k / 6 : Nat) : Int)) (by omega))) rfl ?_
  refine W.gy rfl rfl (y_move rfl) rfl ?_
  refine W.gy rfl rfl (y_len' rfl Try.underlying9) rfl ?_
  refine W.gy rfl rfl (y_geqF rfl rfl (by omega)) rfl ?_
  refine W.y (y_pick rfl rfl) rfl ?_
  refine W.fin ?_
  refine E.next ?_
  refine C.no rfl ?_
  refine C.skip ?_
  refine E.next ?_
  refine C.seq ?_
  refine C.seq ?_
  refine C.reg ?_
  refine W.y (y_move rfl) rfl ?_
  refine W.y (y_len' rfl Try.underlying9) rfl ?_
  refine W.y (y_move rfl) rfl ?_
  refine W.fin ?_
  refine E.next ?_
  refine C.block ?_
  refine C.loop (σ := Nat) (fun i w' => i ≤ (Pl.text 6 4 al pad a).length ∧ Kp (fun _ => False) w w') (fun i => [(3, .int .i64 (k : Int)), (10, str (Pl.text 6 4 al pad a)), (11, str (Pl.text 6 4 al pad ot)), (62, .int .i64 ((Pl.text 6 4 al pad a).length : Int)), (63, .int .i64 (i : Int))]) (fun i => (Pl.text 6 4 al pad a).length - i) 0 ?_ ?_ ?_
  · exact ⟨by omega, (hkx.trans hw1).trans hw2⟩
  · exact (Sub.cons rfl (Sub.cons rfl (Sub.cons rfl (Sub.cons rfl (Sub.cons rfl (Sub.nil _))))))
  rintro i wi ⟨hi, hki⟩
  show C _ _ _ _ [(3, .int .i64 (k : Int)), (10, str (Pl.text 6 4 al pad a)), (11, str (Pl.text 6 4 al pad ot)), (62, .int .i64 ((Pl.text 6 4 al pad a).length : Int)), (63, .int .i64 (i : Int))] _
  by_cases h : i < (Pl.text 6 4 al pad a).length
  · obtain ⟨x, hx⟩ : ∃ x, (Pl.text 6 4 al pad a)[i]? = some x := ⟨_, List.getElem?_eq_getElem h⟩
    obtain ⟨y, hy⟩ : ∃ y, (Pl.text 6 4 al pad ot)[i]? = some y := ⟨_, List.getElem?_eq_getElem (by omega)⟩
    have hxy := onebit (bits := 6) (by omega) rfl hf hol.symm (by omega) hbit hx hy
    by_cases hik : i = k / 6
    · have hne : ¬ (x.toNat : Int) = y.toNat := fun q => absurd hik (hxy.1 (UInt8.toNat_inj.1 (by omega)))
      refine C.seq ?_
      refine C.reg ?_
      refine W.y (y_lssT rfl rfl (by omega)) rfl ?_
      refine W.fin ?_
      refine E.next ?_
      refine C.seq ?_
      refine C.yes rfl ?_
      refine C.skip ?_
      refine E.next ?_
      refine C.seq ?_
      refine C.block ?_
      refine C.seq ?_
      refine C.reg ?_
      refine W.y (y_move rfl) rfl ?_
      refine W.y (y_assign rfl) rfl ?_
      refine W.fin ?_
      refine E.next ?_
      refine C.seq ?_
      refine C.still mixed (by kernel_rfl) ?_
      refine S.y (y_move rfl) rfl ?_
      refine S.y (y_move rfl) rfl ?_
      refine S.y (y_ixs' rfl rfl Try.underlying9 hx) rfl ?_
      refine S.y (y_move rfl) rfl ?_
      refine S.y (y_move rfl) rfl ?_
      refine S.y (y_ixs' rfl rfl Try.underlying9 hy) rfl ?_
      refine S.y (y_eqlF rfl rfl (by omega)) rfl ?_
      refine S.y (y_move rfl) rfl ?_
      refine S.y (y_move rfl) rfl ?_
      refine S.y (Does.as (y_quo rfl rfl (by omega) (by omega) (by omega)) (vint (b := ((k / 6 : Nat) : Int)) (by omega))) rfl ?_
      refine S.y (y_eqlT rfl rfl (by omega)) rfl ?_
      refine S.y (y_eqbool rfl rfl Try.underlying4) rfl ?_
      refine S.end_ ?_
      refine E.next ?_
      refine C.no rfl ?_
      refine C.skip ?_
      refine E.blockNormal ?_
      refine E.next ?_
      refine C.reg ?_
      refine W.y (y_add rfl rfl (wi64 (by omega) (by omega))) rfl ?_
      refine W.y (y_move rfl) rfl ?_
      refine W.fin ?_
      exact E.again (i + 1) ⟨by omega, hki.drew⟩ (Sub.cons rfl (Sub.cons rfl (Sub.cons rfl (Sub.cons rfl (Sub.cons rfl (Sub.nil _)))))) (by omega)
    · have hne : (x.toNat : Int) = y.toNat := by rw [hxy.2 hik]
      refine C.seq ?_
      refine C.reg ?_
      refine W.y (y_lssT rfl rfl (by omega)) rfl ?_
      refine W.fin ?_
      refine E.next ?_
      refine C.seq ?_
      refine C.yes rfl ?_
      refine C.skip ?_
      refine E.next ?_
      refine C.seq ?_
      refine C.block ?_
      refine C.seq ?_
      refine C.reg ?_
      refine W.y (y_move rfl) rfl ?_
      refine W.y (y_assign rfl) rfl ?_
      refine W.fin ?_
      refine E.next ?_
      refine C.seq ?_
      refine C.still mixed (by kernel_rfl) ?_
      refine S.y (y_move rfl) rfl ?_
      refine S.y (y_move rfl) rfl ?_
      refine S.y (y_ixs' rfl rfl Try.underlying9 hx) rfl ?_
      refine S.y (y_move rfl) rfl ?_
      refine S.y (y_move rfl) rfl ?_
      refine S.y (y_ixs' rfl rfl Try.underlying9 hy) rfl ?_
      refine S.y (y_eqlT rfl rfl (by omega)) rfl ?_
      refine S.y (y_move rfl) rfl ?_
      refine S.y (y_move rfl) rfl ?_
      refine S.y (Does.as (y_quo rfl rfl (by omega) (by omega) (by omega)) (vint (b := ((k / 6 : Nat) : Int)) (by omega))) rfl ?_
      refine S.y (y_eqlF rfl rfl (by omega)) rfl ?_
      refine S.y (y_eqbool rfl rfl Try.underlying4) rfl ?_
      refine S.end_ ?_
      refine E.next ?_
      refine C.no rfl ?_
      refine C.skip ?_
      refine E.blockNormal ?_
      refine E.next ?_
      refine C.reg ?_
      refine W.y (y_add rfl rfl (wi64 (by omega) (by omega))) rfl ?_
      refine W.y (y_move rfl) rfl ?_
      refine W.fin ?_
      exact E.again (i + 1) ⟨by omega, hki.drew⟩ (Sub.cons rfl (Sub.cons rfl (Sub.cons rfl (Sub.cons rfl (Sub.cons rfl (Sub.nil _)))))) (by omega)
  · skip
    refine C.seq ?_
    refine C.reg ?_
    refine W.y (y_lssF rfl rfl (by omega)) rfl ?_
    refine W.fin ?_
    refine E.next ?_
    refine C.seq ?_
    refine C.no rfl ?_
    refine C.exit ?_
    refine E.thenExit ?_
    refine E.thenExit ?_
    refine E.blockOut ?_
    refine E.next ?_
    refine C.seq ?_
    refine C.reg ?_
    refine W.y (y_assign rfl) rfl ?_
    refine W.fin ?_
    refine E.next ?_
    refine C.ret ?_
    exact E.ret1 rfl rfl ⟨rfl, hki⟩
end Go.Proofs.Ytmbglgepomeilaa
