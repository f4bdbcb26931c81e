/-
  Walks: place, FnXor.
-/
import Derived.Test.YtmbglgepomeilaaLD
namespace Go.Proofs.Ytmbglgepomeilaa
open Go.RowKit
theorem ent29 : Enters Try.prog 29 := enters_of Try.func29 (by kernel_rfl) rfl

theorem place_ret {w : World} {N i : Nat} {al : List UInt8} {pad : Int} {ch : UInt8} (hf : Fit N al pad) (hN : N ≤ 64) (hi : al[i]? = some ch) :
    Ret Try.prog 29 #[str al, u8 ch] w fun v w' => v = .int .i64 (i : Int) ∧ w = w' := by
  have hil := get_lt hi
  have hlen := hf.len
  refine ret_of Try.func29 rfl Try.ntmps29 (Nat.le_of_ble_eq_true rfl) ?_
  refine C.seq ?_
  refine C.reg ?_
  refine W.y (y_assign rfl) rfl ?_
  refine W.fin ?_
  refine E.next ?_
  refine C.seq ?_
  refine C.seq ?_
  refine C.reg ?_
  refine W.y (y_move rfl) rfl ?_
  refine W.y (y_len' rfl Try.underlying9) rfl ?_
  refine W.y (y_move rfl) rfl ?_
  refine W.fin ?_
  refine E.next ?_
  refine C.block ?_
  refine C.loop (σ := Nat) (fun j w' => j ≤ i ∧ w = w') (fun j => [(0, str al), (1, u8 ch), (7, .int .i64 (al.length : Int)), (8, .int .i64 (j : Int))]) (fun j => i - j) 0 ?_ ?_ ?_
  · exact ⟨by omega, rfl⟩
  · exact (Sub.cons rfl (Sub.cons rfl (Sub.cons rfl (Sub.cons rfl (Sub.nil _)))))
  rintro j _ ⟨hj, rfl⟩
  show C _ _ _ _ [(0, str al), (1, u8 ch), (7, .int .i64 (al.length : Int)), (8, .int .i64 (j : Int))] _
  obtain ⟨d, hd⟩ : ∃ d, al[j]? = some d := ⟨_, List.getElem?_eq_getElem (by omega)⟩
  by_cases e : j = i
  · subst e
    have hdc : (d.toNat : Int) = ch.toNat := by rw [hd] at hi; injection hi with hi; rw [hi]
    refine C.seq ?_
    refine C.reg ?_
    refine W.y (y_lssT rfl rfl (by omega)) rfl ?_
    refine W.fin ?_
    refine E.next ?_
    refine C.seq ?_
    refine C.yes rfl ?_
    refine C.skip ?_
    refine E.next ?_
    refine C.seq ?_
    refine C.block ?_
    refine C.seq ?_
    refine C.reg ?_
    refine W.y (y_move rfl) rfl ?_
    refine W.y (y_assign rfl) rfl ?_
    refine W.fin ?_
    refine E.next ?_
    refine C.seq ?_
    refine C.reg ?_
    refine W.y (y_move rfl) rfl ?_
    refine W.y (y_move rfl) rfl ?_
    refine W.y (y_ixs' rfl rfl Try.underlying9 hd) rfl ?_
    refine W.y (y_move rfl) rfl ?_
    refine W.y (y_eqlT rfl rfl (by omega)) rfl ?_
    refine W.fin ?_
    refine E.next ?_
    refine C.yes rfl ?_
    refine C.seq ?_
    refine C.reg ?_
    refine W.y (y_move rfl) rfl ?_
    refine W.y (y_assign rfl) rfl ?_
    refine W.fin ?_
    refine E.next ?_
    refine C.ret ?_
    refine E.blockRet ?_
    refine E.thenRet ?_
    refine E.thenRet ?_
    refine E.blockRet ?_
    refine E.thenRet ?_
    exact E.ret1 rfl rfl ⟨rfl, rfl⟩
  · have hdc : ¬ (d.toNat : Int) = ch.toNat := fun q => hf.nodup j i d ch (by omega) hd hi (UInt8.toNat_inj.1 (by omega))
    refine C.seq ?_
    refine C.reg ?_
    refine W.y (y_lssT rfl rfl (by omega)) rfl ?_
    refine W.fin ?_
    refine E.next ?_
    refine C.seq ?_
    refine C.yes rfl ?_
    refine C.skip ?_
    refine E.next ?_
    refine C.seq ?_
    refine C.block ?_
    refine C.seq ?_
    refine C.reg ?_
    refine W.y (y_move rfl) rfl ?_
    refine W.y (y_assign rfl) rfl ?_
    refine W.fin ?_
    refine E.next ?_
    refine C.seq ?_
    refine C.reg ?_
    refine W.y (y_move rfl) rfl ?_
    refine W.y (y_move rfl) rfl ?_
    refine W.y (y_ixs' rfl rfl Try.underlying9 hd) rfl ?_
    refine W.y (y_move rfl) rfl ?_
    refine W.y (y_eqlF rfl rfl (by omega)) rfl ?_
    refine W.fin ?_
    refine E.next ?_
    refine C.no rfl ?_
    refine C.skip ?_
    refine E.blockNormal ?_
    refine E.next ?_
    refine C.reg ?_
    refine W.y (y_add rfl rfl (wi64 (by omega) (by omega))) rfl ?_
    refine W.y (y_move rfl) rfl ?_
    refine W.fin ?_
    exact E.again (j + 1) ⟨by omega, rfl⟩ (Sub.cons rfl (Sub.cons rfl (Sub.cons rfl (Sub.cons rfl (Sub.nil _))))) (by omega)
set_option maxRecDepth 4000 in
theorem fnXor64_ret {w : World} {A A2 : Option Addr} {c n c2 n2 : Nat} {al : List UInt8} {pad : Int} {a b : List UInt8} (hal : al.length ≤ 9223372036854775807) (hA : Rd w A (bv a)) (hn : a.length = n) (hc : n ≤ c) (hN : n ≤ 140737488351232) (hB : Rd w A2 (bv b)) (hn2 : b.length = n2) (hc2 : n2 ≤ c2) (hN2 : n2 ≤ 140737488351232) :
    Ret Try.prog 13 #[str al, .int .i64 pad, .slice A n c, .slice A2 n2 c2] w fun v w' => v = .bool true ∧ Kp (fun _ => False) w w' := by
  subst hn hn2
  by_cases hab : a.length = b.length
  rotate_left
  · refine ret_of Try.func13 rfl Try.ntmps13 (Nat.le_of_ble_eq_true rfl) ?_
    refine C.seq ?_
    refine C.reg ?_
    refine W.y (y_assign rfl) rfl ?_
    refine W.fin ?_
    refine E.next ?_
    refine C.seq ?_
    refine C.seq ?_
    refine C.reg ?_
    refine W.y (y_move rfl) rfl ?_
    refine W.y (y_move rfl) rfl ?_
    refine W.call ent15 rfl (fit_ret (N := 64) (by omega)) rfl ?_
    rintro _ _ ⟨rfl, ⟨rfl, hf⟩ | rfl⟩
    rotate_left
    · skip
      refine W.y (y_not rfl) rfl ?_
      refine W.y (y_move rfl) rfl ?_
      refine W.gn rfl rfl rfl ?_
      refine W.gn rfl rfl rfl ?_
      refine W.gn rfl rfl rfl ?_
      refine W.gn rfl rfl rfl ?_
      refine W.gn rfl rfl rfl ?_
      refine W.y (y_pick rfl rfl) rfl ?_
      refine W.fin ?_
      refine E.next ?_
      refine C.yes rfl ?_
      refine C.seq ?_
      refine C.reg ?_
      refine W.y (y_assign rfl) rfl ?_
      refine W.fin ?_
      refine E.next ?_
      refine C.ret ?_
      refine E.thenRet ?_
      exact E.ret1 rfl rfl ⟨rfl, Kp.refl _ _⟩
    refine W.y (y_not rfl) rfl ?_
    refine W.y (y_move rfl) rfl ?_
    refine W.gy rfl rfl (y_move rfl) rfl ?_
    refine W.gy rfl rfl (y_len rfl Try.underlying24) rfl ?_
    refine W.gy rfl rfl (y_move rfl) rfl ?_
    refine W.gy rfl rfl (y_len rfl Try.underlying24) rfl ?_
    refine W.gy rfl rfl (y_neqT rfl rfl (by omega)) rfl ?_
    refine W.y (y_pick rfl rfl) rfl ?_
    refine W.fin ?_
    refine E.next ?_
    refine C.yes rfl ?_
    refine C.seq ?_
    refine C.reg ?_
    refine W.y (y_assign rfl) rfl ?_
    refine W.fin ?_
    refine E.next ?_
    refine C.ret ?_
    refine E.thenRet ?_
    exact E.ret1 rfl rfl ⟨rfl, Kp.refl _ _⟩
  obtain ⟨z, _, hzs, hmk⟩ := run_makeN (P := Try.prog) (w := w) (t := 24) (N := a.length) (k := .i64) (k' := .i64) el24 (by omega) (by omega)
  have hms := made_size (N := a.length) hzs
  have hD : Bk (w.alloc (.cells (madeCells z.cells a.length) 5)) w.heap.size (madeCells z.cells a.length) 5 (0, 0) := Bk.new _ _ _
  have hka : Kp (fun _ => False) w (w.alloc (.cells (madeCells z.cells a.length) 5)) := (Kp.refl _ w).alloc _
  have hxl := xors_length hab
  refine ret_of Try.func13 rfl Try.ntmps13 (Nat.le_of_ble_eq_true rfl) ?_
  refine C.seq ?_
  refine C.reg ?_
  refine W.y (y_assign rfl) rfl ?_
  refine W.fin ?_
  refine E.next ?_
  refine C.seq ?_
  refine C.seq ?_
  refine C.reg ?_
  refine W.y (y_move rfl) rfl ?_
  refine W.y (y_move rfl) rfl ?_
  refine W.call ent15 rfl (fit_ret (N := 64) (by omega)) rfl ?_
  rintro _ _ ⟨rfl, ⟨rfl, hf⟩ | rfl⟩
  rotate_left
  · skip
    refine W.y (y_not rfl) rfl ?_
    refine W.y (y_move rfl) rfl ?_
    refine W.gn rfl rfl rfl ?_
    refine W.gn rfl rfl rfl ?_
    refine W.gn rfl rfl rfl ?_
    refine W.gn rfl rfl rfl ?_
    refine W.gn rfl rfl rfl ?_
    refine W.y (y_pick rfl rfl) rfl ?_
    refine W.fin ?_
    refine E.next ?_
    refine C.yes rfl ?_
    refine C.seq ?_
    refine C.reg ?_
    refine W.y (y_assign rfl) rfl ?_
    refine W.fin ?_
    refine E.next ?_
    refine C.ret ?_
    refine E.thenRet ?_
    exact E.ret1 rfl rfl ⟨rfl, Kp.refl _ _⟩
  refine W.y (y_not rfl) rfl ?_
  refine W.y (y_move rfl) rfl ?_
  refine W.gy rfl rfl (y_move rfl) rfl ?_
  refine W.gy rfl rfl (y_len rfl Try.underlying24) rfl ?_
  refine W.gy rfl rfl (y_move rfl) rfl ?_
  refine W.gy rfl rfl (y_len rfl Try.underlying24) rfl ?_
  refine W.gy rfl rfl (y_neqF rfl rfl (by omega)) rfl ?_
  refine W.y (y_pick rfl rfl) rfl ?_
  refine W.fin ?_
  refine E.next ?_
  refine C.no rfl ?_
  refine C.skip ?_
  refine E.next ?_
  refine C.seq ?_
  refine C.reg ?_
  refine W.y (y_move rfl) rfl ?_
  refine W.y (y_len rfl Try.underlying24) rfl ?_
  refine W.y (y_make rfl rfl hmk) rfl ?_
  refine W.y (y_assign rfl) rfl ?_
  refine W.fin ?_
  refine E.next ?_
  refine C.seq ?_
  refine C.seq ?_
  refine C.reg ?_
  refine W.y (y_move rfl) rfl ?_
  refine W.y (y_len rfl Try.underlying24) rfl ?_
  refine W.y (y_move rfl) rfl ?_
  refine W.fin ?_
  refine E.next ?_
  refine C.block ?_
  refine C.loop (σ := Nat) (fun i w' => i ≤ a.length ∧ Kp (fun _ => False) w w' ∧ ∃ cs : Array Value, Bk w' w.heap.size cs 5 (0, 0) ∧ cs.size = a.length ∧ ∀ (j : Nat) (x : UInt8), j < i → (xors a b)[j]? = some x → cs[j]? = some (u8 x)) (fun i => [(0, str al), (1, .int .i64 pad), (2, .slice A a.length c), (3, .slice A2 b.length c2), (9, .slice (some ⟨w.heap.size, 0, none⟩) a.length a.length), (31, .int .i64 (a.length : Int)), (32, .int .i64 (i : Int))]) (fun i => a.length - i) 0 ?_ ?_ ?_
  · exact ⟨by omega, hka, _, hD, hms, fun j x h => by omega⟩
  · exact (Sub.cons rfl (Sub.cons rfl (Sub.cons rfl (Sub.cons rfl (Sub.cons rfl (Sub.cons rfl (Sub.cons rfl (Sub.nil _))))))))
  rintro i wi ⟨hi, hki, cs, hbi, hsz, hcs⟩
  show C _ _ _ _ [(0, str al), (1, .int .i64 pad), (2, .slice A a.length c), (3, .slice A2 b.length c2), (9, .slice (some ⟨w.heap.size, 0, none⟩) a.length a.length), (31, .int .i64 (a.length : Int)), (32, .int .i64 (i : Int))] _
  by_cases h : i < a.length
  · obtain ⟨x, hx⟩ : ∃ x, a[i]? = some x := ⟨_, List.getElem?_eq_getElem h⟩
    obtain ⟨y, hy⟩ : ∃ y, b[i]? = some y := ⟨_, List.getElem?_eq_getElem (by omega)⟩
    obtain ⟨ga, oa, rfl, hba⟩ := (hA.kept hki.drew (fun _ _ _ => id)).at_ h
    obtain ⟨gb, ob, rfl, hbb⟩ := (hB.kept hki.drew (fun _ _ _ => id)).at_ (i := i) (by omega)
    have hx8 : x.toNat < 256 := x.toNat_lt
    have hy8 : y.toNat < 256 := y.toNat_lt
    have hxy := xors_get hx hy
    refine C.seq ?_
    refine C.reg ?_
    refine W.y (y_lssT rfl rfl (by omega)) rfl ?_
    refine W.fin ?_
    refine E.next ?_
    refine C.seq ?_
    refine C.yes rfl ?_
    refine C.skip ?_
    refine E.next ?_
    refine C.seq ?_
    refine C.block ?_
    refine C.seq ?_
    refine C.reg ?_
    refine W.y (y_move rfl) rfl ?_
    refine W.y (y_assign rfl) rfl ?_
    refine W.fin ?_
    refine E.next ?_
    refine C.stillTail 12 mixed (by kernel_rfl) ?_
    refine S.y (y_move rfl) rfl ?_
    refine S.y (y_move rfl) rfl ?_
    refine S.y (y_move rfl) rfl ?_
    refine S.y (y_move rfl) rfl ?_
    refine S.y (y_ixn rfl rfl Try.underlying24 siz5 (by omega)) rfl ?_
    refine S.y (y_load rfl pl5 (hba i x hx)) rfl ?_
    refine S.y (y_move rfl) rfl ?_
    refine S.y (y_move rfl) rfl ?_
    refine S.y (y_ixn rfl rfl Try.underlying24 siz5 (by omega)) rfl ?_
    refine S.y (y_load rfl pl5 (hbb i y hy)) rfl ?_
    refine S.y (y_xor uk8 rfl rfl hx8 hy8) rfl ?_
    refine S.y (y_ixn rfl rfl Try.underlying24 siz5 (by omega)) rfl ?_
    refine S.tail ?_
    refine W.s (s_store rfl rfl rfl siz5 (Bk.some hbi.drew (by omega)) (Bk.melt hbi.drew)) ?_
    refine W.fin ?_
    refine E.blockNormal ?_
    refine E.next ?_
    refine C.reg ?_
    refine W.y (y_add rfl rfl (wi64 (by omega) (by omega))) rfl ?_
    refine W.y (y_move rfl) rfl ?_
    refine W.fin ?_
    refine E.again (i + 1) ⟨by omega, hki.drew.set (.inr (Nat.le_refl _)) _, _, Bk.set hbi.drew (0 + i) _, by rw [Array.size_setIfInBounds, hsz], fun j q hj hq => ?_⟩ (Sub.cons rfl (Sub.cons rfl (Sub.cons rfl (Sub.cons rfl (Sub.cons rfl (Sub.cons rfl (Sub.cons rfl (Sub.nil _)))))))) (by omega)
    rw [Nat.zero_add, Array.getElem?_setIfInBounds]
    by_cases e : i = j
    · subst e
      rw [hxy] at hq
      injection hq with hq
      rw [if_pos rfl, if_pos (by omega), ← hq]
      unfold u8
      rw [UInt8.toNat_xor]
    · rw [if_neg e]
      exact hcs j q (by omega) hq
  · have hrx : Rd wi (some ⟨w.heap.size, 0, none⟩) (bv (xors a b)) := Rd.of_bs (Bs.of_row hbi (fun j x hx => by rw [Nat.zero_add]; exact hcs j x (by have := get_lt hx; omega) hx))
    have hta := text_length64 (al := al) hf.lo a
    have htb := text_length64 (al := al) hf.lo b
    have htz := text_length64 (al := al) hf.lo (xors a b)
    rw [hxl] at htz
    rw [← hab] at htb
    have htg := text_ge (bits := 6) (block := 4) (al := al) (pad := pad) (src := a)
    have hd1 := text_drop_eq (bits := 6) (block := 4) (al := al) (pad := pad) hab
    have hd2 := text_drop_eq (bits := 6) (block := 4) (al := al) (pad := pad) hxl.symm
    obtain ⟨nl, hnl⟩ : ∃ nl, nl = Pl.nlet 6 a.length := ⟨_, rfl⟩
    have hng : nl = (8 * a.length + 5) / 6 := hnl
    rw [← hnl] at htg hd1 hd2
    refine C.seq ?_
    refine C.reg ?_
    refine W.y (y_lssF rfl rfl (by omega)) rfl ?_
    refine W.fin ?_
    refine E.next ?_
    refine C.seq ?_
    refine C.no rfl ?_
    refine C.exit ?_
    refine E.thenExit ?_
    refine E.thenExit ?_
    refine E.blockOut ?_
    refine E.next ?_
    refine C.seq ?_
    refine C.reg ?_
    refine W.y (y_move rfl) rfl ?_
    refine W.y (y_move rfl) rfl ?_
    refine W.y (y_move rfl) rfl ?_
    refine W.call ent27 rfl (encodeImpl64_ret hf (hA.kept hki (fun _ _ _ => id)) rfl hc (by omega)) rfl ?_
    rintro _ w1 ⟨rfl, hw1⟩
    refine W.y (y_assign rfl) rfl ?_
    refine W.fin ?_
    refine E.next ?_
    refine C.seq ?_
    refine C.reg ?_
    refine W.y (y_move rfl) rfl ?_
    refine W.y (y_move rfl) rfl ?_
    refine W.y (y_move rfl) rfl ?_
    refine W.call ent27 rfl (encodeImpl64_ret hf (hB.kept (hki.trans hw1) (fun _ _ _ => id)) rfl hc2 (by omega)) rfl ?_
    rintro _ w2 ⟨rfl, hw2⟩
    refine W.y (y_assign rfl) rfl ?_
    refine W.fin ?_
    refine E.next ?_
    refine C.seq ?_
    refine C.reg ?_
    refine W.y (y_move rfl) rfl ?_
    refine W.y (y_move rfl) rfl ?_
    refine W.y (y_move rfl) rfl ?_
    refine W.call ent27 rfl (encodeImpl64_ret hf (hrx.kept (hw1.trans hw2) (fun _ _ _ => id)) hxl (Nat.le_refl _) (by omega)) rfl ?_
    rintro _ w3 ⟨rfl, hw3⟩
    refine W.y (y_assign rfl) rfl ?_
    refine W.fin ?_
    refine E.next ?_
    refine C.seq ?_
    refine C.reg ?_
    refine W.y (y_move rfl) rfl ?_
    refine W.y (y_len rfl Try.underlying24) rfl ?_
    refine W.y (y_mul rfl rfl (wi64 (by omega) (by omega))) rfl ?_
    refine W.y (y_add rfl rfl (wi64 (by omega) (by omega))) rfl ?_
    refine W.y (Does.as (y_quo rfl rfl (by omega) (by omega) (by omega)) (vint (b := ((nl : Nat) : Int)) (by omega))) rfl ?_
    refine W.y (y_assign rfl) rfl ?_
    refine W.fin ?_
    refine E.next ?_
    refine C.seq ?_
    refine C.seq ?_
    refine C.still mixed (by kernel_rfl) ?_
    refine S.y (y_move rfl) rfl ?_
    refine S.y (y_len' rfl Try.underlying9) rfl ?_
    refine S.y (y_move rfl) rfl ?_
    refine S.y (y_lssF rfl rfl (by omega)) rfl ?_
    refine S.y (y_move rfl) rfl ?_
    refine S.gy rfl rfl (y_move rfl) rfl ?_
    refine S.gy rfl rfl (y_len' rfl Try.underlying9) rfl ?_
    refine S.gy rfl rfl (y_move rfl) rfl ?_
    refine S.gy rfl rfl (y_len' rfl Try.underlying9) rfl ?_
    refine S.gy rfl rfl (y_neqF rfl rfl (by omega)) rfl ?_
    refine S.y (y_pick rfl rfl) rfl ?_
    refine S.y (y_move rfl) rfl ?_
    refine S.gy rfl rfl (y_move rfl) rfl ?_
    refine S.gy rfl rfl (y_len' rfl Try.underlying9) rfl ?_
    refine S.gy rfl rfl (y_move rfl) rfl ?_
    refine S.gy rfl rfl (y_len' rfl Try.underlying9) rfl ?_
    refine S.gy rfl rfl (y_neqF rfl rfl (by omega)) rfl ?_
    refine S.y (y_pick rfl rfl) rfl ?_
    refine S.y (y_move rfl) rfl ?_
    refine S.gy rfl rfl (y_move rfl) rfl ?_
    refine S.gy rfl rfl (y_move rfl) rfl ?_
    refine S.gy rfl rfl (y_scutl' rfl rfl Try.underlying9 (by omega)) rfl ?_
    refine S.gy rfl rfl (y_move rfl) rfl ?_
    refine S.gy rfl rfl (y_move rfl) rfl ?_
    refine S.gy rfl rfl (y_scutl' rfl rfl Try.underlying9 (by omega)) rfl ?_
    refine S.gy rfl rfl (y_nesF rfl rfl hd1) rfl ?_
    refine S.y (y_pick rfl rfl) rfl ?_
    refine S.y (y_move rfl) rfl ?_
    refine S.gy rfl rfl (y_move rfl) rfl ?_
    refine S.gy rfl rfl (y_move rfl) rfl ?_
    refine S.gy rfl rfl (y_scutl' rfl rfl Try.underlying9 (by omega)) rfl ?_
    refine S.gy rfl rfl (y_move rfl) rfl ?_
    refine S.gy rfl rfl (y_move rfl) rfl ?_
    refine S.gy rfl rfl (y_scutl' rfl rfl Try.underlying9 (by omega)) rfl ?_
    refine S.gy rfl rfl (y_nesF rfl rfl hd2) rfl ?_
    refine S.y (y_pick rfl rfl) rfl ?_
    refine S.end_ ?_
    refine E.next ?_
    refine C.no rfl ?_
    refine C.skip ?_
    refine E.next ?_
    refine C.seq ?_
    refine C.seq ?_
    refine C.reg ?_
    refine W.y (y_move rfl) rfl ?_
    refine W.y (y_move rfl) rfl ?_
    refine W.fin ?_
    refine E.next ?_
    refine C.block ?_
    refine C.loop (σ := Nat) (fun i w' => i ≤ nl ∧ Kp (fun _ => False) w w') (fun i => [(0, str al), (11, str (Pl.text 6 4 al pad a)), (12, str (Pl.text 6 4 al pad b)), (13, str (Pl.text 6 4 al pad (xors a b))), (101, .int .i64 (nl : Int)), (102, .int .i64 (i : Int))]) (fun i => nl - i) 0 ?_ ?_ ?_
    · exact ⟨by omega, (((hki.trans hw1).trans hw2).trans hw3).drew⟩
    · exact (Sub.cons rfl (Sub.cons rfl (Sub.cons rfl (Sub.cons rfl (Sub.cons rfl (Sub.cons rfl (Sub.nil _)))))))
    rintro i wj ⟨hi2, hkj⟩
    show C _ _ _ _ [(0, str al), (11, str (Pl.text 6 4 al pad a)), (12, str (Pl.text 6 4 al pad b)), (13, str (Pl.text 6 4 al pad (xors a b))), (101, .int .i64 (nl : Int)), (102, .int .i64 (i : Int))] _
    by_cases h2 : i < nl
    · have hx := text_get (block := 4) (al := al) (pad := pad) (bits := 6) (src := a) (i := i) (by omega)
      have hy := text_get (block := 4) (al := al) (pad := pad) (bits := 6) (src := b) (i := i) (by rw [← hab]; omega)
      have hz := text_get (block := 4) (al := al) (pad := pad) (bits := 6) (src := xors a b) (i := i) (by rw [hxl]; omega)
      have hnx := num_xors (bits := 6) (p := 6 * i) hab
      have la : Pl.numF 6 (Pl.bit a) (6 * i) < 64 := num_lt a _
      have lb : Pl.numF 6 (Pl.bit b) (6 * i) < 64 := num_lt b _
      have lz : Pl.numF 6 (Pl.bit (xors a b)) (6 * i) < 64 := num_lt (xors a b) _
      refine C.seq ?_
      refine C.reg ?_
      refine W.y (y_lssT rfl rfl (by omega)) rfl ?_
      refine W.fin ?_
      refine E.next ?_
      refine C.seq ?_
      refine C.yes rfl ?_
      refine C.skip ?_
      refine E.next ?_
      refine C.seq ?_
      refine C.block ?_
      refine C.seq ?_
      refine C.reg ?_
      refine W.y (y_move rfl) rfl ?_
      refine W.y (y_assign rfl) rfl ?_
      refine W.fin ?_
      refine E.next ?_
      refine C.seq ?_
      refine C.any mixed ?_
      refine AN.take 0 rfl (by kernel_rfl) (by kernel_rfl) (by kernel_rfl) (fun _ => y_move rfl) rfl ?_
      refine AN.take 1 rfl (by kernel_rfl) (by kernel_rfl) (by kernel_rfl) (fun _ => y_move rfl) rfl ?_
      refine AN.take 2 rfl (by kernel_rfl) (by kernel_rfl) (by kernel_rfl) (fun _ => y_move rfl) rfl ?_
      refine AN.take 3 rfl (by kernel_rfl) (by kernel_rfl) (by kernel_rfl) (fun _ => y_ixs' rfl rfl Try.underlying9 hx) rfl ?_
      refine AN.take 5 rfl (by kernel_rfl) (by kernel_rfl) (by kernel_rfl) (fun _ => y_move rfl) rfl ?_
      refine AN.take 6 rfl (by kernel_rfl) (by kernel_rfl) (by kernel_rfl) (fun _ => y_move rfl) rfl ?_
      refine AN.take 7 rfl (by kernel_rfl) (by kernel_rfl) (by kernel_rfl) (fun _ => y_move rfl) rfl ?_
      refine AN.take 8 rfl (by kernel_rfl) (by kernel_rfl) (by kernel_rfl) (fun _ => y_ixs' rfl rfl Try.underlying9 hy) rfl ?_
      refine AN.take 11 rfl (by kernel_rfl) (by kernel_rfl) (by kernel_rfl) (fun _ => y_move rfl) rfl ?_
      refine AN.take 12 rfl (by kernel_rfl) (by kernel_rfl) (by kernel_rfl) (fun _ => y_move rfl) rfl ?_
      refine AN.take 13 rfl (by kernel_rfl) (by kernel_rfl) (by kernel_rfl) (fun _ => y_move rfl) rfl ?_
      refine AN.take 14 rfl (by kernel_rfl) (by kernel_rfl) (by kernel_rfl) (fun _ => y_ixs' rfl rfl Try.underlying9 hz) rfl ?_
      refine AN.oneCall 4 rfl (by kernel_rfl) ent29 rfl (place_ret (N := 64) hf (by omega) (letter_get la hf.len)) rfl ?_
      rintro _ _ ⟨rfl, rfl⟩
      refine AN.oneCall 9 rfl (by kernel_rfl) ent29 rfl (place_ret (N := 64) hf (by omega) (letter_get lb hf.len)) rfl ?_
      rintro _ _ ⟨rfl, rfl⟩
      refine AN.take 10 rfl (by kernel_rfl) (by kernel_rfl) (by kernel_rfl) (fun _ => y_xorI rfl rfl (by omega) (by omega)) rfl ?_
      refine AN.oneCall 15 rfl (by kernel_rfl) ent29 rfl (place_ret (N := 64) hf (by omega) (letter_get lz hf.len)) rfl ?_
      rintro _ _ ⟨rfl, rfl⟩
      refine AN.take 16 rfl (by kernel_rfl) (by kernel_rfl) (by kernel_rfl) (fun _ => y_neqF rfl rfl (by rw [hnx]; omega)) rfl ?_
      refine AN.done (by kernel_rfl) ?_
      refine E.next ?_
      refine C.no rfl ?_
      refine C.skip ?_
      refine E.blockNormal ?_
      refine E.next ?_
      refine C.reg ?_
      refine W.y (y_add rfl rfl (wi64 (by omega) (by omega))) rfl ?_
      refine W.y (y_move rfl) rfl ?_
      refine W.fin ?_
      exact E.again (i + 1) ⟨by omega, hkj.drew⟩ (Sub.cons rfl (Sub.cons rfl (Sub.cons rfl (Sub.cons rfl (Sub.cons rfl (Sub.cons rfl (Sub.nil _))))))) (by omega)
    · skip
      refine C.seq ?_
      refine C.reg ?_
      refine W.y (y_lssF rfl rfl (by omega)) rfl ?_
      refine W.fin ?_
      refine E.next ?_
      refine C.seq ?_
      refine C.no rfl ?_
      refine C.exit ?_
      refine E.thenExit ?_
      refine E.thenExit ?_
      refine E.blockOut ?_
      refine E.next ?_
      refine C.seq ?_
      refine C.reg ?_
      refine W.y (y_assign rfl) rfl ?_
      refine W.fin ?_
      refine E.next ?_
      refine C.ret ?_
      exact E.ret1 rfl rfl ⟨rfl, hkj⟩
end Go.Proofs.Ytmbglgepomeilaa
