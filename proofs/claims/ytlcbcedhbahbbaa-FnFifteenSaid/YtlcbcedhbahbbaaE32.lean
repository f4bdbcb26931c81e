/-
  Walks: EncodeToString, impl.Encode32.
-/
import Derived.Test.YtlcbcedhbahbbaaB64
import Derived.Test.YtlcbcedhbahbbaaLaw
namespace Go.Proofs.Ytlcbcedhbahbbaa
open Go.RowKit
theorem ent10 : Enters Try.prog 10 := enters_of Try.func10 (by kernel_rfl) rfl
theorem ent11 : Enters Try.prog 11 := enters_of Try.func11 (by kernel_rfl) rfl
theorem ent19 : Enters Try.prog 19 := enters_of Try.func19 (by kernel_rfl) rfl
theorem ent20 : Enters Try.prog 20 := enters_of Try.func20 (by kernel_rfl) rfl
theorem el22 : El Try.prog 22 5 1 := el_of Try.underlying22 (by kernel_rfl)

set_option maxRecDepth 4000 in
theorem encodeToString32_ret {w : World} {gc c n : Nat} {te : TypeId} {cs : Array Value} {A : Option Addr} {al : List UInt8} {pad : Int} {src : List UInt8} (hbc : Bk w gc cs te (0, 0)) (hec : EncC 32 cs al pad) (hp0 : -1 ≤ pad) (hp1 : pad ≤ 255) (hS : Rd w A (bv src)) (hn : src.length = n) (hc : n ≤ c) (hN : n ≤ 140737488351232) :
    Ret Try.prog 11 #[.pointer (some ⟨gc, 0, none⟩), .slice A n c] w fun v w' => v = str (Pl.text 5 8 al pad src) ∧ Kp (fun _ => False) w w' := by
  subst hn
  obtain ⟨sb, so, hsrc, hsb⟩ := hS.src
  have hle := encLen32_le pad src.length
  have htl := text_length32 (al := al) hp0 src
  obtain ⟨z, _, hzs, hmk⟩ := run_makeN (P := Try.prog) (w := w) (t := 22) (N := encLen32 pad src.length) (k := .i64) (k' := .i64) el22 (by omega) (by omega)
  have hD : Bk (w.alloc (.cells (madeCells z.cells (encLen32 pad src.length)) 5)) w.heap.size (madeCells z.cells (encLen32 pad src.length)) 5 (0, 0) := Bk.new _ _ _
  have hms := made_size (N := encLen32 pad src.length) hzs
  have hka : Kp (fun _ => False) w (w.alloc (.cells (madeCells z.cells (encLen32 pad src.length)) 5)) := (Kp.refl _ w).alloc _
  have hlt := hbc.lt
  refine ret_of Try.func11 rfl Try.ntmps11 (Nat.le_of_ble_eq_true rfl) ?_
  refine C.seq ?_
  refine C.reg ?_
  refine W.y (y_assign rfl) rfl ?_
  refine W.fin ?_
  refine E.next ?_
  refine C.seq ?_
  refine C.reg ?_
  refine W.y (y_move rfl) rfl ?_
  refine W.y (y_move rfl) rfl ?_
  refine W.y (y_len rfl Try.underlying22) rfl ?_
  refine W.call ent19 rfl (encodedLen32_ret hbc hec (by omega)) rfl ?_
  rintro _ _ ⟨rfl, rfl⟩
  refine W.y (y_make rfl rfl hmk) rfl ?_
  refine W.y (y_assign rfl) rfl ?_
  refine W.fin ?_
  refine E.next ?_
  refine C.seq ?_
  refine C.reg ?_
  refine W.y (y_move rfl) rfl ?_
  refine W.y (y_move rfl) rfl ?_
  refine W.y (y_move rfl) rfl ?_
  refine W.call ent20 rfl (encode32_at (src := src) (sb := sb) (so := so) (hbc.kept hka id) hec hp0 hp1 hD (by omega) (hsrc.imp id (fun e => ⟨e.1, e.2.on hka⟩)) rfl (by omega) (Nat.le_refl _) (Nat.le_refl _) (by rw [hms]; omega) (by omega) (by omega)) rfl ?_
  rintro _ w2 ⟨rfl, hb2, hk2, hz2⟩
  have hcv := run_b2s (P := Try.prog) (t := 22) (t' := 9) (c := encLen32 pad src.length) Try.underlying22 Try.underlying5 Try.underlying9 (Rd.of_bs (bs_spliced hb2 (by rw [hms]; omega)))
  rw [htl] at hcv
  refine W.fin ?_
  refine E.next ?_
  refine C.seq ?_
  refine C.reg ?_
  refine W.y (y_move rfl) rfl ?_
  refine W.y (y_cvt rfl hcv) rfl ?_
  refine W.y (y_assign rfl) rfl ?_
  refine W.fin ?_
  refine E.next ?_
  refine C.ret ?_
  exact E.ret1 rfl rfl ⟨rfl, hka.trans' hk2 (fun k hk e => by have : k = w.heap.size := e; omega)⟩
theorem encodeImpl32_ret {w : World} {c n : Nat} {A : Option Addr} {al : List UInt8} {pad : Int} {src : List UInt8} (hf : Fit 32 al pad) (hS : Rd w A (bv src)) (hn : src.length = n) (hc : n ≤ c) (hN : n ≤ 140737488351232) :
    Ret Try.prog 6 #[str al, .int .i64 pad, .slice A n c] w fun v w' => v = str (Pl.text 5 8 al pad src) ∧ Kp (fun _ => False) w w' := by
  refine ret_of Try.func6 rfl Try.ntmps6 (Nat.le_of_ble_eq_true rfl) ?_
  refine C.seq ?_
  refine C.reg ?_
  refine W.y (y_assign rfl) rfl ?_
  refine W.fin ?_
  refine E.next ?_
  refine C.seq ?_
  refine C.reg ?_
  refine W.y (y_move rfl) rfl ?_
  refine W.y (y_move rfl) rfl ?_
  refine W.call ent10 rfl (encoding32_ret hf) rfl ?_
  rintro _ w1 ⟨gc, cs, rfl, hgc, hbc, hec, hk1⟩
  refine W.y (y_move rfl) rfl ?_
  refine W.call ent11 rfl (encodeToString32_ret hbc hec hf.lo hf.hi (hS.kept hk1 (fun _ _ _ => id)) hn hc hN) rfl ?_
  rintro _ w2 ⟨rfl, hk2⟩
  refine W.y (y_assign rfl) rfl ?_
  refine W.fin ?_
  refine E.next ?_
  refine C.ret ?_
  exact E.ret1 rfl rfl ⟨rfl, hk1.trans hk2⟩
end Go.Proofs.Ytlcbcedhbahbbaa
