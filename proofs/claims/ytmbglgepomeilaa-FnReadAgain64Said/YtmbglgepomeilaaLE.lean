/-
  Walks: EncodeToString, impl.Encode32.
-/
import Derived.Test.YtmbglgepomeilaaWA
import Derived.Test.YtmbglgepomeilaaWB
import Derived.Test.YtmbglgepomeilaaLaw
namespace Go.Proofs.Ytmbglgepomeilaa
open Go.RowKit
theorem ent34 : Enters Try.prog 34 := enters_of Try.func34 (by kernel_rfl) rfl
theorem ent36 : Enters Try.prog 36 := enters_of Try.func36 (by kernel_rfl) rfl
theorem ent45 : Enters Try.prog 45 := enters_of Try.func45 (by kernel_rfl) rfl
theorem ent46 : Enters Try.prog 46 := enters_of Try.func46 (by kernel_rfl) rfl

set_option maxRecDepth 4000 in
theorem encodeToString64_ret {w : World} {gc c n : Nat} {te : TypeId} {cs : Array Value} {A : Option Addr} {al : List UInt8} {pad : Int} {src : List UInt8} (hbc : Bk w gc cs te (0, 0)) (hec : EncC 64 cs al pad) (hp0 : -1 ≤ pad) (hp1 : pad ≤ 255) (hS : Rd w A (bv src)) (hn : src.length = n) (hc : n ≤ c) (hN : n ≤ 140737488351232) :
    Ret Try.prog 36 #[.pointer (some ⟨gc, 0, none⟩), .slice A n c] w fun v w' => v = str (Pl.text 6 4 al pad src) ∧ Kp (fun _ => False) w w' := by
  subst hn
  obtain ⟨sb, so, hsrc, hsb⟩ := hS.src
  have hle := encLen64_le pad src.length
  have htl := text_length64 (al := al) hp0 src
  obtain ⟨z, _, hzs, hmk⟩ := run_makeN (P := Try.prog) (w := w) (t := 24) (N := encLen64 pad src.length) (k := .i64) (k' := .i64) el24 (by omega) (by omega)
  have hD : Bk (w.alloc (.cells (madeCells z.cells (encLen64 pad src.length)) 5)) w.heap.size (madeCells z.cells (encLen64 pad src.length)) 5 (0, 0) := Bk.new _ _ _
  have hms := made_size (N := encLen64 pad src.length) hzs
  have hka : Kp (fun _ => False) w (w.alloc (.cells (madeCells z.cells (encLen64 pad src.length)) 5)) := (Kp.refl _ w).alloc _
  have hlt := hbc.lt
  refine ret_of Try.func36 rfl Try.ntmps36 (Nat.le_of_ble_eq_true rfl) ?_
  refine C.seq ?_
  refine C.reg ?_
  refine W.y (y_assign rfl) rfl ?_
  refine W.fin ?_
  refine E.next ?_
  refine C.seq ?_
  refine C.reg ?_
  refine W.y (y_move rfl) rfl ?_
  refine W.y (y_move rfl) rfl ?_
  refine W.y (y_len rfl Try.underlying24) rfl ?_
  refine W.call ent45 rfl (encodedLen64_ret hbc hec (by omega)) rfl ?_
  rintro _ _ ⟨rfl, rfl⟩
  refine W.y (y_make rfl rfl hmk) rfl ?_
  refine W.y (y_assign rfl) rfl ?_
  refine W.fin ?_
  refine E.next ?_
  refine C.seq ?_
  refine C.reg ?_
  refine W.y (y_move rfl) rfl ?_
  refine W.y (y_move rfl) rfl ?_
  refine W.y (y_move rfl) rfl ?_
  refine W.call ent46 rfl (encode64_at (src := src) (sb := sb) (so := so) (hbc.kept hka id) hec hp0 hp1 hD (by omega) (hsrc.imp id (fun e => ⟨e.1, e.2.on hka⟩)) rfl (by omega) (Nat.le_refl _) (Nat.le_refl _) (by rw [hms]; omega) (by omega) (by omega)) rfl ?_
  rintro _ w2 ⟨rfl, hb2, hk2, hz2⟩
  have hcv := run_b2s (P := Try.prog) (t := 24) (t' := 9) (c := encLen64 pad src.length) Try.underlying24 Try.underlying5 Try.underlying9 (Rd.of_bs (bs_spliced hb2 (by rw [hms]; omega)))
  rw [htl] at hcv
  refine W.fin ?_
  refine E.next ?_
  refine C.seq ?_
  refine C.reg ?_
  refine W.y (y_move rfl) rfl ?_
  refine W.y (y_cvt rfl hcv) rfl ?_
  refine W.y (y_assign rfl) rfl ?_
  refine W.fin ?_
  refine E.next ?_
  refine C.ret ?_
  exact E.ret1 rfl rfl ⟨rfl, hka.trans' hk2 (fun k hk e => by have : k = w.heap.size := e; omega)⟩
theorem encodeImpl64_ret {w : World} {c n : Nat} {A : Option Addr} {al : List UInt8} {pad : Int} {src : List UInt8} (hf : Fit 64 al pad) (hS : Rd w A (bv src)) (hn : src.length = n) (hc : n ≤ c) (hN : n ≤ 140737488351232) :
    Ret Try.prog 27 #[str al, .int .i64 pad, .slice A n c] w fun v w' => v = str (Pl.text 6 4 al pad src) ∧ Kp (fun _ => False) w w' := by
  refine ret_of Try.func27 rfl Try.ntmps27 (Nat.le_of_ble_eq_true rfl) ?_
  refine C.seq ?_
  refine C.reg ?_
  refine W.y (y_assign rfl) rfl ?_
  refine W.fin ?_
  refine E.next ?_
  refine C.seq ?_
  refine C.reg ?_
  refine W.y (y_move rfl) rfl ?_
  refine W.y (y_move rfl) rfl ?_
  refine W.call ent34 rfl (encoding64_ret hf false) rfl ?_
  rintro _ w1 ⟨gc, cs, rfl, hgc, hbc, hec, _, hk1⟩
  refine W.y (y_move rfl) rfl ?_
  refine W.call ent36 rfl (encodeToString64_ret hbc hec hf.lo hf.hi (hS.kept hk1 (fun _ _ _ => id)) hn hc hN) rfl ?_
  rintro _ w2 ⟨rfl, hk2⟩
  refine W.y (y_assign rfl) rfl ?_
  refine W.fin ?_
  refine E.next ?_
  refine C.ret ?_
  exact E.ret1 rfl rfl ⟨rfl, hk1.trans hk2⟩
end Go.Proofs.Ytmbglgepomeilaa
