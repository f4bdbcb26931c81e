/-
  Walks: same, DecodeString, impl.Decode64.
-/
import Derived.Test.YtmbglgepomeilaaLM
import Derived.Test.YtmbglgepomeilaaLF
namespace Go.Proofs.Ytmbglgepomeilaa
open Go.RowKit
theorem ent35 : Enters Try.prog 35 := enters_of Try.func35 (by kernel_rfl) rfl
theorem ent43 : Enters Try.prog 43 := enters_of Try.func43 (by kernel_rfl) rfl
theorem ent44 : Enters Try.prog 44 := enters_of Try.func44 (by kernel_rfl) rfl

theorem same_ret {w : World} {A B : Option Addr} {n c n2 c2 : Nat} {a : List UInt8} (hA : Rd w A (bv a)) (hn : a.length = n) (hB : Rd w B (bv a)) (hn2 : a.length = n2) :
    Ret Try.prog 26 #[.slice A n c, .slice B n2 c2] w fun v w' => v = .bool true ∧ w = w' := by
  subst hn hn2
  have hcv1 := run_b2s (P := Try.prog) (t := 24) (t' := 9) (c := c) Try.underlying24 Try.underlying5 Try.underlying9 hA
  have hcv2 := run_b2s (P := Try.prog) (t := 24) (t' := 9) (c := c2) Try.underlying24 Try.underlying5 Try.underlying9 hB
  refine ret_of Try.func26 rfl Try.ntmps26 (Nat.le_of_ble_eq_true rfl) ?_
  refine C.seq ?_
  refine C.reg ?_
  refine W.y (y_assign rfl) rfl ?_
  refine W.fin ?_
  refine E.next ?_
  refine C.seq ?_
  refine C.reg ?_
  refine W.y (y_move rfl) rfl ?_
  refine W.y (y_cvt rfl hcv1) rfl ?_
  refine W.y (y_move rfl) rfl ?_
  refine W.y (y_cvt rfl hcv2) rfl ?_
  refine W.y (y_eqsT rfl rfl rfl) rfl ?_
  refine W.y (y_assign rfl) rfl ?_
  refine W.fin ?_
  refine E.next ?_
  refine C.ret ?_
  exact E.ret1 rfl rfl ⟨rfl, rfl⟩
set_option maxRecDepth 4000 in
theorem decodeString64_ret {w : World} {gc : Nat} {te : TypeId} {cs : Array Value} {al s : List UInt8} {pad : Int} {vs : List Nat} {st : Bool} (hbc : Bk w gc cs te (0, 0)) (hec : EncC 64 cs al pad) (hst : cs[321]? = some (.bool st)) (hf : Fit 64 al pad) (hzs : st = true → ∃ s, vs = Pl.nums 6 s)
    (hv : ∀ v ∈ vs, v < 64) (hq : ∃ q, vs.length = Pl.nlet 6 q) (hs : s = vs.map (Pl.letter al) ++ Pl.pads 4 pad vs.length) (hN : s.length ≤ 281474976710656) :
    Ret Try.prog 35 #[.pointer (some ⟨gc, 0, none⟩), str s] w fun v w' => ∃ B c, v = .tuple #[.slice B (6 * vs.length / 8) c, .nilIface] ∧ Rd w' B (bv (Pl.unpack 6 vs)) ∧ 6 * vs.length / 8 ≤ c ∧ Kp (fun _ => False) w w' := by
  have hlt := hbc.lt
  have hsl : s.length = vs.length + (Pl.pads 4 pad vs.length).length := by rw [hs, List.length_append, List.length_map]
  have hpl := pads_len (pad := pad) (n := vs.length) (block := 4)
  have hrem := rem64 hq
  obtain ⟨N, hNd⟩ : ∃ N, N = decLen pad s.length := ⟨_, rfl⟩
  have hNb : 6 * vs.length / 8 ≤ N ∧ N ≤ 281474976710656 := by
    rw [hNd]
    unfold decLen
    by_cases hp : pad = -1
    · rw [if_pos hp]
      rw [if_neg (by omega)] at hpl
      omega
    · rw [if_neg hp]
      rw [if_pos (by have := hf.lo; omega)] at hpl
      have hpn : Pl.padn 4 vs.length = (4 - vs.length % 4) % 4 := rfl
      omega
  obtain ⟨z, _, hzz, hmk⟩ := run_makeN (P := Try.prog) (w := w) (t := 24) (N := N) (k := .i64) (k' := .i64) el24 (by omega) (by omega)
  have hD : Bk (w.alloc (.cells (madeCells z.cells N) 5)) w.heap.size (madeCells z.cells N) 5 (0, 0) := Bk.new _ _ _
  have hms := made_size (N := N) hzz
  have hka : Kp (fun _ => False) w (w.alloc (.cells (madeCells z.cells N) 5)) := (Kp.refl _ w).alloc _
  obtain ⟨cap, ts, w2, hcv, hb2, hts, hcap, hcs, hk2, hz2⟩ := run_s2b (P := Try.prog) (w := (w.alloc (.cells (madeCells z.cells N) 5))) (t := 9) (t' := 24) (s := s) Try.underlying9 Try.underlying24 Try.underlying5
  have hsz1 : (w.alloc (.cells (madeCells z.cells N) 5)).heap.size = w.heap.size + 1 := by simp
  refine ret_of Try.func35 rfl Try.ntmps35 (Nat.le_of_ble_eq_true rfl) ?_
  refine C.seq ?_
  refine C.reg ?_
  refine W.y (y_assign rfl) rfl ?_
  refine W.y (y_assign rfl) rfl ?_
  refine W.fin ?_
  refine E.next ?_
  refine C.seq ?_
  refine C.reg ?_
  refine W.y (y_move rfl) rfl ?_
  refine W.y (y_move rfl) rfl ?_
  refine W.y (y_len' rfl Try.underlying9) rfl ?_
  refine W.call ent43 rfl (decodedLen64_ret hbc hec (by omega)) rfl ?_
  rintro _ _ ⟨rfl, rfl⟩
  rw [← hNd]
  refine W.y (y_make rfl rfl hmk) rfl ?_
  refine W.y (y_assign rfl) rfl ?_
  refine W.fin ?_
  refine E.next ?_
  refine C.seq ?_
  refine C.reg ?_
  refine W.y (y_move rfl) rfl ?_
  refine W.y (y_move rfl) rfl ?_
  refine W.y (y_move rfl) rfl ?_
  refine W.y (y_cvt rfl hcv) rfl ?_
  refine W.call ent44 rfl (decode64_ret (src := s) (vs := vs) (sb := (w.alloc (.cells (madeCells z.cells N) 5)).heap.size) (so := 0) ((hbc.kept hka id).kept hk2 id) hec hst hf (hD.kept hk2 id) (by omega) (by omega) hv hq hzs hs (.inr ⟨rfl, Bs.of_row hb2 (fun i x hx => by rw [Nat.zero_add]; exact hcs i x hx)⟩) rfl (by omega) hNd (Nat.le_refl _) (by rw [hms]; omega) (by simp only; omega) (by omega)) rfl ?_
  rintro _ w3 ⟨rfl, ⟨ds', hb3, hd3, hH3⟩, hk3⟩
  have hk13 := (hka.trans hk2).trans' (S := fun _ => False) hk3 (fun k hk e => by omega)
  refine W.y (y_move rfl) rfl ?_
  refine W.y (y_ext rfl rfl) rfl ?_
  refine W.y (y_ext rfl rfl) rfl ?_
  refine W.y (y_assign rfl) rfl ?_
  refine W.y (y_assign rfl) rfl ?_
  refine W.fin ?_
  refine E.next ?_
  refine C.seq ?_
  refine C.reg ?_
  refine W.y (y_move rfl) rfl ?_
  refine W.y (y_move rfl) rfl ?_
  refine W.y (y_cuth rfl rfl Try.underlying24 siz5 (by omega)) rfl ?_
  refine W.y (y_move rfl) rfl ?_
  refine W.y (y_assign rfl) rfl ?_
  refine W.y (y_assign rfl) rfl ?_
  refine W.fin ?_
  refine E.next ?_
  refine C.ret ?_
  exact E.ret2 rfl rfl rfl ⟨_, _, rfl, hH3.rd hb3, by omega, hk13⟩
set_option maxRecDepth 4000 in
theorem decodeImpl64_ret {w : World} {al s : List UInt8} {pad : Int} {vs : List Nat} {st : Bool} (hf : Fit 64 al pad) (hzs : st = true → ∃ s, vs = Pl.nums 6 s)
    (hv : ∀ v ∈ vs, v < 64) (hq : ∃ q, vs.length = Pl.nlet 6 q) (hs : s = vs.map (Pl.letter al) ++ Pl.pads 4 pad vs.length) (hN : s.length ≤ 281474976710656) :
    Ret Try.prog 25 #[str al, .int .i64 pad, .bool st, str s] w fun v w' => ∃ B c, v = .tuple #[.slice B (6 * vs.length / 8) c, .bool true, .int .i64 0] ∧ Rd w' B (bv (Pl.unpack 6 vs)) ∧ 6 * vs.length / 8 ≤ c ∧ Kp (fun _ => False) w w' := by
  refine ret_of Try.func25 rfl Try.ntmps25 (Nat.le_of_ble_eq_true rfl) ?_
  refine C.seq ?_
  refine C.reg ?_
  refine W.y (y_assign rfl) rfl ?_
  refine W.y (y_assign rfl) rfl ?_
  refine W.y (y_assign rfl) rfl ?_
  refine W.fin ?_
  refine E.next ?_
  refine C.seq ?_
  refine C.reg ?_
  refine W.y (y_move rfl) rfl ?_
  refine W.y (y_move rfl) rfl ?_
  refine W.y (y_move rfl) rfl ?_
  refine W.call ent34 rfl (encoding64_ret hf st) rfl ?_
  rintro _ w1 ⟨gc, cs, rfl, hgc, hbc, hec, hst, hk1⟩
  refine W.y (y_move rfl) rfl ?_
  refine W.call ent35 rfl (decodeString64_ret hbc hec hst hf hzs hv hq hs hN) rfl ?_
  rintro _ w2 ⟨B, c, rfl, hr, hc, hk2⟩
  refine W.y (y_move rfl) rfl ?_
  refine W.y (y_ext rfl rfl) rfl ?_
  refine W.y (y_ext rfl rfl) rfl ?_
  refine W.y (y_assign rfl) rfl ?_
  refine W.y (y_assign rfl) rfl ?_
  refine W.fin ?_
  refine E.next ?_
  refine C.seq ?_
  refine C.seq ?_
  refine C.reg ?_
  refine W.y (y_move rfl) rfl ?_
  refine W.y (y_eqnil rfl eqNil51) rfl ?_
  refine W.fin ?_
  refine E.next ?_
  refine C.yes rfl ?_
  refine C.seq ?_
  refine C.reg ?_
  refine W.y (y_move rfl) rfl ?_
  refine W.y (y_assign rfl) rfl ?_
  refine W.y (y_assign rfl) rfl ?_
  refine W.y (y_assign rfl) rfl ?_
  refine W.fin ?_
  refine E.next ?_
  refine C.ret ?_
  refine E.thenRet ?_
  exact E.ret3 rfl rfl rfl rfl ⟨_, _, rfl, hr, hc, hk1.trans hk2⟩
end Go.Proofs.Ytmbglgepomeilaa
