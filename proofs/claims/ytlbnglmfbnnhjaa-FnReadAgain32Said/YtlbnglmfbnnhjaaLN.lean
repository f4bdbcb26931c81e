/-
  Walks: fitRead, same, DecodeString, impl.Decode32.
-/
import Derived.Test.YtlbnglmfbnnhjaaLM
import Derived.Test.YtlbnglmfbnnhjaaLF
namespace Go.Proofs.Ytlbnglmfbnnhjaa
open Go.RowKit
theorem ent37 : Enters Try.prog 37 := enters_of Try.func37 (by kernel_rfl) rfl
theorem ent45 : Enters Try.prog 45 := enters_of Try.func45 (by kernel_rfl) rfl
theorem ent46 : Enters Try.prog 46 := enters_of Try.func46 (by kernel_rfl) rfl

theorem placeNone_ret {w : World} {al : List UInt8} {k : Nat} (hN : al.length ≤ 64) (hno : ∀ x ∈ al, x.toNat ≠ k) :
    Ret Try.prog 30 #[str al, .int .u8 (k : Int)] w fun v w' => v = .int .i64 (-1) ∧ w = w' := by
  refine ret_of Try.func30 rfl Try.ntmps30 (Nat.le_of_ble_eq_true rfl) ?_
  refine C.seq ?_
  refine C.reg ?_
  refine W.y (y_assign rfl) rfl ?_
  refine W.fin ?_
  refine E.next ?_
  refine C.seq ?_
  refine C.seq ?_
  refine C.reg ?_
  refine W.y (y_move rfl) rfl ?_
  refine W.y (y_len' rfl Try.underlying9) rfl ?_
  refine W.y (y_move rfl) rfl ?_
  refine W.fin ?_
  refine E.next ?_
  refine C.block ?_
  refine C.loop (σ := Nat) (fun j w' => j ≤ al.length ∧ w = w') (fun j => [(0, str al), (1, .int .u8 (k : Int)), (7, .int .i64 (al.length : Int)), (8, .int .i64 (j : Int))]) (fun j => al.length - j) 0 ?_ ?_ ?_
  · exact ⟨by omega, rfl⟩
  · exact (Sub.cons rfl (Sub.cons rfl (Sub.cons rfl (Sub.cons rfl (Sub.nil _)))))
  rintro j _ ⟨hj, rfl⟩
  show C _ _ _ _ [(0, str al), (1, .int .u8 (k : Int)), (7, .int .i64 (al.length : Int)), (8, .int .i64 (j : Int))] _
  by_cases e : j < al.length
  · obtain ⟨d, hd⟩ : ∃ d, al[j]? = some d := ⟨_, List.getElem?_eq_getElem e⟩
    have hdc := hno d (List.mem_of_getElem? hd)
    refine C.seq ?_
    refine C.reg ?_
    refine W.y (y_lssT rfl rfl (by omega)) rfl ?_
    refine W.fin ?_
    refine E.next ?_
    refine C.seq ?_
    refine C.yes rfl ?_
    refine C.skip ?_
    refine E.next ?_
    refine C.seq ?_
    refine C.block ?_
    refine C.seq ?_
    refine C.reg ?_
    refine W.y (y_move rfl) rfl ?_
    refine W.y (y_assign rfl) rfl ?_
    refine W.fin ?_
    refine E.next ?_
    refine C.seq ?_
    refine C.reg ?_
    refine W.y (y_move rfl) rfl ?_
    refine W.y (y_move rfl) rfl ?_
    refine W.y (y_ixs' rfl rfl Try.underlying9 hd) rfl ?_
    refine W.y (y_move rfl) rfl ?_
    refine W.y (y_eqlF rfl rfl (by omega)) rfl ?_
    refine W.fin ?_
    refine E.next ?_
    refine C.no rfl ?_
    refine C.skip ?_
    refine E.blockNormal ?_
    refine E.next ?_
    refine C.reg ?_
    refine W.y (y_add rfl rfl (wi64 (by omega) (by omega))) rfl ?_
    refine W.y (y_move rfl) rfl ?_
    refine W.fin ?_
    exact E.again (j + 1) ⟨by omega, rfl⟩ (Sub.cons rfl (Sub.cons rfl (Sub.cons rfl (Sub.cons rfl (Sub.nil _))))) (by omega)
  · skip
    refine C.seq ?_
    refine C.reg ?_
    refine W.y (y_lssF rfl rfl (by omega)) rfl ?_
    refine W.fin ?_
    refine E.next ?_
    refine C.seq ?_
    refine C.no rfl ?_
    refine C.exit ?_
    refine E.thenExit ?_
    refine E.thenExit ?_
    refine E.blockOut ?_
    refine E.next ?_
    refine C.seq ?_
    refine C.reg ?_
    refine W.y (y_assign rfl) rfl ?_
    refine W.fin ?_
    refine E.next ?_
    refine C.ret ?_
    exact E.ret1 rfl rfl ⟨rfl, rfl⟩
set_option maxRecDepth 4000 in
theorem fitRead_ret {w : World} {al : List UInt8} {pad : Int} (hal : al.length ≤ 9223372036854775807) :
    Ret Try.prog 25 #[str al, .int .i64 pad] w fun v w' => w = w' ∧ ((v = .bool true ∧ Fit 32 al pad ∧ (pad = -1 → ∀ x ∈ al, x.toNat ≠ 255)) ∨ v = .bool false) := by
  by_cases h0 : 0 ≤ pad
  · refine ret_of Try.func25 rfl Try.ntmps25 (Nat.le_of_ble_eq_true rfl) ?_
    refine C.seq ?_
    refine C.reg ?_
    refine W.y (y_assign rfl) rfl ?_
    refine W.fin ?_
    refine E.next ?_
    refine C.seq ?_
    refine C.reg ?_
    refine W.y (y_move rfl) rfl ?_
    refine W.y (y_move rfl) rfl ?_
    refine W.call ent15 rfl (fit_ret (N := 32) (by omega)) rfl ?_
    rintro _ _ ⟨rfl, ⟨rfl, hf⟩ | rfl⟩
    rotate_left
    · skip
      refine W.y (y_move rfl) rfl ?_
      refine W.gn rfl rfl rfl ?_
      refine W.gn rfl rfl rfl ?_
      refine W.gn rfl rfl rfl ?_
      refine W.gu rfl rfl rfl ?_
      refine W.gu rfl rfl rfl ?_
      refine W.gu rfl rfl rfl ?_
      refine W.gn rfl rfl rfl ?_
      refine W.y (y_pick rfl rfl) rfl ?_
      refine W.y (y_assign rfl) rfl ?_
      refine W.fin ?_
      refine E.next ?_
      refine C.ret ?_
      exact E.ret1 rfl rfl ⟨rfl, .inr rfl⟩
    refine W.y (y_move rfl) rfl ?_
    refine W.gy rfl rfl (y_move rfl) rfl ?_
    refine W.gy rfl rfl (y_geqT rfl rfl (by omega)) rfl ?_
    refine W.gy rfl rfl (y_move rfl) rfl ?_
    refine W.gn rfl rfl rfl ?_
    refine W.gn rfl rfl rfl ?_
    refine W.gn rfl rfl rfl ?_
    refine W.gy rfl rfl (y_pick rfl rfl) rfl ?_
    refine W.y (y_pick rfl rfl) rfl ?_
    refine W.y (y_assign rfl) rfl ?_
    refine W.fin ?_
    refine E.next ?_
    refine C.ret ?_
    exact E.ret1 rfl rfl ⟨rfl, .inl ⟨rfl, hf, fun e => by omega⟩⟩
  by_cases h1 : ∀ x ∈ al, x.toNat ≠ 255
  · refine ret_of Try.func25 rfl Try.ntmps25 (Nat.le_of_ble_eq_true rfl) ?_
    refine C.seq ?_
    refine C.reg ?_
    refine W.y (y_assign rfl) rfl ?_
    refine W.fin ?_
    refine E.next ?_
    refine C.seq ?_
    refine C.reg ?_
    refine W.y (y_move rfl) rfl ?_
    refine W.y (y_move rfl) rfl ?_
    refine W.call ent15 rfl (fit_ret (N := 32) (by omega)) rfl ?_
    rintro _ _ ⟨rfl, ⟨rfl, hf⟩ | rfl⟩
    rotate_left
    · skip
      refine W.y (y_move rfl) rfl ?_
      refine W.gn rfl rfl rfl ?_
      refine W.gn rfl rfl rfl ?_
      refine W.gn rfl rfl rfl ?_
      refine W.gu rfl rfl rfl ?_
      refine W.gu rfl rfl rfl ?_
      refine W.gu rfl rfl rfl ?_
      refine W.gn rfl rfl rfl ?_
      refine W.y (y_pick rfl rfl) rfl ?_
      refine W.y (y_assign rfl) rfl ?_
      refine W.fin ?_
      refine E.next ?_
      refine C.ret ?_
      exact E.ret1 rfl rfl ⟨rfl, .inr rfl⟩
    refine W.y (y_move rfl) rfl ?_
    refine W.gy rfl rfl (y_move rfl) rfl ?_
    refine W.gy rfl rfl (y_geqF rfl rfl (by omega)) rfl ?_
    refine W.gy rfl rfl (y_move rfl) rfl ?_
    refine W.gy rfl rfl (y_move rfl) rfl ?_
    refine W.gCall rfl rfl ent30 rfl (placeNone_ret (k := 255) (by have := hf.len; omega) h1) rfl ?_
    rintro _ _ ⟨rfl, rfl⟩
    refine W.gy rfl rfl (y_lssT rfl rfl (by omega)) rfl ?_
    refine W.gy rfl rfl (y_pick rfl rfl) rfl ?_
    refine W.y (y_pick rfl rfl) rfl ?_
    refine W.y (y_assign rfl) rfl ?_
    refine W.fin ?_
    refine E.next ?_
    refine C.ret ?_
    exact E.ret1 rfl rfl ⟨rfl, .inl ⟨rfl, hf, fun _ => h1⟩⟩
  obtain ⟨i, hi⟩ : ∃ i : Nat, al[i]? = some 255 := by
    by_cases h2 : ∃ i : Nat, al[i]? = some 255
    · exact h2
    · refine absurd (fun x hx e => h2 ?_) h1
      obtain ⟨i, hi, ei⟩ := List.mem_iff_getElem.1 hx
      exact ⟨i, by rw [List.getElem?_eq_getElem hi, ei, ← UInt8.toNat_inj.1 (show x.toNat = (255 : UInt8).toNat from e)]⟩
  refine ret_of Try.func25 rfl Try.ntmps25 (Nat.le_of_ble_eq_true rfl) ?_
  refine C.seq ?_
  refine C.reg ?_
  refine W.y (y_assign rfl) rfl ?_
  refine W.fin ?_
  refine E.next ?_
  refine C.seq ?_
  refine C.reg ?_
  refine W.y (y_move rfl) rfl ?_
  refine W.y (y_move rfl) rfl ?_
  refine W.call ent15 rfl (fit_ret (N := 32) (by omega)) rfl ?_
  rintro _ _ ⟨rfl, ⟨rfl, hf⟩ | rfl⟩
  rotate_left
  · skip
    refine W.y (y_move rfl) rfl ?_
    refine W.gn rfl rfl rfl ?_
    refine W.gn rfl rfl rfl ?_
    refine W.gn rfl rfl rfl ?_
    refine W.gu rfl rfl rfl ?_
    refine W.gu rfl rfl rfl ?_
    refine W.gu rfl rfl rfl ?_
    refine W.gn rfl rfl rfl ?_
    refine W.y (y_pick rfl rfl) rfl ?_
    refine W.y (y_assign rfl) rfl ?_
    refine W.fin ?_
    refine E.next ?_
    refine C.ret ?_
    exact E.ret1 rfl rfl ⟨rfl, .inr rfl⟩
  refine W.y (y_move rfl) rfl ?_
  refine W.gy rfl rfl (y_move rfl) rfl ?_
  refine W.gy rfl rfl (y_geqF rfl rfl (by omega)) rfl ?_
  refine W.gy rfl rfl (y_move rfl) rfl ?_
  refine W.gy rfl rfl (y_move rfl) rfl ?_
  refine W.gCall rfl rfl ent30 rfl (place_ret (ch := 255) hf (by omega) hi) rfl ?_
  rintro _ _ ⟨rfl, rfl⟩
  refine W.gy rfl rfl (y_lssF rfl rfl (by omega)) rfl ?_
  refine W.gy rfl rfl (y_pick rfl rfl) rfl ?_
  refine W.y (y_pick rfl rfl) rfl ?_
  refine W.y (y_assign rfl) rfl ?_
  refine W.fin ?_
  refine E.next ?_
  refine C.ret ?_
  exact E.ret1 rfl rfl ⟨rfl, .inr rfl⟩
theorem same_ret {w : World} {A B : Option Addr} {n c n2 c2 : Nat} {a : List UInt8} (hA : Rd w A (bv a)) (hn : a.length = n) (hB : Rd w B (bv a)) (hn2 : a.length = n2) :
    Ret Try.prog 28 #[.slice A n c, .slice B n2 c2] w fun v w' => v = .bool true ∧ w = w' := by
  subst hn hn2
  have hcv1 := run_b2s (P := Try.prog) (t := 24) (t' := 9) (c := c) Try.underlying24 Try.underlying5 Try.underlying9 hA
  have hcv2 := run_b2s (P := Try.prog) (t := 24) (t' := 9) (c := c2) Try.underlying24 Try.underlying5 Try.underlying9 hB
  refine ret_of Try.func28 rfl Try.ntmps28 (Nat.le_of_ble_eq_true rfl) ?_
  refine C.seq ?_
  refine C.reg ?_
  refine W.y (y_assign rfl) rfl ?_
  refine W.fin ?_
  refine E.next ?_
  refine C.seq ?_
  refine C.reg ?_
  refine W.y (y_move rfl) rfl ?_
  refine W.y (y_cvt rfl hcv1) rfl ?_
  refine W.y (y_move rfl) rfl ?_
  refine W.y (y_cvt rfl hcv2) rfl ?_
  refine W.y (y_eqsT rfl rfl rfl) rfl ?_
  refine W.y (y_assign rfl) rfl ?_
  refine W.fin ?_
  refine E.next ?_
  refine C.ret ?_
  exact E.ret1 rfl rfl ⟨rfl, rfl⟩
set_option maxRecDepth 4000 in
theorem decodeString32_ret {w : World} {gc : Nat} {te : TypeId} {cs : Array Value} {al s : List UInt8} {pad : Int} {vs : List Nat} (hbc : Bk w gc cs te (0, 0)) (hec : EncC 32 cs al pad) (hf : Fit 32 al pad) (h255 : pad = -1 → ∀ x ∈ al, x.toNat ≠ 255)
    (hv : ∀ v ∈ vs, v < 32) (hq : ∃ q, vs.length = Pl.nlet 5 q) (hs : s = vs.map (Pl.letter al) ++ Pl.pads 8 pad vs.length) (hN : s.length ≤ 281474976710656) :
    Ret Try.prog 37 #[.pointer (some ⟨gc, 0, none⟩), str s] w fun v w' => ∃ B c, v = .tuple #[.slice B (5 * vs.length / 8) c, .nilIface] ∧ Rd w' B (bv (Pl.unpack 5 vs)) ∧ 5 * vs.length / 8 ≤ c ∧ Kp (fun _ => False) w w' := by
  obtain ⟨cap, ds, w1, hcv, hb1, hds, hcap, hcs, hk1, hz1⟩ := run_s2b (P := Try.prog) (w := w) (t := 9) (t' := 24) (s := s) Try.underlying9 Try.underlying24 Try.underlying5
  have hlt := hbc.lt
  have hsl : vs.length ≤ s.length := by rw [hs, List.length_append, List.length_map]; omega
  have hno : ∀ x ∈ s, x.toNat ≠ 10 ∧ x.toNat ≠ 13 := by
    intro x hx
    rw [hs] at hx
    rcases List.mem_append.1 hx with h | h
    · obtain ⟨v, hm, rfl⟩ := List.mem_map.1 h
      have := hf.no v _ (letter_get (hv v hm) hf.len)
      exact ⟨this.1, this.2.1⟩
    · unfold Pl.pads at h
      split at h
      · have e := List.eq_of_mem_replicate h
        have h1 := hf.nl
        have h2 := hf.hi
        rw [e, byte_of (by omega)]
        omega
      · cases h
  refine ret_of Try.func37 rfl Try.ntmps37 (Nat.le_of_ble_eq_true rfl) ?_
  refine C.seq ?_
  refine C.reg ?_
  refine W.y (y_assign rfl) rfl ?_
  refine W.y (y_assign rfl) rfl ?_
  refine W.fin ?_
  refine E.next ?_
  refine C.seq ?_
  refine C.reg ?_
  refine W.y (y_move rfl) rfl ?_
  refine W.y (y_cvt rfl hcv) rfl ?_
  refine W.y (y_assign rfl) rfl ?_
  refine W.fin ?_
  refine E.next ?_
  refine C.seq ?_
  refine C.reg ?_
  refine W.y (y_move rfl) rfl ?_
  refine W.y (y_move rfl) rfl ?_
  refine W.call ent45 rfl (strip_ret (s := s) (o := 0) hb1 (fun i x hx => by rw [Nat.zero_add]; exact hcs i x hx) hno rfl (Nat.le_refl _) (by simp only; omega) (by omega)) rfl ?_
  rintro _ w2 ⟨rfl, hb2, hk2, hz2⟩
  have hk12 : Kp (· = w.heap.size) w w2 := (hk1.wide _).trans' hk2 (fun _ _ e => e)
  refine W.y (y_assign rfl) rfl ?_
  refine W.fin ?_
  refine E.next ?_
  refine C.seq ?_
  refine C.reg ?_
  refine W.y (y_move rfl) rfl ?_
  refine W.y (y_move rfl) rfl ?_
  refine W.y (y_move rfl) rfl ?_
  refine W.y (y_move rfl) rfl ?_
  refine W.y (y_cuth rfl rfl Try.underlying24 siz5 (by omega)) rfl ?_
  refine W.call ent46 rfl (decode32_ret (src := s) (vs := vs) (sb := w.heap.size) (so := 0) (hbc.kept hk12 (by omega)) hec hf h255 hb2 (by omega) hv hq hs (.inr ⟨rfl, Bs.of_row hb2 (fun i x hx => by rw [Nat.zero_add]; exact hcs i x hx)⟩) rfl (by omega) (by omega) (by omega) (by simp only; omega) (.inr (.inl (Nat.le_refl _))) (by omega)) rfl ?_
  rintro _ w3 ⟨⟨e, rfl, _⟩, hb3, hk3⟩
  have hr3 := Rd.of_bs (bs_spliced hb3 (by rw [Pl.unpack_length]; omega))
  have hk13 := hk12.trans hk3
  refine W.y (y_move rfl) rfl ?_
  refine W.y (y_ext rfl rfl) rfl ?_
  refine W.y (y_ext rfl rfl) rfl ?_
  refine W.y (y_ext rfl rfl) rfl ?_
  refine W.y (y_assign rfl) rfl ?_
  refine W.y (y_assign rfl) rfl ?_
  refine W.y (y_assign rfl) rfl ?_
  refine W.fin ?_
  refine E.next ?_
  refine C.seq ?_
  refine C.reg ?_
  refine W.y (y_move rfl) rfl ?_
  refine W.y (y_move rfl) rfl ?_
  refine W.y (y_cuth rfl rfl Try.underlying24 siz5 (by omega)) rfl ?_
  refine W.y (y_move rfl) rfl ?_
  refine W.y (y_assign rfl) rfl ?_
  refine W.y (y_assign rfl) rfl ?_
  refine W.fin ?_
  refine E.next ?_
  refine C.ret ?_
  exact E.ret2 rfl rfl rfl ⟨_, _, rfl, hr3, by omega, hk13.mono (fun k hk e => by omega)⟩
set_option maxRecDepth 4000 in
theorem decodeImpl32_ret {w : World} {al s : List UInt8} {pad : Int} {vs : List Nat} (hf : Fit 32 al pad) (h255 : pad = -1 → ∀ x ∈ al, x.toNat ≠ 255)
    (hv : ∀ v ∈ vs, v < 32) (hq : ∃ q, vs.length = Pl.nlet 5 q) (hs : s = vs.map (Pl.letter al) ++ Pl.pads 8 pad vs.length) (hN : s.length ≤ 281474976710656) :
    Ret Try.prog 27 #[str al, .int .i64 pad, str s] w fun v w' => ∃ B c, v = .tuple #[.slice B (5 * vs.length / 8) c, .bool true, .int .i64 0] ∧ Rd w' B (bv (Pl.unpack 5 vs)) ∧ 5 * vs.length / 8 ≤ c ∧ Kp (fun _ => False) w w' := by
  refine ret_of Try.func27 rfl Try.ntmps27 (Nat.le_of_ble_eq_true rfl) ?_
  refine C.seq ?_
  refine C.reg ?_
  refine W.y (y_assign rfl) rfl ?_
  refine W.y (y_assign rfl) rfl ?_
  refine W.y (y_assign rfl) rfl ?_
  refine W.fin ?_
  refine E.next ?_
  refine C.seq ?_
  refine C.reg ?_
  refine W.y (y_move rfl) rfl ?_
  refine W.y (y_move rfl) rfl ?_
  refine W.call ent35 rfl (encoding32_ret hf) rfl ?_
  rintro _ w1 ⟨gc, cs, rfl, hgc, hbc, hec, hk1⟩
  refine W.y (y_move rfl) rfl ?_
  refine W.call ent37 rfl (decodeString32_ret hbc hec hf h255 hv hq hs hN) rfl ?_
  rintro _ w2 ⟨B, c, rfl, hr, hc, hk2⟩
  refine W.y (y_move rfl) rfl ?_
  refine W.y (y_ext rfl rfl) rfl ?_
  refine W.y (y_ext rfl rfl) rfl ?_
  refine W.y (y_assign rfl) rfl ?_
  refine W.y (y_assign rfl) rfl ?_
  refine W.fin ?_
  refine E.next ?_
  refine C.seq ?_
  refine C.seq ?_
  refine C.reg ?_
  refine W.y (y_move rfl) rfl ?_
  refine W.y (y_eqnil rfl eqNil55) rfl ?_
  refine W.fin ?_
  refine E.next ?_
  refine C.yes rfl ?_
  refine C.seq ?_
  refine C.reg ?_
  refine W.y (y_move rfl) rfl ?_
  refine W.y (y_assign rfl) rfl ?_
  refine W.y (y_assign rfl) rfl ?_
  refine W.y (y_assign rfl) rfl ?_
  refine W.fin ?_
  refine E.next ?_
  refine C.ret ?_
  refine E.thenRet ?_
  exact E.ret3 rfl rfl rfl rfl ⟨_, _, rfl, hr, hc, hk1.trans hk2⟩
end Go.Proofs.Ytlbnglmfbnnhjaa
