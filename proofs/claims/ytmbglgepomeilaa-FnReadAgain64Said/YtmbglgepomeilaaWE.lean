/-
  Walks: the reference (Bit, Number, Text, All) and fit.
-/
import Derived.Test.YtmbglgepomeilaaTy
import Derived.Test.YtmbglgepomeilaaApw
namespace Go.Proofs.Ytmbglgepomeilaa
open Go.RowKit
theorem bit_ret {w : World} {A : Option Addr} {c p n : Nat} {src : List UInt8} (hS : Rd w A (bv src)) (hn : src.length = n) (hn1 : n ≤ 140737488351232) (hp : p ≤ 2000000000000000) :
    Ret Try.prog 37 #[.slice A n c, .int .i64 (p : Int)] w fun v w' => v = .int .i64 ((Pl.bit src p : Nat) : Int) ∧ w = w' := by
  subst hn
  by_cases h : src.length ≤ p / 8
  · refine ret_of Try.func37 rfl Try.ntmps37 (Nat.le_of_ble_eq_true rfl) ?_
    refine C.seq ?_
    refine C.reg ?_
    refine W.y (y_assign rfl) rfl ?_
    refine W.fin ?_
    refine E.next ?_
    refine C.seq ?_
    refine C.seq ?_
    refine C.reg ?_
    refine W.y (y_move rfl) rfl ?_
    refine W.y (y_quo rfl rfl (by omega) (by omega) (by omega)) rfl ?_
    refine W.y (y_move rfl) rfl ?_
    refine W.y (y_len rfl Try.underlying24) rfl ?_
    refine W.y (y_geqT rfl rfl (by omega)) rfl ?_
    refine W.fin ?_
    refine E.next ?_
    refine C.yes rfl ?_
    refine C.seq ?_
    refine C.reg ?_
    refine W.y (y_assign rfl) rfl ?_
    refine W.fin ?_
    refine E.next ?_
    refine C.ret ?_
    refine E.thenRet ?_
    exact E.ret1 rfl rfl ⟨by rw [bit_out h]; rfl, rfl⟩
  · obtain ⟨b, hb⟩ : ∃ b, src[p / 8]? = some b := ⟨_, List.getElem?_eq_getElem (by omega)⟩
    have hb8 : b.toNat < 256 := b.toNat_lt
    obtain ⟨g, o, rfl, hB⟩ := hS.bs.resolve_left (by omega)
    have hbi := bit_in hb
    refine ret_of Try.func37 rfl Try.ntmps37 (Nat.le_of_ble_eq_true rfl) ?_
    refine C.seq ?_
    refine C.reg ?_
    refine W.y (y_assign rfl) rfl ?_
    refine W.fin ?_
    refine E.next ?_
    refine C.seq ?_
    refine C.seq ?_
    refine C.reg ?_
    refine W.y (y_move rfl) rfl ?_
    refine W.y (y_quo rfl rfl (by omega) (by omega) (by omega)) rfl ?_
    refine W.y (y_move rfl) rfl ?_
    refine W.y (y_len rfl Try.underlying24) rfl ?_
    refine W.y (y_geqF rfl rfl (by omega)) rfl ?_
    refine W.fin ?_
    refine E.next ?_
    refine C.no rfl ?_
    refine C.skip ?_
    refine E.next ?_
    refine C.seq ?_
    refine C.reg ?_
    refine W.y (y_move rfl) rfl ?_
    refine W.y (y_move rfl) rfl ?_
    refine W.y (y_quo rfl rfl (by omega) (by omega) (by omega)) rfl ?_
    refine W.y (y_ixn (i := p / 8) rfl rfl Try.underlying24 siz5 (by omega)) rfl ?_
    refine W.y (y_load rfl pl5 (hB (p / 8) b hb)) rfl ?_
    refine W.y (y_convI rfl Try.underlying5 Try.underlying3 (by omega)) rfl ?_
    refine W.y (y_assign rfl) rfl ?_
    refine W.fin ?_
    refine E.next ?_
    refine C.seq ?_
    refine C.seq ?_
    refine C.reg ?_
    refine W.y (y_move rfl) rfl ?_
    refine W.y (y_rem rfl rfl (by omega) (by omega)) rfl ?_
    refine W.y (y_assign rfl) rfl ?_
    refine W.fin ?_
    refine E.next ?_
    refine C.block ?_
    refine C.loop (σ := Nat) (fun j w' => p % 8 + j ≤ 7 ∧ w = w') (fun j => [(5, .int .i64 ((b.toNat / 2 ^ j : Nat) : Int)), (6, .int .i64 ((p % 8 + j : Nat) : Int))]) (fun j => 7 - (p % 8 + j)) 0 ?_ ?_ ?_
    · exact ⟨by omega, rfl⟩
    · exact (Sub.cons (congrArg (fun z => some (Value.int .i64 z)) (by simp)) (Sub.cons (congrArg (fun z => some (Value.int .i64 z)) (by omega)) (Sub.nil _)))
    rintro j _ ⟨hj, rfl⟩
    show C _ _ _ _ [(5, .int .i64 ((b.toNat / 2 ^ j : Nat) : Int)), (6, .int .i64 ((p % 8 + j : Nat) : Int))] _
    have hds := div_step b.toNat j
    have hle : b.toNat / 2 ^ j ≤ b.toNat := Nat.div_le_self _ _
    by_cases h7 : p % 8 + j < 7
    · have hle2 : (0 : Int) ≤ ((b.toNat / 2 ^ j : Nat) : Int) := Int.natCast_nonneg _
      refine C.seq ?_
      refine C.seq ?_
      refine C.reg ?_
      refine W.y (y_move rfl) rfl ?_
      refine W.y (y_lssT rfl rfl (by omega)) rfl ?_
      refine W.fin ?_
      refine E.next ?_
      refine C.yes rfl ?_
      refine C.skip ?_
      refine E.next ?_
      refine C.seq ?_
      refine C.block ?_
      refine C.reg ?_
      refine W.y (y_move rfl) rfl ?_
      refine W.y (y_quo rfl rfl hle2 (by omega) (by omega)) rfl ?_
      refine W.y (y_assign rfl) rfl ?_
      refine W.fin ?_
      refine E.blockNormal ?_
      refine E.next ?_
      refine C.reg ?_
      refine W.y (y_move rfl) rfl ?_
      refine W.y (y_add rfl rfl (wi64 (by omega) (by omega))) rfl ?_
      refine W.y (y_assign rfl) rfl ?_
      refine W.fin ?_
      exact E.again (j + 1) ⟨by omega, rfl⟩ (Sub.cons (congrArg (fun z => some (Value.int .i64 z)) (by rw [hds]; rfl)) (Sub.cons (congrArg (fun z => some (Value.int .i64 z)) (by omega)) (Sub.nil _))) (by omega)
    · have hj7 : j = 7 - p % 8 := by omega
      have hle2 : (0 : Int) ≤ ((b.toNat / 2 ^ j : Nat) : Int) := Int.natCast_nonneg _
      refine C.seq ?_
      refine C.seq ?_
      refine C.reg ?_
      refine W.y (y_move rfl) rfl ?_
      refine W.y (y_lssF rfl rfl (by omega)) rfl ?_
      refine W.fin ?_
      refine E.next ?_
      refine C.no rfl ?_
      refine C.exit ?_
      refine E.thenExit ?_
      refine E.thenExit ?_
      refine E.blockOut ?_
      refine E.next ?_
      refine C.seq ?_
      refine C.reg ?_
      refine W.y (y_move rfl) rfl ?_
      refine W.y (y_rem rfl rfl hle2 (by omega)) rfl ?_
      refine W.y (y_assign rfl) rfl ?_
      refine W.fin ?_
      refine E.next ?_
      refine C.ret ?_
      exact E.ret1 rfl rfl ⟨by rw [hbi, ← hj7]; rfl, rfl⟩
theorem number_ret {w : World} {A : Option Addr} {c p n bits : Nat} {src : List UInt8} (hS : Rd w A (bv src)) (hn : src.length = n) (hn1 : n ≤ 140737488351232) (hp : p ≤ 1900000000000000) (hb : bits ≤ 8) :
    Ret Try.prog 28 #[.int .i64 (bits : Int), .slice A n c, .int .i64 (p : Int)] w fun v w' => v = .int .i64 ((Pl.numF bits (Pl.bit src) p : Nat) : Int) ∧ w = w' := by
  refine ret_of Try.func28 rfl Try.ntmps28 (Nat.le_of_ble_eq_true rfl) ?_
  refine C.seq ?_
  refine C.reg ?_
  refine W.y (y_assign rfl) rfl ?_
  refine W.fin ?_
  refine E.next ?_
  refine C.seq ?_
  refine C.reg ?_
  refine W.y (y_assign rfl) rfl ?_
  refine W.fin ?_
  refine E.next ?_
  refine C.seq ?_
  refine C.seq ?_
  refine C.reg ?_
  refine W.y (y_assign rfl) rfl ?_
  refine W.fin ?_
  refine E.next ?_
  refine C.block ?_
  refine C.loop (σ := Nat) (fun k w' => k ≤ bits ∧ w = w') (fun k => [(0, .int .i64 (bits : Int)), (1, .slice A n c), (2, .int .i64 (p : Int)), (7, .int .i64 ((Pl.numF k (Pl.bit src) p : Nat) : Int)), (8, .int .i64 (k : Int))]) (fun k => bits - k) 0 ?_ ?_ ?_
  · exact ⟨by omega, rfl⟩
  · exact (Sub.cons rfl (Sub.cons rfl (Sub.cons rfl (Sub.cons rfl (Sub.cons rfl (Sub.nil _))))))
  rintro k _ ⟨hk, rfl⟩
  show C _ _ _ _ [(0, .int .i64 (bits : Int)), (1, .slice A n c), (2, .int .i64 (p : Int)), (7, .int .i64 ((Pl.numF k (Pl.bit src) p : Nat) : Int)), (8, .int .i64 (k : Int))] _
  have hlt : Pl.numF k (Pl.bit src) p < 256 := Nat.lt_of_lt_of_le (Pl.numF_lt (Pl.bit_lt src)) (Nat.pow_le_pow_right (n := 2) (by omega) (by omega : k ≤ 8))
  have hbl := Pl.bit_lt src (p + k)
  by_cases h : k < bits
  · skip
    refine C.seq ?_
    refine C.seq ?_
    refine C.reg ?_
    refine W.y (y_move rfl) rfl ?_
    refine W.y (y_move rfl) rfl ?_
    refine W.y (y_lssT rfl rfl (by omega)) rfl ?_
    refine W.fin ?_
    refine E.next ?_
    refine C.yes rfl ?_
    refine C.skip ?_
    refine E.next ?_
    refine C.seq ?_
    refine C.block ?_
    refine C.reg ?_
    refine W.y (y_move rfl) rfl ?_
    refine W.y (y_mul rfl rfl (wi64 (by omega) (by omega))) rfl ?_
    refine W.y (y_move rfl) rfl ?_
    refine W.y (y_move rfl) rfl ?_
    refine W.y (y_move rfl) rfl ?_
    refine W.y (y_add rfl rfl (wi64 (by omega) (by omega))) rfl ?_
    refine W.call ent37 rfl (bit_ret (p := p + k) hS hn hn1 (by omega)) rfl ?_
    rintro _ _ ⟨rfl, rfl⟩
    refine W.y (y_add rfl rfl (wi64 (by omega) (by omega))) rfl ?_
    refine W.y (y_assign rfl) rfl ?_
    refine W.fin ?_
    refine E.blockNormal ?_
    refine E.next ?_
    refine C.reg ?_
    refine W.y (y_move rfl) rfl ?_
    refine W.y (y_add rfl rfl (wi64 (by omega) (by omega))) rfl ?_
    refine W.y (y_assign rfl) rfl ?_
    refine W.fin ?_
    exact E.again (k + 1) ⟨by omega, rfl⟩ (Sub.cons rfl (Sub.cons rfl (Sub.cons rfl (Sub.cons (congrArg (fun z => some (Value.int .i64 z)) (by simp only [Pl.numF]; omega)) (Sub.cons rfl (Sub.nil _)))))) (by omega)
  · have hkb : k = bits := by omega
    subst hkb
    refine C.seq ?_
    refine C.seq ?_
    refine C.reg ?_
    refine W.y (y_move rfl) rfl ?_
    refine W.y (y_move rfl) rfl ?_
    refine W.y (y_lssF rfl rfl (by omega)) rfl ?_
    refine W.fin ?_
    refine E.next ?_
    refine C.no rfl ?_
    refine C.exit ?_
    refine E.thenExit ?_
    refine E.thenExit ?_
    refine E.blockOut ?_
    refine E.next ?_
    refine C.seq ?_
    refine C.reg ?_
    refine W.y (y_move rfl) rfl ?_
    refine W.y (y_assign rfl) rfl ?_
    refine W.fin ?_
    refine E.next ?_
    refine C.ret ?_
    exact E.ret1 rfl rfl ⟨rfl, rfl⟩
set_option maxRecDepth 4000 in
theorem text64_ret {w : World} {A : Option Addr} {c n : Nat} {src al : List UInt8} {pad : Int} (hS : Rd w A (bv src)) (hn : src.length = n) (hn1 : n ≤ 140737488351232) (hal : al.length = 64) (hp0 : -1 ≤ pad) (hp1 : pad ≤ 255) :
    Ret Try.prog 18 #[.int .i64 6, .int .i64 4, str al, .int .i64 pad, .slice A n c] w fun v w' => v = str (Pl.text 6 4 al pad src) ∧ Kp (fun _ => False) w w' := by
  subst hn
  refine ret_of Try.func18 rfl Try.ntmps18 (Nat.le_of_ble_eq_true rfl) ?_
  refine C.seq ?_
  refine C.reg ?_
  refine W.y (y_assign rfl) rfl ?_
  refine W.fin ?_
  refine E.next ?_
  refine C.seq ?_
  refine C.reg ?_
  refine W.y (y_bs0 el24) rfl ?_
  refine W.y (y_assign rfl) rfl ?_
  refine W.fin ?_
  refine E.next ?_
  refine C.seq ?_
  refine C.seq ?_
  refine C.reg ?_
  refine W.y (y_assign rfl) rfl ?_
  refine W.fin ?_
  refine E.next ?_
  refine C.block ?_
  refine C.loop (σ := Nat × Value) (fun (i, vi) w' => i ≤ Pl.nlet 6 src.length ∧ Own w' 5 vi (bv (lets 6 al src i)) ∧ (∀ k, vi.ownBlock = some k → w.heap.size ≤ k) ∧ Kp (fun _ => False) w w') (fun (i, vi) => [(0, .int .i64 6), (1, .int .i64 4), (2, str al), (3, .int .i64 pad), (4, .slice A src.length c), (11, vi), (12, .int .i64 ((6 * i : Nat) : Int))]) (fun (i, _) => Pl.nlet 6 src.length - i) (0, .slice (some ⟨w.heap.size, 0, none⟩) 0 0) ?_ ?_ ?_
  · exact ⟨by omega, Own.zero w 5, (fun k e => by cases e; exact Nat.le_refl _), (Kp.refl _ w).alloc _⟩
  · exact (Sub.cons rfl (Sub.cons rfl (Sub.cons rfl (Sub.cons rfl (Sub.cons rfl (Sub.cons rfl (Sub.cons rfl (Sub.nil _))))))))
  rintro ⟨i, vi⟩ wi ⟨hi, how, hob, hk⟩
  show C _ _ _ _ [(0, .int .i64 6), (1, .int .i64 4), (2, str al), (3, .int .i64 pad), (4, .slice A src.length c), (11, vi), (12, .int .i64 ((6 * i : Nat) : Int))] _
  have hnl : Pl.nlet 6 src.length = (8 * src.length + 5) / 6 := rfl
  have hSi : Rd wi A (bv src) := hS.kept hk (fun _ _ _ => id)
  by_cases h : 6 * i < 8 * src.length
  · have hlt : Pl.numF 6 (Pl.bit src) (6 * i) < 64 := Pl.numF_lt (Pl.bit_lt src)
    have hch : al[Pl.numF 6 (Pl.bit src) (6 * i)]? = some (Pl.letter al (Pl.numF 6 (Pl.bit src) (6 * i))) := by unfold Pl.letter; rw [List.getElem?_eq_getElem (by omega)]; rfl
    have hl1 := lets_length 6 al src i
    obtain ⟨v1, w1, hr1, ho1, hg1, ha1⟩ := run_appW (w := wi.alloc (.cells #[u8 (Pl.letter al (Pl.numF 6 (Pl.bit src) (6 * i)))] 5)) (ty := 24) (c := 1) (r := [u8 (Pl.letter al (Pl.numF 6 (Pl.bit src) (6 * i)))]) el24 (how.kept ((Kp.refl (fun _ => False) wi).alloc _) (fun _ _ => id)) (Rd.one wi 5 _) (by simp) (by simp [u8]; rfl) (by simp only [bv_length, List.length_singleton]; omega)
    refine C.seq ?_
    refine C.seq ?_
    refine C.reg ?_
    refine W.y (y_move rfl) rfl ?_
    refine W.y (y_move rfl) rfl ?_
    refine W.y (y_len rfl Try.underlying24) rfl ?_
    refine W.y (y_mul rfl rfl (wi64 (by omega) (by omega))) rfl ?_
    refine W.y (y_lssT rfl rfl (by omega)) rfl ?_
    refine W.fin ?_
    refine E.next ?_
    refine C.yes rfl ?_
    refine C.skip ?_
    refine E.next ?_
    refine C.seq ?_
    refine C.block ?_
    refine C.reg ?_
    refine W.y (y_move rfl) rfl ?_
    refine W.y (y_move rfl) rfl ?_
    refine W.y (y_move rfl) rfl ?_
    refine W.y (y_move rfl) rfl ?_
    refine W.y (y_move rfl) rfl ?_
    refine W.call ent28 rfl (number_ret (bits := 6) (p := 6 * i) hSi rfl (by omega) (by omega) (by omega)) rfl ?_
    rintro _ _ ⟨rfl, rfl⟩
    refine W.y (y_ixs' rfl rfl Try.underlying9 hch) rfl ?_
    refine W.y (y_bs1 el24 rfl rfl) rfl ?_
    refine W.y (y_app rfl rfl hr1) rfl ?_
    refine W.y (y_assign rfl) rfl ?_
    refine W.fin ?_
    refine E.blockNormal ?_
    refine E.next ?_
    refine C.reg ?_
    refine W.y (y_move rfl) rfl ?_
    refine W.y (y_move rfl) rfl ?_
    refine W.y (y_add rfl rfl (wi64 (by omega) (by omega))) rfl ?_
    refine W.y (y_assign rfl) rfl ?_
    refine W.fin ?_
    have hgk : ∀ k, vi.ownBlock = some k → w.heap.size ≤ k := hob
    refine E.again (i + 1, v1) ⟨by omega, by rw [lets_succ, bv_append]; exact ho1, ?_, ?_⟩ (Sub.cons rfl (Sub.cons rfl (Sub.cons rfl (Sub.cons rfl (Sub.cons rfl (Sub.cons rfl (Sub.cons (congrArg (fun z => some (Value.int .i64 z)) (by omega)) (Sub.nil _)))))))) (by show Pl.nlet 6 src.length - (i + 1) < Pl.nlet 6 src.length - i; omega)
    · intro k e
      have := hk.size
      rcases ha1 with e1 | e1
      · exact hob k (by rw [← e1, e])
      · rw [e1] at e; injection e with e; simp only [World.size_alloc] at e; omega
    · exact (hk.alloc _).grown hg1 (fun k e => .inr (hob k e))
  · have hie : i = Pl.nlet 6 src.length := by omega
    subst hie
    rw [lets_all] at how
    have hl1 := Pl.letters_length 6 al src
    refine C.seq ?_
    refine C.seq ?_
    refine C.reg ?_
    refine W.y (y_move rfl) rfl ?_
    refine W.y (y_move rfl) rfl ?_
    refine W.y (y_len rfl Try.underlying24) rfl ?_
    refine W.y (y_mul rfl rfl (wi64 (by omega) (by omega))) rfl ?_
    refine W.y (y_lssF rfl rfl (by omega)) rfl ?_
    refine W.fin ?_
    refine E.next ?_
    refine C.no rfl ?_
    refine C.exit ?_
    refine E.thenExit ?_
    refine E.thenExit ?_
    refine E.blockOut ?_
    refine E.next ?_
    refine C.seq ?_
    refine C.block ?_
    refine C.loop (σ := Nat × Value) (fun (j, vj) w' => (0 ≤ pad → j ≤ Pl.padn 4 (Pl.nlet 6 src.length)) ∧ (pad < 0 → j = 0) ∧ Own w' 5 vj (bv (Pl.letters 6 al src ++ List.replicate j (UInt8.ofNat pad.toNat))) ∧ (∀ k, vj.ownBlock = some k → w.heap.size ≤ k) ∧ Kp (fun _ => False) w w') (fun (j, vj) => [(0, .int .i64 6), (1, .int .i64 4), (2, str al), (3, .int .i64 pad), (4, .slice A src.length c), (11, vj)]) (fun (j, _) => Pl.padn 4 (Pl.nlet 6 src.length) - j) (0, vi) ?_ ?_ ?_
    · exact ⟨fun _ => by omega, fun _ => rfl, by simpa using how, hob, hk⟩
    · exact (Sub.cons rfl (Sub.cons rfl (Sub.cons rfl (Sub.cons rfl (Sub.cons rfl (Sub.cons rfl (Sub.nil _)))))))
    rintro ⟨j, vj⟩ wj ⟨hj, hj0, howj, hobj, hkj⟩
    show C _ _ _ _ [(0, .int .i64 6), (1, .int .i64 4), (2, str al), (3, .int .i64 pad), (4, .slice A src.length c), (11, vj)] _
    have hpd : Pl.padn 4 (Pl.nlet 6 src.length) = (4 - Pl.nlet 6 src.length % 4) % 4 := rfl
    have hll : (bv (Pl.letters 6 al src ++ List.replicate j (UInt8.ofNat pad.toNat))).length = Pl.nlet 6 src.length + j := by rw [bv_length, List.length_append, hl1, List.length_replicate]
    obtain ⟨Aj, cj, hvj, hrdj, hcpj, _⟩ := howj.slice
    rw [hll] at hvj
    by_cases hneg : pad < 0
    · have hjz := hj0 hneg
      have hte : Pl.text 6 4 al pad src = Pl.letters 6 al src ++ List.replicate j (UInt8.ofNat pad.toNat) := by
        obtain rfl : pad = -1 := by omega
        rw [text_nopad, hjz]; simp
      have hcv := run_b2s (P := Try.prog) (t := 24) (t' := 9) (c := cj) Try.underlying24 Try.underlying5 Try.underlying9 hrdj
      rw [← bv_length, hll] at hcv
      subst hvj
      refine C.seq ?_
      refine C.seq ?_
      refine C.reg ?_
      refine W.y (y_move rfl) rfl ?_
      refine W.y (y_geqF rfl rfl (by omega)) rfl ?_
      refine W.y (y_move rfl) rfl ?_
      refine W.gn rfl rfl rfl ?_
      refine W.gn rfl rfl rfl ?_
      refine W.gn rfl rfl rfl ?_
      refine W.gn rfl rfl rfl ?_
      refine W.gn rfl rfl rfl ?_
      refine W.y (y_pick rfl rfl) rfl ?_
      refine W.fin ?_
      refine E.next ?_
      refine C.no rfl ?_
      refine C.exit ?_
      refine E.thenExit ?_
      refine E.thenExit ?_
      refine E.blockOut ?_
      refine E.next ?_
      refine C.seq ?_
      refine C.reg ?_
      refine W.y (y_move rfl) rfl ?_
      refine W.y (y_cvt rfl hcv) rfl ?_
      refine W.y (y_assign rfl) rfl ?_
      refine W.fin ?_
      refine E.next ?_
      refine C.ret ?_
      exact E.ret1 rfl rfl ⟨by rw [hte], hkj⟩
    · have hj := hj (by omega)
      by_cases hfull : j = Pl.padn 4 (Pl.nlet 6 src.length)
      · skip
        have hte : Pl.text 6 4 al pad src = Pl.letters 6 al src ++ List.replicate j (UInt8.ofNat pad.toNat) := by
          unfold Pl.text Pl.pads
          rw [if_pos (by omega), hfull]
        have hcv := run_b2s (P := Try.prog) (t := 24) (t' := 9) (c := cj) Try.underlying24 Try.underlying5 Try.underlying9 hrdj
        rw [← bv_length, hll] at hcv
        subst hvj
        refine C.seq ?_
        refine C.seq ?_
        refine C.reg ?_
        refine W.y (y_move rfl) rfl ?_
        refine W.y (y_geqT rfl rfl (by omega)) rfl ?_
        refine W.y (y_move rfl) rfl ?_
        refine W.gy rfl rfl (y_move rfl) rfl ?_
        refine W.gy rfl rfl (y_len rfl Try.underlying24) rfl ?_
        refine W.gy rfl rfl (y_move rfl) rfl ?_
        refine W.gy rfl rfl (y_rem (a := ((Pl.nlet 6 src.length + j : Nat) : Int)) rfl rfl (by omega) (by omega)) rfl ?_
        refine W.gy rfl rfl (y_neqF rfl rfl (by omega)) rfl ?_
        refine W.y (y_pick rfl rfl) rfl ?_
        refine W.fin ?_
        refine E.next ?_
        refine C.no rfl ?_
        refine C.exit ?_
        refine E.thenExit ?_
        refine E.thenExit ?_
        refine E.blockOut ?_
        refine E.next ?_
        refine C.seq ?_
        refine C.reg ?_
        refine W.y (y_move rfl) rfl ?_
        refine W.y (y_cvt rfl hcv) rfl ?_
        refine W.y (y_assign rfl) rfl ?_
        refine W.fin ?_
        refine E.next ?_
        refine C.ret ?_
        exact E.ret1 rfl rfl ⟨by rw [hte], hkj⟩
      · obtain ⟨v1, w1, hr1, ho1, hg1, ha1⟩ := run_appW (w := wj.alloc (.cells #[u8 (UInt8.ofNat pad.toNat)] 5)) (ty := 24) (c := 1) (r := [u8 (UInt8.ofNat pad.toNat)]) el24 (howj.kept ((Kp.refl (fun _ => False) wj).alloc _) (fun _ _ => id)) (Rd.one wj 5 _) (by simp) (by simp [u8]; rfl) (by rw [hll]; simp only [List.length_singleton]; omega)
        subst hvj
        refine C.seq ?_
        refine C.seq ?_
        refine C.reg ?_
        refine W.y (y_move rfl) rfl ?_
        refine W.y (y_geqT rfl rfl (by omega)) rfl ?_
        refine W.y (y_move rfl) rfl ?_
        refine W.gy rfl rfl (y_move rfl) rfl ?_
        refine W.gy rfl rfl (y_len rfl Try.underlying24) rfl ?_
        refine W.gy rfl rfl (y_move rfl) rfl ?_
        refine W.gy rfl rfl (y_rem (a := ((Pl.nlet 6 src.length + j : Nat) : Int)) rfl rfl (by omega) (by omega)) rfl ?_
        refine W.gy rfl rfl (y_neqT rfl rfl (by omega)) rfl ?_
        refine W.y (y_pick rfl rfl) rfl ?_
        refine W.fin ?_
        refine E.next ?_
        refine C.yes rfl ?_
        refine C.skip ?_
        refine E.next ?_
        refine C.block ?_
        refine C.reg ?_
        refine W.y (y_move rfl) rfl ?_
        refine W.y (y_move rfl) rfl ?_
        refine W.y (y_conv (r := (((UInt8.ofNat pad.toNat).toNat : Nat) : Int)) rfl Try.underlying2 Try.underlying5 (pad_u8 (by omega) hp1)) rfl ?_
        refine W.y (y_bs1 el24 rfl rfl) rfl ?_
        refine W.y (y_app rfl rfl hr1) rfl ?_
        refine W.y (y_assign rfl) rfl ?_
        refine W.fin ?_
        refine E.blockNormal ?_
        refine E.again (j + 1, v1) ⟨fun _ => by omega, fun h => by omega, by rw [List.replicate_succ', ← List.append_assoc, bv_append]; exact ho1, ?_, ?_⟩ (Sub.cons rfl (Sub.cons rfl (Sub.cons rfl (Sub.cons rfl (Sub.cons rfl (Sub.cons rfl (Sub.nil _))))))) (by show Pl.padn 4 (Pl.nlet 6 src.length) - (j + 1) < Pl.padn 4 (Pl.nlet 6 src.length) - j; omega)
        · intro k e
          have := hkj.size
          rcases ha1 with e1 | e1
          · exact hobj k (by rw [← e1, e])
          · rw [e1] at e; injection e with e; simp only [World.size_alloc] at e; omega
        · exact (hkj.alloc _).grown hg1 (fun k e => .inr (hobj k e))
theorem all_ret {w : World} {A : Option Addr} {c n : Nat} {ps : List (List UInt8)} (hP : Pcs w.heap.size w A ps) (hn : ps.length = n) (hN : ps.flatten.length ≤ 1000000000) (hN2 : ps.length ≤ 1000000000) :
    Ret Try.prog 16 #[.slice A n c] w fun v w' => Own w' 5 v (bv ps.flatten) ∧ (∀ k, v.ownBlock = some k → w.heap.size ≤ k) ∧ Kp (fun _ => False) w w' := by
  subst hn
  refine ret_of Try.func16 rfl Try.ntmps16 (Nat.le_of_ble_eq_true rfl) ?_
  refine C.seq ?_
  refine C.reg ?_
  refine W.y (y_assign rfl) rfl ?_
  refine W.fin ?_
  refine E.next ?_
  refine C.seq ?_
  refine C.reg ?_
  refine W.y (y_bs0 el24) rfl ?_
  refine W.y (y_assign rfl) rfl ?_
  refine W.fin ?_
  refine E.next ?_
  refine C.seq ?_
  refine C.seq ?_
  refine C.reg ?_
  refine W.y (y_assign rfl) rfl ?_
  refine W.fin ?_
  refine E.next ?_
  refine C.block ?_
  refine C.loop (σ := Nat × Value) (fun (i, vi) w' => i ≤ ps.length ∧ Own w' 5 vi (bv (ps.take i).flatten) ∧ (∀ k, vi.ownBlock = some k → w.heap.size ≤ k) ∧ Kp (fun _ => False) w w') (fun (i, vi) => [(0, .slice A ps.length c), (3, vi), (4, .int .i64 (i : Int))]) (fun (i, _) => ps.length - i) (0, .slice (some ⟨w.heap.size, 0, none⟩) 0 0) ?_ ?_ ?_
  · exact ⟨by omega, Own.zero w 5, (fun k e => by cases e; exact Nat.le_refl _), (Kp.refl _ w).alloc _⟩
  · exact (Sub.cons rfl (Sub.cons rfl (Sub.cons rfl (Sub.nil _))))
  rintro ⟨i, vi⟩ wi ⟨hi, how, hob, hk⟩
  show C _ _ _ _ [(0, .slice A ps.length c), (3, vi), (4, .int .i64 (i : Int))] _
  have hfl := flat_take_le (ps := ps) (i := i)
  by_cases h : i < ps.length
  · obtain ⟨p, hp⟩ : ∃ p, ps[i]? = some p := ⟨_, List.getElem?_eq_getElem h⟩
    have hft := flat_take hp
    have hfl2 := flat_take_le (ps := ps) (i := i + 1)
    have hpl : (ps.take i).flatten.length + p.length ≤ ps.flatten.length := by rw [hft, List.length_append] at hfl2; exact hfl2
    obtain ⟨g, o, rfl, hg, hcs⟩ := (hP.kept (hk.mono (fun _ _ e => e.elim))).resolve_left (fun e => by rw [e] at h; simp at h)
    obtain ⟨A', c', hcell, hc', hrd, hlow⟩ := hcs i p hp
    obtain ⟨v1, w1, hr1, ho1, hg1, ha1⟩ := run_app (ty := 24) (c := c') el24 how hrd (one_u8 p) (by simp only [bv_length]; omega) (by omega)
    rw [bv_length] at hr1
    refine C.seq ?_
    refine C.seq ?_
    refine C.reg ?_
    refine W.y (y_move rfl) rfl ?_
    refine W.y (y_move rfl) rfl ?_
    refine W.y (y_len rfl Try.underlying22) rfl ?_
    refine W.y (y_lssT rfl rfl (by omega)) rfl ?_
    refine W.fin ?_
    refine E.next ?_
    refine C.yes rfl ?_
    refine C.skip ?_
    refine E.next ?_
    refine C.seq ?_
    refine C.block ?_
    refine C.reg ?_
    refine W.y (y_move rfl) rfl ?_
    refine W.y (y_move rfl) rfl ?_
    refine W.y (y_move rfl) rfl ?_
    refine W.y (y_ixn rfl rfl Try.underlying22 siz24 (by omega)) rfl ?_
    refine W.y (y_load rfl pl24 hcell) rfl ?_
    refine W.y (y_app rfl rfl hr1) rfl ?_
    refine W.y (y_assign rfl) rfl ?_
    refine W.fin ?_
    refine E.blockNormal ?_
    refine E.next ?_
    refine C.reg ?_
    refine W.y (y_move rfl) rfl ?_
    refine W.y (y_add rfl rfl (wi64 (by omega) (by omega))) rfl ?_
    refine W.y (y_assign rfl) rfl ?_
    refine W.fin ?_
    refine E.again (i + 1, v1) ⟨by omega, by rw [hft, bv_append]; exact ho1, ?_, hk.grown hg1 (fun k e => .inr (hob k e))⟩ (Sub.cons rfl (Sub.cons rfl (Sub.cons rfl (Sub.nil _)))) (by show ps.length - (i + 1) < ps.length - i; omega)
    intro k e
    have := hk.size
    rcases ha1 with e1 | e1
    · exact hob k (by rw [← e1, e])
    · rw [e1] at e; injection e with e; omega
  · have hi2 : ps.take i = ps := List.take_of_length_le (by omega)
    rw [hi2] at how
    refine C.seq ?_
    refine C.seq ?_
    refine C.reg ?_
    refine W.y (y_move rfl) rfl ?_
    refine W.y (y_move rfl) rfl ?_
    refine W.y (y_len rfl Try.underlying22) rfl ?_
    refine W.y (y_lssF rfl rfl (by omega)) rfl ?_
    refine W.fin ?_
    refine E.next ?_
    refine C.no rfl ?_
    refine C.exit ?_
    refine E.thenExit ?_
    refine E.thenExit ?_
    refine E.blockOut ?_
    refine E.next ?_
    refine C.seq ?_
    refine C.reg ?_
    refine W.y (y_move rfl) rfl ?_
    refine W.y (y_assign rfl) rfl ?_
    refine W.fin ?_
    refine E.next ?_
    refine C.ret ?_
    exact E.ret1 rfl rfl ⟨how, hob, hk⟩
set_option maxRecDepth 4000 in
theorem fit_ret {w : World} {N : Nat} {al : List UInt8} {pad : Int} (hal : al.length ≤ 9223372036854775807) :
    Ret Try.prog 15 #[.int .i64 (N : Int), str al, .int .i64 pad] w fun v w' => w = w' ∧ ((v = .bool true ∧ Fit N al pad) ∨ v = .bool false) := by
  by_cases h1 : al.length = N
  rotate_left
  · refine ret_of Try.func15 rfl Try.ntmps15 (Nat.le_of_ble_eq_true rfl) ?_
    refine C.seq ?_
    refine C.reg ?_
    refine W.y (y_assign rfl) rfl ?_
    refine W.fin ?_
    refine E.next ?_
    refine C.seq ?_
    refine C.seq ?_
    refine C.reg ?_
    refine W.y (y_move rfl) rfl ?_
    refine W.y (y_len' rfl Try.underlying9) rfl ?_
    refine W.y (y_move rfl) rfl ?_
    refine W.y (y_neqT rfl rfl (by omega)) rfl ?_
    refine W.y (y_move rfl) rfl ?_
    refine W.gn rfl rfl rfl ?_
    refine W.gn rfl rfl rfl ?_
    refine W.y (y_pick rfl rfl) rfl ?_
    refine W.y (y_move rfl) rfl ?_
    refine W.gn rfl rfl rfl ?_
    refine W.gn rfl rfl rfl ?_
    refine W.y (y_pick rfl rfl) rfl ?_
    refine W.y (y_move rfl) rfl ?_
    refine W.gn rfl rfl rfl ?_
    refine W.gn rfl rfl rfl ?_
    refine W.y (y_pick rfl rfl) rfl ?_
    refine W.y (y_move rfl) rfl ?_
    refine W.gn rfl rfl rfl ?_
    refine W.gn rfl rfl rfl ?_
    refine W.y (y_pick rfl rfl) rfl ?_
    refine W.fin ?_
    refine E.next ?_
    refine C.yes rfl ?_
    refine C.seq ?_
    refine C.reg ?_
    refine W.y (y_assign rfl) rfl ?_
    refine W.fin ?_
    refine E.next ?_
    refine C.ret ?_
    refine E.thenRet ?_
    exact E.ret1 rfl rfl ⟨rfl, .inr rfl⟩
  by_cases h2 : -1 ≤ pad
  rotate_left
  · refine ret_of Try.func15 rfl Try.ntmps15 (Nat.le_of_ble_eq_true rfl) ?_
    refine C.seq ?_
    refine C.reg ?_
    refine W.y (y_assign rfl) rfl ?_
    refine W.fin ?_
    refine E.next ?_
    refine C.seq ?_
    refine C.seq ?_
    refine C.reg ?_
    refine W.y (y_move rfl) rfl ?_
    refine W.y (y_len' rfl Try.underlying9) rfl ?_
    refine W.y (y_move rfl) rfl ?_
    refine W.y (y_neqF rfl rfl (by omega)) rfl ?_
    refine W.y (y_move rfl) rfl ?_
    refine W.gy rfl rfl (y_move rfl) rfl ?_
    refine W.gy rfl rfl (y_lssT rfl rfl (by omega)) rfl ?_
    refine W.y (y_pick rfl rfl) rfl ?_
    refine W.y (y_move rfl) rfl ?_
    refine W.gn rfl rfl rfl ?_
    refine W.gn rfl rfl rfl ?_
    refine W.y (y_pick rfl rfl) rfl ?_
    refine W.y (y_move rfl) rfl ?_
    refine W.gn rfl rfl rfl ?_
    refine W.gn rfl rfl rfl ?_
    refine W.y (y_pick rfl rfl) rfl ?_
    refine W.y (y_move rfl) rfl ?_
    refine W.gn rfl rfl rfl ?_
    refine W.gn rfl rfl rfl ?_
    refine W.y (y_pick rfl rfl) rfl ?_
    refine W.fin ?_
    refine E.next ?_
    refine C.yes rfl ?_
    refine C.seq ?_
    refine C.reg ?_
    refine W.y (y_assign rfl) rfl ?_
    refine W.fin ?_
    refine E.next ?_
    refine C.ret ?_
    refine E.thenRet ?_
    exact E.ret1 rfl rfl ⟨rfl, .inr rfl⟩
  by_cases h3 : pad ≤ 255
  rotate_left
  · refine ret_of Try.func15 rfl Try.ntmps15 (Nat.le_of_ble_eq_true rfl) ?_
    refine C.seq ?_
    refine C.reg ?_
    refine W.y (y_assign rfl) rfl ?_
    refine W.fin ?_
    refine E.next ?_
    refine C.seq ?_
    refine C.seq ?_
    refine C.reg ?_
    refine W.y (y_move rfl) rfl ?_
    refine W.y (y_len' rfl Try.underlying9) rfl ?_
    refine W.y (y_move rfl) rfl ?_
    refine W.y (y_neqF rfl rfl (by omega)) rfl ?_
    refine W.y (y_move rfl) rfl ?_
    refine W.gy rfl rfl (y_move rfl) rfl ?_
    refine W.gy rfl rfl (y_lssF rfl rfl (by omega)) rfl ?_
    refine W.y (y_pick rfl rfl) rfl ?_
    refine W.y (y_move rfl) rfl ?_
    refine W.gy rfl rfl (y_move rfl) rfl ?_
    refine W.gy rfl rfl (y_gtrT rfl rfl (by omega)) rfl ?_
    refine W.y (y_pick rfl rfl) rfl ?_
    refine W.y (y_move rfl) rfl ?_
    refine W.gn rfl rfl rfl ?_
    refine W.gn rfl rfl rfl ?_
    refine W.y (y_pick rfl rfl) rfl ?_
    refine W.y (y_move rfl) rfl ?_
    refine W.gn rfl rfl rfl ?_
    refine W.gn rfl rfl rfl ?_
    refine W.y (y_pick rfl rfl) rfl ?_
    refine W.fin ?_
    refine E.next ?_
    refine C.yes rfl ?_
    refine C.seq ?_
    refine C.reg ?_
    refine W.y (y_assign rfl) rfl ?_
    refine W.fin ?_
    refine E.next ?_
    refine C.ret ?_
    refine E.thenRet ?_
    exact E.ret1 rfl rfl ⟨rfl, .inr rfl⟩
  by_cases h4 : pad ≠ 10
  rotate_left
  · refine ret_of Try.func15 rfl Try.ntmps15 (Nat.le_of_ble_eq_true rfl) ?_
    refine C.seq ?_
    refine C.reg ?_
    refine W.y (y_assign rfl) rfl ?_
    refine W.fin ?_
    refine E.next ?_
    refine C.seq ?_
    refine C.seq ?_
    refine C.reg ?_
    refine W.y (y_move rfl) rfl ?_
    refine W.y (y_len' rfl Try.underlying9) rfl ?_
    refine W.y (y_move rfl) rfl ?_
    refine W.y (y_neqF rfl rfl (by omega)) rfl ?_
    refine W.y (y_move rfl) rfl ?_
    refine W.gy rfl rfl (y_move rfl) rfl ?_
    refine W.gy rfl rfl (y_lssF rfl rfl (by omega)) rfl ?_
    refine W.y (y_pick rfl rfl) rfl ?_
    refine W.y (y_move rfl) rfl ?_
    refine W.gy rfl rfl (y_move rfl) rfl ?_
    refine W.gy rfl rfl (y_gtrF rfl rfl (by omega)) rfl ?_
    refine W.y (y_pick rfl rfl) rfl ?_
    refine W.y (y_move rfl) rfl ?_
    refine W.gy rfl rfl (y_move rfl) rfl ?_
    refine W.gy rfl rfl (y_eqlT rfl rfl (by omega)) rfl ?_
    refine W.y (y_pick rfl rfl) rfl ?_
    refine W.y (y_move rfl) rfl ?_
    refine W.gn rfl rfl rfl ?_
    refine W.gn rfl rfl rfl ?_
    refine W.y (y_pick rfl rfl) rfl ?_
    refine W.fin ?_
    refine E.next ?_
    refine C.yes rfl ?_
    refine C.seq ?_
    refine C.reg ?_
    refine W.y (y_assign rfl) rfl ?_
    refine W.fin ?_
    refine E.next ?_
    refine C.ret ?_
    refine E.thenRet ?_
    exact E.ret1 rfl rfl ⟨rfl, .inr rfl⟩
  by_cases h5 : pad ≠ 13
  rotate_left
  · refine ret_of Try.func15 rfl Try.ntmps15 (Nat.le_of_ble_eq_true rfl) ?_
    refine C.seq ?_
    refine C.reg ?_
    refine W.y (y_assign rfl) rfl ?_
    refine W.fin ?_
    refine E.next ?_
    refine C.seq ?_
    refine C.seq ?_
    refine C.reg ?_
    refine W.y (y_move rfl) rfl ?_
    refine W.y (y_len' rfl Try.underlying9) rfl ?_
    refine W.y (y_move rfl) rfl ?_
    refine W.y (y_neqF rfl rfl (by omega)) rfl ?_
    refine W.y (y_move rfl) rfl ?_
    refine W.gy rfl rfl (y_move rfl) rfl ?_
    refine W.gy rfl rfl (y_lssF rfl rfl (by omega)) rfl ?_
    refine W.y (y_pick rfl rfl) rfl ?_
    refine W.y (y_move rfl) rfl ?_
    refine W.gy rfl rfl (y_move rfl) rfl ?_
    refine W.gy rfl rfl (y_gtrF rfl rfl (by omega)) rfl ?_
    refine W.y (y_pick rfl rfl) rfl ?_
    refine W.y (y_move rfl) rfl ?_
    refine W.gy rfl rfl (y_move rfl) rfl ?_
    refine W.gy rfl rfl (y_eqlF rfl rfl (by omega)) rfl ?_
    refine W.y (y_pick rfl rfl) rfl ?_
    refine W.y (y_move rfl) rfl ?_
    refine W.gy rfl rfl (y_move rfl) rfl ?_
    refine W.gy rfl rfl (y_eqlT rfl rfl (by omega)) rfl ?_
    refine W.y (y_pick rfl rfl) rfl ?_
    refine W.fin ?_
    refine E.next ?_
    refine C.yes rfl ?_
    refine C.seq ?_
    refine C.reg ?_
    refine W.y (y_assign rfl) rfl ?_
    refine W.fin ?_
    refine E.next ?_
    refine C.ret ?_
    refine E.thenRet ?_
    exact E.ret1 rfl rfl ⟨rfl, .inr rfl⟩
  refine ret_of Try.func15 rfl Try.ntmps15 (Nat.le_of_ble_eq_true rfl) ?_
  refine C.seq ?_
  refine C.reg ?_
  refine W.y (y_assign rfl) rfl ?_
  refine W.fin ?_
  refine E.next ?_
  refine C.seq ?_
  refine C.seq ?_
  refine C.reg ?_
  refine W.y (y_move rfl) rfl ?_
  refine W.y (y_len' rfl Try.underlying9) rfl ?_
  refine W.y (y_move rfl) rfl ?_
  refine W.y (y_neqF rfl rfl (by omega)) rfl ?_
  refine W.y (y_move rfl) rfl ?_
  refine W.gy rfl rfl (y_move rfl) rfl ?_
  refine W.gy rfl rfl (y_lssF rfl rfl (by omega)) rfl ?_
  refine W.y (y_pick rfl rfl) rfl ?_
  refine W.y (y_move rfl) rfl ?_
  refine W.gy rfl rfl (y_move rfl) rfl ?_
  refine W.gy rfl rfl (y_gtrF rfl rfl (by omega)) rfl ?_
  refine W.y (y_pick rfl rfl) rfl ?_
  refine W.y (y_move rfl) rfl ?_
  refine W.gy rfl rfl (y_move rfl) rfl ?_
  refine W.gy rfl rfl (y_eqlF rfl rfl (by omega)) rfl ?_
  refine W.y (y_pick rfl rfl) rfl ?_
  refine W.y (y_move rfl) rfl ?_
  refine W.gy rfl rfl (y_move rfl) rfl ?_
  refine W.gy rfl rfl (y_eqlF rfl rfl (by omega)) rfl ?_
  refine W.y (y_pick rfl rfl) rfl ?_
  refine W.fin ?_
  refine E.next ?_
  refine C.no rfl ?_
  refine C.skip ?_
  refine E.next ?_
  refine C.seq ?_
  refine C.seq ?_
  refine C.reg ?_
  refine W.y (y_move rfl) rfl ?_
  refine W.y (y_len' rfl Try.underlying9) rfl ?_
  refine W.y (y_move rfl) rfl ?_
  refine W.fin ?_
  refine E.next ?_
  refine C.block ?_
  refine C.loop (σ := Nat) (fun i w' => i ≤ al.length ∧ w = w' ∧ (∀ (j : Nat) (c : UInt8), j < i → al[j]? = some c → c.toNat ≠ 10 ∧ c.toNat ≠ 13 ∧ c.toNat ≠ 61 ∧ (c.toNat : Int) ≠ pad) ∧ ∀ (j k : Nat) (a b : UInt8), k < i → j < k → al[j]? = some a → al[k]? = some b → a ≠ b) (fun i => [(1, str al), (2, .int .i64 pad), (31, .int .i64 (al.length : Int)), (32, .int .i64 (i : Int))]) (fun i => al.length - i) 0 ?_ ?_ ?_
  · exact ⟨by omega, rfl, fun j c h => by omega, fun j k a b h => by omega⟩
  · exact (Sub.cons rfl (Sub.cons rfl (Sub.cons rfl (Sub.cons rfl (Sub.nil _)))))
  rintro i _ ⟨hi, rfl, hno, hnd⟩
  show C _ _ _ _ [(1, str al), (2, .int .i64 pad), (31, .int .i64 (al.length : Int)), (32, .int .i64 (i : Int))] _
  by_cases hlt : i < al.length
  · obtain ⟨ch, hch⟩ : ∃ ch, al[i]? = some ch := ⟨_, List.getElem?_eq_getElem hlt⟩
    have hc8 : ch.toNat < 256 := ch.toNat_lt
    by_cases c1 : ch.toNat ≠ 10
    rotate_left
    · skip
      refine C.seq ?_
      refine C.reg ?_
      refine W.y (y_lssT rfl rfl (by omega)) rfl ?_
      refine W.fin ?_
      refine E.next ?_
      refine C.seq ?_
      refine C.yes rfl ?_
      refine C.skip ?_
      refine E.next ?_
      refine C.seq ?_
      refine C.block ?_
      refine C.seq ?_
      refine C.reg ?_
      refine W.y (y_move rfl) rfl ?_
      refine W.y (y_assign rfl) rfl ?_
      refine W.fin ?_
      refine E.next ?_
      refine C.seq ?_
      refine C.reg ?_
      refine W.y (y_move rfl) rfl ?_
      refine W.y (y_move rfl) rfl ?_
      refine W.y (y_ixs' rfl rfl Try.underlying9 hch) rfl ?_
      refine W.y (y_assign rfl) rfl ?_
      refine W.fin ?_
      refine E.next ?_
      refine C.seq ?_
      refine C.seq ?_
      refine C.reg ?_
      refine W.y (y_move rfl) rfl ?_
      refine W.y (y_eqlT rfl rfl (by omega)) rfl ?_
      refine W.y (y_move rfl) rfl ?_
      refine W.gn rfl rfl rfl ?_
      refine W.gn rfl rfl rfl ?_
      refine W.y (y_pick rfl rfl) rfl ?_
      refine W.y (y_move rfl) rfl ?_
      refine W.gn rfl rfl rfl ?_
      refine W.gn rfl rfl rfl ?_
      refine W.y (y_pick rfl rfl) rfl ?_
      refine W.y (y_move rfl) rfl ?_
      refine W.gn rfl rfl rfl ?_
      refine W.gn rfl rfl rfl ?_
      refine W.gn rfl rfl rfl ?_
      refine W.gn rfl rfl rfl ?_
      refine W.y (y_pick rfl rfl) rfl ?_
      refine W.fin ?_
      refine E.next ?_
      refine C.yes rfl ?_
      refine C.seq ?_
      refine C.reg ?_
      refine W.y (y_assign rfl) rfl ?_
      refine W.fin ?_
      refine E.next ?_
      refine C.ret ?_
      refine E.thenRet ?_
      refine E.blockRet ?_
      refine E.thenRet ?_
      refine E.thenRet ?_
      refine E.blockRet ?_
      refine E.thenRet ?_
      exact E.ret1 rfl rfl ⟨rfl, .inr rfl⟩
    by_cases c2 : ch.toNat ≠ 13
    rotate_left
    · skip
      refine C.seq ?_
      refine C.reg ?_
      refine W.y (y_lssT rfl rfl (by omega)) rfl ?_
      refine W.fin ?_
      refine E.next ?_
      refine C.seq ?_
      refine C.yes rfl ?_
      refine C.skip ?_
      refine E.next ?_
      refine C.seq ?_
      refine C.block ?_
      refine C.seq ?_
      refine C.reg ?_
      refine W.y (y_move rfl) rfl ?_
      refine W.y (y_assign rfl) rfl ?_
      refine W.fin ?_
      refine E.next ?_
      refine C.seq ?_
      refine C.reg ?_
      refine W.y (y_move rfl) rfl ?_
      refine W.y (y_move rfl) rfl ?_
      refine W.y (y_ixs' rfl rfl Try.underlying9 hch) rfl ?_
      refine W.y (y_assign rfl) rfl ?_
      refine W.fin ?_
      refine E.next ?_
      refine C.seq ?_
      refine C.seq ?_
      refine C.reg ?_
      refine W.y (y_move rfl) rfl ?_
      refine W.y (y_eqlF rfl rfl (by omega)) rfl ?_
      refine W.y (y_move rfl) rfl ?_
      refine W.gy rfl rfl (y_move rfl) rfl ?_
      refine W.gy rfl rfl (y_eqlT rfl rfl (by omega)) rfl ?_
      refine W.y (y_pick rfl rfl) rfl ?_
      refine W.y (y_move rfl) rfl ?_
      refine W.gn rfl rfl rfl ?_
      refine W.gn rfl rfl rfl ?_
      refine W.y (y_pick rfl rfl) rfl ?_
      refine W.y (y_move rfl) rfl ?_
      refine W.gn rfl rfl rfl ?_
      refine W.gn rfl rfl rfl ?_
      refine W.gn rfl rfl rfl ?_
      refine W.gn rfl rfl rfl ?_
      refine W.y (y_pick rfl rfl) rfl ?_
      refine W.fin ?_
      refine E.next ?_
      refine C.yes rfl ?_
      refine C.seq ?_
      refine C.reg ?_
      refine W.y (y_assign rfl) rfl ?_
      refine W.fin ?_
      refine E.next ?_
      refine C.ret ?_
      refine E.thenRet ?_
      refine E.blockRet ?_
      refine E.thenRet ?_
      refine E.thenRet ?_
      refine E.blockRet ?_
      refine E.thenRet ?_
      exact E.ret1 rfl rfl ⟨rfl, .inr rfl⟩
    by_cases c3 : ch.toNat ≠ 61
    rotate_left
    · skip
      refine C.seq ?_
      refine C.reg ?_
      refine W.y (y_lssT rfl rfl (by omega)) rfl ?_
      refine W.fin ?_
      refine E.next ?_
      refine C.seq ?_
      refine C.yes rfl ?_
      refine C.skip ?_
      refine E.next ?_
      refine C.seq ?_
      refine C.block ?_
      refine C.seq ?_
      refine C.reg ?_
      refine W.y (y_move rfl) rfl ?_
      refine W.y (y_assign rfl) rfl ?_
      refine W.fin ?_
      refine E.next ?_
      refine C.seq ?_
      refine C.reg ?_
      refine W.y (y_move rfl) rfl ?_
      refine W.y (y_move rfl) rfl ?_
      refine W.y (y_ixs' rfl rfl Try.underlying9 hch) rfl ?_
      refine W.y (y_assign rfl) rfl ?_
      refine W.fin ?_
      refine E.next ?_
      refine C.seq ?_
      refine C.seq ?_
      refine C.reg ?_
      refine W.y (y_move rfl) rfl ?_
      refine W.y (y_eqlF rfl rfl (by omega)) rfl ?_
      refine W.y (y_move rfl) rfl ?_
      refine W.gy rfl rfl (y_move rfl) rfl ?_
      refine W.gy rfl rfl (y_eqlF rfl rfl (by omega)) rfl ?_
      refine W.y (y_pick rfl rfl) rfl ?_
      refine W.y (y_move rfl) rfl ?_
      refine W.gy rfl rfl (y_move rfl) rfl ?_
      refine W.gy rfl rfl (y_eqlT rfl rfl (by omega)) rfl ?_
      refine W.y (y_pick rfl rfl) rfl ?_
      refine W.y (y_move rfl) rfl ?_
      refine W.gn rfl rfl rfl ?_
      refine W.gn rfl rfl rfl ?_
      refine W.gn rfl rfl rfl ?_
      refine W.gn rfl rfl rfl ?_
      refine W.y (y_pick rfl rfl) rfl ?_
      refine W.fin ?_
      refine E.next ?_
      refine C.yes rfl ?_
      refine C.seq ?_
      refine C.reg ?_
      refine W.y (y_assign rfl) rfl ?_
      refine W.fin ?_
      refine E.next ?_
      refine C.ret ?_
      refine E.thenRet ?_
      refine E.blockRet ?_
      refine E.thenRet ?_
      refine E.thenRet ?_
      refine E.blockRet ?_
      refine E.thenRet ?_
      exact E.ret1 rfl rfl ⟨rfl, .inr rfl⟩
    by_cases c4 : (ch.toNat : Int) ≠ pad
    rotate_left
    · skip
      refine C.seq ?_
      refine C.reg ?_
      refine W.y (y_lssT rfl rfl (by omega)) rfl ?_
      refine W.fin ?_
      refine E.next ?_
      refine C.seq ?_
      refine C.yes rfl ?_
      refine C.skip ?_
      refine E.next ?_
      refine C.seq ?_
      refine C.block ?_
      refine C.seq ?_
      refine C.reg ?_
      refine W.y (y_move rfl) rfl ?_
      refine W.y (y_assign rfl) rfl ?_
      refine W.fin ?_
      refine E.next ?_
      refine C.seq ?_
      refine C.reg ?_
      refine W.y (y_move rfl) rfl ?_
      refine W.y (y_move rfl) rfl ?_
      refine W.y (y_ixs' rfl rfl Try.underlying9 hch) rfl ?_
      refine W.y (y_assign rfl) rfl ?_
      refine W.fin ?_
      refine E.next ?_
      refine C.seq ?_
      refine C.seq ?_
      refine C.reg ?_
      refine W.y (y_move rfl) rfl ?_
      refine W.y (y_eqlF rfl rfl (by omega)) rfl ?_
      refine W.y (y_move rfl) rfl ?_
      refine W.gy rfl rfl (y_move rfl) rfl ?_
      refine W.gy rfl rfl (y_eqlF rfl rfl (by omega)) rfl ?_
      refine W.y (y_pick rfl rfl) rfl ?_
      refine W.y (y_move rfl) rfl ?_
      refine W.gy rfl rfl (y_move rfl) rfl ?_
      refine W.gy rfl rfl (y_eqlF rfl rfl (by omega)) rfl ?_
      refine W.y (y_pick rfl rfl) rfl ?_
      refine W.y (y_move rfl) rfl ?_
      refine W.gy rfl rfl (y_move rfl) rfl ?_
      refine W.gy rfl rfl (y_convI rfl Try.underlying5 Try.underlying2 (by omega)) rfl ?_
      refine W.gy rfl rfl (y_move rfl) rfl ?_
      refine W.gy rfl rfl (y_eqlT rfl rfl (by omega)) rfl ?_
      refine W.y (y_pick rfl rfl) rfl ?_
      refine W.fin ?_
      refine E.next ?_
      refine C.yes rfl ?_
      refine C.seq ?_
      refine C.reg ?_
      refine W.y (y_assign rfl) rfl ?_
      refine W.fin ?_
      refine E.next ?_
      refine C.ret ?_
      refine E.thenRet ?_
      refine E.blockRet ?_
      refine E.thenRet ?_
      refine E.thenRet ?_
      refine E.blockRet ?_
      refine E.thenRet ?_
      exact E.ret1 rfl rfl ⟨rfl, .inr rfl⟩
    refine C.seq ?_
    refine C.reg ?_
    refine W.y (y_lssT rfl rfl (by omega)) rfl ?_
    refine W.fin ?_
    refine E.next ?_
    refine C.seq ?_
    refine C.yes rfl ?_
    refine C.skip ?_
    refine E.next ?_
    refine C.seq ?_
    refine C.block ?_
    refine C.seq ?_
    refine C.reg ?_
    refine W.y (y_move rfl) rfl ?_
    refine W.y (y_assign rfl) rfl ?_
    refine W.fin ?_
    refine E.next ?_
    refine C.seq ?_
    refine C.reg ?_
    refine W.y (y_move rfl) rfl ?_
    refine W.y (y_move rfl) rfl ?_
    refine W.y (y_ixs' rfl rfl Try.underlying9 hch) rfl ?_
    refine W.y (y_assign rfl) rfl ?_
    refine W.fin ?_
    refine E.next ?_
    refine C.seq ?_
    refine C.seq ?_
    refine C.reg ?_
    refine W.y (y_move rfl) rfl ?_
    refine W.y (y_eqlF rfl rfl (by omega)) rfl ?_
    refine W.y (y_move rfl) rfl ?_
    refine W.gy rfl rfl (y_move rfl) rfl ?_
    refine W.gy rfl rfl (y_eqlF rfl rfl (by omega)) rfl ?_
    refine W.y (y_pick rfl rfl) rfl ?_
    refine W.y (y_move rfl) rfl ?_
    refine W.gy rfl rfl (y_move rfl) rfl ?_
    refine W.gy rfl rfl (y_eqlF rfl rfl (by omega)) rfl ?_
    refine W.y (y_pick rfl rfl) rfl ?_
    refine W.y (y_move rfl) rfl ?_
    refine W.gy rfl rfl (y_move rfl) rfl ?_
    refine W.gy rfl rfl (y_convI rfl Try.underlying5 Try.underlying2 (by omega)) rfl ?_
    refine W.gy rfl rfl (y_move rfl) rfl ?_
    refine W.gy rfl rfl (y_eqlF rfl rfl (by omega)) rfl ?_
    refine W.y (y_pick rfl rfl) rfl ?_
    refine W.fin ?_
    refine E.next ?_
    refine C.no rfl ?_
    refine C.skip ?_
    refine E.next ?_
    refine C.seq ?_
    refine C.reg ?_
    refine W.y (y_move rfl) rfl ?_
    refine W.y (y_move rfl) rfl ?_
    refine W.fin ?_
    refine E.next ?_
    refine C.block ?_
    refine C.loop (σ := Nat) (fun k w' => k ≤ i ∧ w = w' ∧ ∀ (j : Nat) (a : UInt8), j < k → al[j]? = some a → a ≠ ch) (fun k => [(1, str al), (2, .int .i64 pad), (31, .int .i64 (al.length : Int)), (32, .int .i64 (i : Int)), (8, u8 ch), (54, .int .i64 (i : Int)), (55, .int .i64 (k : Int))]) (fun k => i - k) 0 ?_ ?_ ?_
    · exact ⟨by omega, rfl, fun j a h => by omega⟩
    · exact (Sub.cons rfl (Sub.cons rfl (Sub.cons rfl (Sub.cons rfl (Sub.cons rfl (Sub.cons rfl (Sub.cons rfl (Sub.nil _))))))))
    rintro k _ ⟨hk, rfl, hne⟩
    show C _ _ _ _ [(1, str al), (2, .int .i64 pad), (31, .int .i64 (al.length : Int)), (32, .int .i64 (i : Int)), (8, u8 ch), (54, .int .i64 (i : Int)), (55, .int .i64 (k : Int))] _
    by_cases hk2 : k < i
    · obtain ⟨d, hd⟩ : ∃ d, al[k]? = some d := ⟨_, List.getElem?_eq_getElem (by omega)⟩
      by_cases hdc : d = ch
      · have hdn : (d.toNat : Int) = ch.toNat := by rw [hdc]
        refine C.seq ?_
        refine C.reg ?_
        refine W.y (y_lssT rfl rfl (by omega)) rfl ?_
        refine W.fin ?_
        refine E.next ?_
        refine C.seq ?_
        refine C.yes rfl ?_
        refine C.skip ?_
        refine E.next ?_
        refine C.seq ?_
        refine C.block ?_
        refine C.seq ?_
        refine C.reg ?_
        refine W.y (y_move rfl) rfl ?_
        refine W.y (y_assign rfl) rfl ?_
        refine W.fin ?_
        refine E.next ?_
        refine C.seq ?_
        refine C.reg ?_
        refine W.y (y_move rfl) rfl ?_
        refine W.y (y_move rfl) rfl ?_
        refine W.y (y_ixs' rfl rfl Try.underlying9 hd) rfl ?_
        refine W.y (y_move rfl) rfl ?_
        refine W.y (y_eqlT rfl rfl (by omega)) rfl ?_
        refine W.fin ?_
        refine E.next ?_
        refine C.yes rfl ?_
        refine C.seq ?_
        refine C.reg ?_
        refine W.y (y_assign rfl) rfl ?_
        refine W.fin ?_
        refine E.next ?_
        refine C.ret ?_
        refine E.blockRet ?_
        refine E.thenRet ?_
        refine E.thenRet ?_
        refine E.blockRet ?_
        refine E.blockRet ?_
        refine E.thenRet ?_
        refine E.thenRet ?_
        refine E.blockRet ?_
        refine E.thenRet ?_
        exact E.ret1 rfl rfl ⟨rfl, .inr rfl⟩
      · have hdn : ¬ (d.toNat : Int) = ch.toNat := fun e => hdc (UInt8.toNat_inj.1 (by omega))
        refine C.seq ?_
        refine C.reg ?_
        refine W.y (y_lssT rfl rfl (by omega)) rfl ?_
        refine W.fin ?_
        refine E.next ?_
        refine C.seq ?_
        refine C.yes rfl ?_
        refine C.skip ?_
        refine E.next ?_
        refine C.seq ?_
        refine C.block ?_
        refine C.seq ?_
        refine C.reg ?_
        refine W.y (y_move rfl) rfl ?_
        refine W.y (y_assign rfl) rfl ?_
        refine W.fin ?_
        refine E.next ?_
        refine C.seq ?_
        refine C.reg ?_
        refine W.y (y_move rfl) rfl ?_
        refine W.y (y_move rfl) rfl ?_
        refine W.y (y_ixs' rfl rfl Try.underlying9 hd) rfl ?_
        refine W.y (y_move rfl) rfl ?_
        refine W.y (y_eqlF rfl rfl (by omega)) rfl ?_
        refine W.fin ?_
        refine E.next ?_
        refine C.no rfl ?_
        refine C.skip ?_
        refine E.blockNormal ?_
        refine E.next ?_
        refine C.reg ?_
        refine W.y (y_add rfl rfl (wi64 (by omega) (by omega))) rfl ?_
        refine W.y (y_move rfl) rfl ?_
        refine W.fin ?_
        refine E.again (k + 1) ⟨by omega, rfl, fun j a hj ha => ?_⟩ (Sub.cons rfl (Sub.cons rfl (Sub.cons rfl (Sub.cons rfl (Sub.cons rfl (Sub.cons rfl (Sub.cons rfl (Sub.nil _)))))))) (by omega)
        by_cases e : j = k
        · subst e; rw [hd] at ha; injection ha with ha; rw [← ha]; exact hdc
        · exact hne j a (by omega) ha
    · skip
      refine C.seq ?_
      refine C.reg ?_
      refine W.y (y_lssF rfl rfl (by omega)) rfl ?_
      refine W.fin ?_
      refine E.next ?_
      refine C.seq ?_
      refine C.no rfl ?_
      refine C.exit ?_
      refine E.thenExit ?_
      refine E.thenExit ?_
      refine E.blockOut ?_
      refine E.blockNormal ?_
      refine E.next ?_
      refine C.reg ?_
      refine W.y (y_add rfl rfl (wi64 (by omega) (by omega))) rfl ?_
      refine W.y (y_move rfl) rfl ?_
      refine W.fin ?_
      refine E.again (i + 1) ⟨by omega, rfl, fun j c hj hc => ?_, fun j k a b hk3 hjk ha hb => ?_⟩ (Sub.cons rfl (Sub.cons rfl (Sub.cons rfl (Sub.cons rfl (Sub.nil _))))) (by omega)
      · by_cases e : j = i
        · subst e; rw [hch] at hc; injection hc with hc; subst hc; exact ⟨c1, c2, c3, c4⟩
        · exact hno j c (by omega) hc
      · by_cases e : k = i
        · subst e; rw [hch] at hb; injection hb with hb; rw [← hb]; exact hne j a (by omega) ha
        · exact hnd j k a b (by omega) hjk ha hb
  · skip
    refine C.seq ?_
    refine C.reg ?_
    refine W.y (y_lssF rfl rfl (by omega)) rfl ?_
    refine W.fin ?_
    refine E.next ?_
    refine C.seq ?_
    refine C.no rfl ?_
    refine C.exit ?_
    refine E.thenExit ?_
    refine E.thenExit ?_
    refine E.blockOut ?_
    refine E.next ?_
    refine C.seq ?_
    refine C.reg ?_
    refine W.y (y_assign rfl) rfl ?_
    refine W.fin ?_
    refine E.next ?_
    refine C.ret ?_
    exact E.ret1 rfl rfl ⟨rfl, .inl ⟨rfl, ⟨h1, h2, h3, ⟨h4, h5⟩, fun j c hc => hno j c (by have := get_lt hc; omega) hc, fun j k a b hjk ha hb => hnd j k a b (by have := get_lt hb; omega) hjk ha hb⟩⟩⟩
end Go.Proofs.Ytmbglgepomeilaa
