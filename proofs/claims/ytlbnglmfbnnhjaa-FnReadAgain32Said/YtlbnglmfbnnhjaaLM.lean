/-
  Walk: decode.
-/
import Derived.Test.YtlbnglmfbnnhjaaLL
namespace Go.Proofs.Ytlbnglmfbnnhjaa
open Go.RowKit
theorem siz85 : Siz Try.prog 85 256 := siz_of (by kernel_rfl)

set_option maxRecDepth 4000 in
set_option maxHeartbeats 4000000 in
theorem decode32_ret {w : World} {ge g off m c' c sb so n : Nat} {A : Option Addr} {cs ds : Array Value} {te td : TypeId} {fz fd : Nat × Nat} {al src : List UInt8} {pad : Int} {vs : List Nat}
    (hE : Bk w ge cs te fz) (he : EncC 32 cs al pad) (hf : Fit 32 al pad) (h255 : pad = -1 → ∀ x ∈ al, x.toNat ≠ 255) (hD : Bk w g ds td fd) (hne : ge ≠ g) (hv : ∀ v ∈ vs, v < 32) (hq : ∃ q, vs.length = Pl.nlet 5 q)
    (hsrc : src = vs.map (Pl.letter al) ++ Pl.pads 8 pad vs.length) (hS : src.length = 0 ∨ (A = some ⟨sb, so, none⟩ ∧ Bs w sb so src)) (hn : src.length = n) (hc : n ≤ c) (hm : 5 * vs.length / 8 ≤ m) (ho : off + m ≤ ds.size) (hfd : off + 5 * vs.length / 8 ≤ fd.1 ∨ fd.2 ≤ off)
    (hap : sb ≠ g ∨ off ≤ so ∨ so + src.length ≤ off) (hN : n ≤ 281474976710656) :
    Ret Try.prog 46 #[.pointer (some ⟨ge, 0, none⟩), .slice (some ⟨g, off, none⟩) m c', .slice A n c] w fun v w' => (∃ e, v = .tuple #[.int .i64 ((5 * vs.length / 8 : Nat) : Int), .bool e, .nilIface] ∧ (vs.length % 8 = 0 → e = false)) ∧ Bk w' g (splice ds off (bv (Pl.unpack 5 vs))) td fd ∧ Kp (· = g) w w' := by
  subst hn
  have hsl : src.length = vs.length + (Pl.pads 8 pad vs.length).length := by rw [hsrc, List.length_append, List.length_map]
  have hpl := pads_len (pad := pad) (n := vs.length) (block := 8)
  have hrem := rem32 hq
  have hpl2 : (Pl.pads 8 pad vs.length).length = 0 ∨ (Pl.pads 8 pad vs.length).length = (8 - vs.length % 8) % 8 := by
    rw [hpl]
    split
    · exact .inr rfl
    · exact .inl rfl
  have hlo := hf.lo
  have hhi := hf.hi
  obtain ⟨z, hz, hzs⟩ := zr_of (P := Try.prog) (t := 89) (k := 8) (by kernel_rfl)
  have hB : Bs w sb so src := by
    rcases hS with h | h
    · intro i x hx; have := get_lt hx; omega
    · exact h.2
  refine ret_of Try.func46 rfl Try.ntmps46 (Nat.le_of_ble_eq_true rfl) ?_
  refine C.seq ?_
  refine C.reg ?_
  refine W.y (y_assign rfl) rfl ?_
  refine W.y (y_assign rfl) rfl ?_
  refine W.y (y_assign rfl) rfl ?_
  refine W.fin ?_
  refine E.next ?_
  refine C.seq ?_
  refine C.reg ?_
  refine W.y (y_move rfl) rfl ?_
  refine W.y (y_nilp rfl) rfl ?_
  refine W.y (y_field rfl fld87_1) rfl ?_
  refine W.y (y_loadRow rfl Try.underlying85 siz85 hE (by have := he.size; omega)) rfl ?_
  refine W.fin ?_
  refine E.next ?_
  refine C.seq ?_
  refine C.reg ?_
  refine W.y (y_assign rfl) rfl ?_
  refine W.fin ?_
  refine E.next ?_
  refine C.seq ?_
  refine C.reg ?_
  refine W.y (y_move rfl) rfl ?_
  refine W.y (y_len rfl Try.underlying24) rfl ?_
  refine W.y (y_assign rfl) rfl ?_
  refine W.fin ?_
  refine E.next ?_
  refine C.seq ?_
  refine C.block ?_
  refine C.loop (σ := Nat × Bool × Option Addr × Nat × Nat × Nat × Nat) (fun (k, en, B, r, cc, nn, d) w' => Kp (· = g) w w' ∧ (en = true → nn = 5 * vs.length / 8 ∧ vs.length % 8 ≠ 0 ∧ Bk w' g (splice ds off (bv (Pl.unpack 5 vs))) td fd) ∧ (en = false → 8 * k ≤ vs.length ∧ r = src.length - 8 * k ∧ cc = c - 8 * k ∧ nn = 5 * k ∧ d = 5 * k ∧ (8 * k < src.length → B = some ⟨sb, so + 8 * k, none⟩) ∧ Bk w' g (splice ds off (bv (Pl.unpack 5 (vs.take (8 * k))))) td fd ∧ Bs w' sb (so + 8 * k) (src.drop (8 * k)))) (fun (k, en, B, r, cc, nn, d) => [(0, .pointer (some ⟨ge, 0, none⟩)), (1, .slice (some ⟨g, off, none⟩) m c'), (10, .int .i64 (src.length : Int)), (2, .slice B r cc), (6, .int .i64 (nn : Int)), (7, .bool en), (8, .nilIface), (9, .int .i64 (d : Int))]) (fun (k, en, _, _, _, _, _) => bif en then 0 else src.length - 8 * k + 1) (0, false, A, src.length, c, 0, 0) ?_ ?_ ?_
  · exact ⟨Kp.refl _ _, (fun e => by cases e), fun _ => ⟨by omega, by omega, by omega, rfl, rfl, fun h => (hS.resolve_left (by omega)).1, by simpa [Pl.unpack, bv, splice] using hD, by simpa using hB⟩⟩
  · exact (Sub.cons rfl (Sub.cons rfl (Sub.cons rfl (Sub.cons rfl (Sub.cons rfl (Sub.cons rfl (Sub.cons rfl (Sub.cons rfl (Sub.nil _)))))))))
  rintro ⟨k, en, B, r, cc, nn, d⟩ wr ⟨hK, hen1, hen0⟩
  show C _ _ _ _ [(0, .pointer (some ⟨ge, 0, none⟩)), (1, .slice (some ⟨g, off, none⟩) m c'), (10, .int .i64 (src.length : Int)), (2, .slice B r cc), (6, .int .i64 (nn : Int)), (7, .bool en), (8, .nilIface), (9, .int .i64 (d : Int))] _
  cases en
  rotate_left
  · obtain ⟨rfl, hm8, hR⟩ := hen1 rfl
    by_cases hr0 : 0 < r
    · skip
      refine C.seq ?_
      refine C.seq ?_
      refine C.reg ?_
      refine W.y (y_move rfl) rfl ?_
      refine W.y (y_len rfl Try.underlying24) rfl ?_
      refine W.y (y_gtrT rfl rfl (by omega)) rfl ?_
      refine W.y (y_move rfl) rfl ?_
      refine W.gy rfl rfl (y_move rfl) rfl ?_
      refine W.gy rfl rfl (y_not rfl) rfl ?_
      refine W.y (y_pick rfl rfl) rfl ?_
      refine W.fin ?_
      refine E.next ?_
      refine C.no rfl ?_
      refine C.exit ?_
      refine E.thenExit ?_
      refine E.thenExit ?_
      refine E.blockOut ?_
      refine E.next ?_
      refine C.seq ?_
      refine C.reg ?_
      refine W.y (y_move rfl) rfl ?_
      refine W.y (y_move rfl) rfl ?_
      refine W.y (y_assign rfl) rfl ?_
      refine W.y (y_assign rfl) rfl ?_
      refine W.y (y_assign rfl) rfl ?_
      refine W.fin ?_
      refine E.next ?_
      refine C.ret ?_
      exact E.ret3 rfl rfl rfl rfl ⟨⟨_, rfl, fun e => absurd e hm8⟩, hR, hK⟩
    · skip
      refine C.seq ?_
      refine C.seq ?_
      refine C.reg ?_
      refine W.y (y_move rfl) rfl ?_
      refine W.y (y_len rfl Try.underlying24) rfl ?_
      refine W.y (y_gtrF rfl rfl (by omega)) rfl ?_
      refine W.y (y_move rfl) rfl ?_
      refine W.gn rfl rfl rfl ?_
      refine W.gn rfl rfl rfl ?_
      refine W.y (y_pick rfl rfl) rfl ?_
      refine W.fin ?_
      refine E.next ?_
      refine C.no rfl ?_
      refine C.exit ?_
      refine E.thenExit ?_
      refine E.thenExit ?_
      refine E.blockOut ?_
      refine E.next ?_
      refine C.seq ?_
      refine C.reg ?_
      refine W.y (y_move rfl) rfl ?_
      refine W.y (y_move rfl) rfl ?_
      refine W.y (y_assign rfl) rfl ?_
      refine W.y (y_assign rfl) rfl ?_
      refine W.y (y_assign rfl) rfl ?_
      refine W.fin ?_
      refine E.next ?_
      refine C.ret ?_
      exact E.ret3 rfl rfl rfl rfl ⟨⟨_, rfl, fun e => absurd e hm8⟩, hR, hK⟩
  obtain ⟨hk, rfl, rfl, rfl, rfl, hBk, hR, hBs⟩ := hen0 rfl
  by_cases hr0 : src.length - 8 * k = 0
  · obtain ⟨hvk, e58⟩ : vs.length = 8 * k ∧ 5 * vs.length / 8 = 5 * k := by omega
    rw [List.take_of_length_le (by omega)] at hR
    refine C.seq ?_
    refine C.seq ?_
    refine C.reg ?_
    refine W.y (y_move rfl) rfl ?_
    refine W.y (y_len rfl Try.underlying24) rfl ?_
    refine W.y (y_gtrF rfl rfl (by omega)) rfl ?_
    refine W.y (y_move rfl) rfl ?_
    refine W.gn rfl rfl rfl ?_
    refine W.gn rfl rfl rfl ?_
    refine W.y (y_pick rfl rfl) rfl ?_
    refine W.fin ?_
    refine E.next ?_
    refine C.no rfl ?_
    refine C.exit ?_
    refine E.thenExit ?_
    refine E.thenExit ?_
    refine E.blockOut ?_
    refine E.next ?_
    refine C.seq ?_
    refine C.reg ?_
    refine W.y (y_move rfl) rfl ?_
    refine W.y (y_move rfl) rfl ?_
    refine W.y (y_assign rfl) rfl ?_
    refine W.y (y_assign rfl) rfl ?_
    refine W.y (y_assign rfl) rfl ?_
    refine W.fin ?_
    refine E.next ?_
    refine C.ret ?_
    exact E.ret3 rfl rfl rfl rfl ⟨⟨_, by rw [e58], fun _ => rfl⟩, hR, hK⟩
  have hB0 := hBk (by omega)
  have hKr := hK.size
  have hgl := hR.lt
  have hEr : Bk wr ge cs te fz := hE.kept hK hne
  refine C.seq ?_
  refine C.seq ?_
  refine C.reg ?_
  refine W.y (y_move rfl) rfl ?_
  refine W.y (y_len rfl Try.underlying24) rfl ?_
  refine W.y (y_gtrT rfl rfl (by omega)) rfl ?_
  refine W.y (y_move rfl) rfl ?_
  refine W.gy rfl rfl (y_move rfl) rfl ?_
  refine W.gy rfl rfl (y_not rfl) rfl ?_
  refine W.y (y_pick rfl rfl) rfl ?_
  refine W.fin ?_
  refine E.next ?_
  refine C.yes rfl ?_
  refine C.skip ?_
  refine E.next ?_
  refine C.block ?_
  refine C.seq ?_
  refine C.reg ?_
  refine W.y (y_alloc (hz _)) rfl ?_
  refine W.fin ?_
  refine E.next ?_
  refine C.seq ?_
  refine C.reg ?_
  refine W.y (y_assign rfl) rfl ?_
  refine W.fin ?_
  refine E.next ?_
  refine C.mid (σ := Nat × Bool × Option Addr × Nat × Nat) (fun (dl, e1, B1, r1, cc1) w' => dl = min 8 (vs.length - 8 * k) ∧ e1 = decide (dl < 8) ∧ (e1 = false → r1 = src.length - 8 * (k + 1) ∧ cc1 = c - 8 * (k + 1) ∧ (8 * (k + 1) < src.length → B1 = some ⟨sb, so + 8 * (k + 1), none⟩)) ∧ (∃ dbs : Array Value, Bk w' wr.heap.size dbs 89 (0, 0) ∧ dbs.size = 8 ∧ ∀ (i v : Nat), i < dl → vs[8 * k + i]? = some v → dbs[i]? = some (.int .u8 (v : Int))) ∧ Bk w' g (splice ds off (bv (Pl.unpack 5 (vs.take (8 * k))))) td fd ∧ Bs w' sb (so + 8 * k) (src.drop (8 * k)) ∧ Bk w' ge cs te fz ∧ Kp (· = g) w w' ∧ wr.heap.size < (w').heap.size) (fun (dl, e1, B1, r1, cc1) => [(0, .pointer (some ⟨ge, 0, none⟩)), (1, .slice (some ⟨g, off, none⟩) m c'), (10, .int .i64 (src.length : Int)), (6, .int .i64 ((5 * k : Nat) : Int)), (8, .nilIface), (9, .int .i64 ((5 * k : Nat) : Int)), (11, .pointer (some ⟨wr.heap.size, 0, none⟩)), (2, .slice B1 r1 cc1), (7, .bool e1), (12, .int .i64 (dl : Int))]) ?_ ?_
  · refine C.seq ?_
    refine C.reg ?_
    refine W.y (y_assign rfl) rfl ?_
    refine W.fin ?_
    refine E.next ?_
    refine C.block ?_
    refine C.loop (σ := Nat × Option Addr) (fun (j, B1) w' => j ≤ 8 ∧ j ≤ vs.length - 8 * k ∧ (8 * k + j < src.length → B1 = some ⟨sb, so + 8 * k + j, none⟩) ∧ (∃ dbs : Array Value, Bk w' wr.heap.size dbs 89 (0, 0) ∧ dbs.size = 8 ∧ ∀ (i v : Nat), i < j → vs[8 * k + i]? = some v → dbs[i]? = some (.int .u8 (v : Int))) ∧ Bk w' g (splice ds off (bv (Pl.unpack 5 (vs.take (8 * k))))) td fd ∧ Bs w' sb (so + 8 * k) (src.drop (8 * k)) ∧ Bk w' ge cs te fz ∧ Kp (· = g) w w' ∧ wr.heap.size < (w').heap.size) (fun (j, B1) => [(0, .pointer (some ⟨ge, 0, none⟩)), (1, .slice (some ⟨g, off, none⟩) m c'), (10, .int .i64 (src.length : Int)), (6, .int .i64 ((5 * k : Nat) : Int)), (8, .nilIface), (9, .int .i64 ((5 * k : Nat) : Int)), (11, .pointer (some ⟨wr.heap.size, 0, none⟩)), (2, .slice B1 (src.length - 8 * k - j) (c - 8 * k - j)), (7, .bool false), (12, .int .i64 8), (13, .int .i64 (j : Int))]) (fun (j, _) => 8 - j) (0, B) ?_ ?_ ?_
    · exact ⟨by omega, by omega, fun _ => hB0, ⟨_, Bk.new _ _ _, hzs, fun i v h => by omega⟩, hR.alloc _, hBs.on ((Kp.refl (fun _ => False) wr).alloc (.cells z.cells 89)), hEr.alloc _, hK.alloc _, by simp⟩
    · exact (Sub.cons rfl (Sub.cons rfl (Sub.cons rfl (Sub.cons rfl (Sub.cons rfl (Sub.cons rfl (Sub.cons rfl (Sub.cons rfl (Sub.cons rfl (Sub.cons rfl (Sub.cons rfl (Sub.nil _))))))))))))
    rintro ⟨j, B1⟩ wj ⟨hj8, hjv, hB1, ⟨dbs, hdb, hds, hdv⟩, hRj, hBj, hEj, hKj, hzj⟩
    show C _ _ _ _ [(0, .pointer (some ⟨ge, 0, none⟩)), (1, .slice (some ⟨g, off, none⟩) m c'), (10, .int .i64 (src.length : Int)), (6, .int .i64 ((5 * k : Nat) : Int)), (8, .nilIface), (9, .int .i64 ((5 * k : Nat) : Int)), (11, .pointer (some ⟨wr.heap.size, 0, none⟩)), (2, .slice B1 (src.length - 8 * k - j) (c - 8 * k - j)), (7, .bool false), (12, .int .i64 8), (13, .int .i64 (j : Int))] _
    by_cases hj : j = 8
    · subst hj
      refine C.seq ?_
      refine C.seq ?_
      refine C.reg ?_
      refine W.y (y_move rfl) rfl ?_
      refine W.y (y_lssF rfl rfl (by omega)) rfl ?_
      refine W.fin ?_
      refine E.next ?_
      refine C.no rfl ?_
      refine C.exit ?_
      refine E.thenExit ?_
      refine E.thenExit ?_
      refine E.blockOut ?_
      exact E.mid (8, false, B1, src.length - 8 * k - 8, c - 8 * k - 8) ⟨by omega, by simp, fun _ => ⟨by omega, by omega, fun h => hB1 (by omega)⟩, ⟨dbs, hdb, hds, hdv⟩, hRj, hBj, hEj, hKj, hzj⟩ (Sub.cons rfl (Sub.cons rfl (Sub.cons rfl (Sub.cons rfl (Sub.cons rfl (Sub.cons rfl (Sub.cons rfl (Sub.cons rfl (Sub.cons rfl (Sub.cons rfl (Sub.nil _)))))))))))
    by_cases hlet : 8 * k + j < vs.length
    · obtain rfl := hB1 (by omega)
      obtain ⟨v, hvv⟩ : ∃ v, vs[8 * k + j]? = some v := ⟨_, List.getElem?_eq_getElem hlet⟩
      have hv32 := hv v (List.mem_of_getElem? hvv)
      have hlt := letter_get hv32 hf.len
      have hxs : (src.drop (8 * k))[j]? = some (Pl.letter al v) := by rw [List.getElem?_drop, hsrc, List.getElem?_append_left (by rw [List.length_map]; exact hlet), List.getElem?_map, hvv]; rfl
      have hcell : wj.cell? ⟨sb, so + 8 * k + j, none⟩ = some (u8 (Pl.letter al v)) := hBj j _ hxs
      have hno := hf.no v _ hlt
      have hdm := hf.dm_at hlt
      have hl8 := (Pl.letter al v).toNat_lt
      have hpb : ∃ pb : Nat, IntKind.u8.wrap pad = (pb : Int) ∧ (Pl.letter al v).toNat ≠ pb := by
        by_cases hp : pad = -1
        · subst hp
          exact ⟨255, rfl, h255 rfl _ (List.mem_of_getElem? hlt)⟩
        · exact ⟨pad.toNat, pad_u8n (by omega) hhi, by omega⟩
      obtain ⟨pb, hpb1, hpb2⟩ := hpb
      have hb2 := Bk.set hdb (0 + j) (.int .u8 (v : Int))
      refine C.seq ?_
      refine C.seq ?_
      refine C.reg ?_
      refine W.y (y_move rfl) rfl ?_
      refine W.y (y_lssT rfl rfl (by omega)) rfl ?_
      refine W.fin ?_
      refine E.next ?_
      refine C.yes rfl ?_
      refine C.skip ?_
      refine E.next ?_
      refine C.block ?_
      refine C.seq ?_
      refine C.seq ?_
      refine C.reg ?_
      refine W.y (y_move rfl) rfl ?_
      refine W.y (y_len rfl Try.underlying24) rfl ?_
      refine W.y (y_eqlF rfl rfl (by omega)) rfl ?_
      refine W.fin ?_
      refine E.next ?_
      refine C.no rfl ?_
      refine C.skip ?_
      refine E.next ?_
      refine C.seq ?_
      refine C.reg ?_
      refine W.y (y_move rfl) rfl ?_
      refine W.y (y_ixn (i := 0) rfl rfl Try.underlying24 siz5 (by omega)) rfl ?_
      refine W.y (y_load rfl pl5 hcell) rfl ?_
      refine W.y (y_assign rfl) rfl ?_
      refine W.fin ?_
      refine E.next ?_
      refine C.seq ?_
      refine C.reg ?_
      refine W.y (y_move rfl) rfl ?_
      refine W.y (y_cutl (i := 1) rfl rfl Try.underlying24 siz5 (by omega)) rfl ?_
      refine W.y (y_assign rfl) rfl ?_
      refine W.fin ?_
      refine E.next ?_
      refine C.seq ?_
      refine C.seq ?_
      refine C.reg ?_
      refine W.y (y_move rfl) rfl ?_
      refine W.y (y_move rfl) rfl ?_
      refine W.y (y_nilp rfl) rfl ?_
      refine W.y (y_field rfl fld87_2) rfl ?_
      refine W.y (y_load rfl pl21 (Bk.at_ hEj he.pad_)) rfl ?_
      refine W.y (y_conv (r := (pb : Int)) rfl Try.underlying21 Try.underlying5 hpb1) rfl ?_
      refine W.y (y_eqlF rfl rfl (by omega)) rfl ?_
      refine W.y (y_move rfl) rfl ?_
      refine W.gn rfl rfl rfl ?_
      refine W.gn rfl rfl rfl ?_
      refine W.y (y_pick rfl rfl) rfl ?_
      refine W.y (y_move rfl) rfl ?_
      refine W.gn rfl rfl rfl ?_
      refine W.gn rfl rfl rfl ?_
      refine W.gn rfl rfl rfl ?_
      refine W.y (y_pick rfl rfl) rfl ?_
      refine W.fin ?_
      refine E.next ?_
      refine C.no rfl ?_
      refine C.skip ?_
      refine E.next ?_
      refine C.seq ?_
      refine C.reg ?_
      refine W.y (y_move rfl) rfl ?_
      refine W.y (y_move rfl) rfl ?_
      refine W.y (y_move rfl) rfl ?_
      refine W.y (y_nilp rfl) rfl ?_
      refine W.y (y_field rfl fld87_1) rfl ?_
      refine W.y (y_ixa rfl rfl Try.underlying85 siz5 (by omega)) rfl ?_
      refine W.y (Does.as (y_load rfl pl5 (Bk.at_ hEj (he.dec _ hl8))) (vint (b := (v : Int)) (by rw [hdm]))) rfl ?_
      refine W.y (y_ixa rfl rfl Try.underlying89 siz5 (by omega)) rfl ?_
      refine W.s (s_store rfl rfl rfl siz5 (Bk.some hdb (by omega)) (Bk.melt hdb)) ?_
      refine W.fin ?_
      refine E.next ?_
      refine C.seq ?_
      refine C.seq ?_
      refine C.reg ?_
      refine W.y (y_move rfl) rfl ?_
      refine W.y (y_ixa rfl rfl Try.underlying89 siz5 (by omega)) rfl ?_
      refine W.y (y_load rfl pl5 (Bk.at_ hb2 (by rw [Array.getElem?_setIfInBounds, if_pos rfl, if_pos (by omega)]))) rfl ?_
      refine W.y (y_eqlF rfl rfl (by omega)) rfl ?_
      refine W.fin ?_
      refine E.next ?_
      refine C.no rfl ?_
      refine C.skip ?_
      refine E.next ?_
      refine C.reg ?_
      refine W.y (y_move rfl) rfl ?_
      refine W.y (y_add rfl rfl (wi64 (by omega) (by omega))) rfl ?_
      refine W.y (y_assign rfl) rfl ?_
      refine W.fin ?_
      refine E.blockNormal ?_
      refine E.again (j + 1, (if c - 8 * k - j = 1 then some ⟨sb, so + 8 * k + j, none⟩ else (some ⟨sb, so + 8 * k + j, none⟩ : Option Addr).map (·.add 1))) ⟨by omega, by omega, fun h => cut_addr (by omega) (by omega), ⟨_, hb2, by rw [Array.size_setIfInBounds, hds], fun i x hi hx => ?_⟩, hRj.ne (by simp only; omega) _, hBj.far (.inl (by have := World.block_lt_of_cell? wr _ (hBs j _ hxs); simp only at this; omega)) _, hEj.ne (by simp only; have := hEr.lt; omega) _, hKj.set (.inr (by simp only; omega)) _, by simp only [World.size_setCell]; exact hzj⟩ ?_ (by show 8 - (j + 1) < 8 - j; omega)
      · rw [Nat.zero_add, Array.getElem?_setIfInBounds]
        by_cases e : j = i
        · subst e
          rw [hvv] at hx
          injection hx with hx
          rw [if_pos rfl, if_pos (by omega), hx]
        · rw [if_neg e]
          exact hdv i x (by omega) hx
      · exact (Sub.cons rfl (Sub.cons rfl (Sub.cons rfl (Sub.cons rfl (Sub.cons rfl (Sub.cons rfl (Sub.cons rfl (Sub.cons (by rw [show src.length - 8 * k - (j + 1) = src.length - 8 * k - j - 1 by omega, show c - 8 * k - (j + 1) = c - 8 * k - j - 1 by omega]; rfl) (Sub.cons rfl (Sub.cons rfl (Sub.cons rfl (Sub.nil _))))))))))))
    have hvj : vs.length = 8 * k + j := by omega
    have hjj : j ≠ 0 ∧ j ≠ 1 ∧ j ≠ 3 ∧ j ≠ 6 := by omega
    by_cases hp : pad = -1
    · have hp0 : src.length = vs.length := by rw [hsl, hpl, if_neg (by omega)]; rfl
      refine C.seq ?_
      refine C.seq ?_
      refine C.reg ?_
      refine W.y (y_move rfl) rfl ?_
      refine W.y (y_lssT rfl rfl (by omega)) rfl ?_
      refine W.fin ?_
      refine E.next ?_
      refine C.yes rfl ?_
      refine C.skip ?_
      refine E.next ?_
      refine C.block ?_
      refine C.seq ?_
      refine C.seq ?_
      refine C.reg ?_
      refine W.y (y_move rfl) rfl ?_
      refine W.y (y_len rfl Try.underlying24) rfl ?_
      refine W.y (y_eqlT rfl rfl (by omega)) rfl ?_
      refine W.fin ?_
      refine E.next ?_
      refine C.yes rfl ?_
      refine C.seq ?_
      refine C.seq ?_
      refine C.reg ?_
      refine W.y (y_move rfl) rfl ?_
      refine W.y (y_nilp rfl) rfl ?_
      refine W.y (y_field rfl fld87_2) rfl ?_
      refine W.y (y_load rfl pl21 (Bk.at_ hEj he.pad_)) rfl ?_
      refine W.y (y_neqF rfl rfl (by omega)) rfl ?_
      refine W.fin ?_
      refine E.next ?_
      refine C.no rfl ?_
      refine C.skip ?_
      refine E.next ?_
      refine C.seq ?_
      refine C.reg ?_
      refine W.y (y_move rfl) rfl ?_
      refine W.y (y_assign rfl) rfl ?_
      refine W.y (y_assign rfl) rfl ?_
      refine W.fin ?_
      refine E.next ?_
      refine C.exit ?_
      refine E.thenExit ?_
      refine E.blockFar rfl ?_
      refine E.thenExit ?_
      refine E.blockOut ?_
      exact E.mid (j, true, B1, src.length - 8 * k - j, c - 8 * k - j) ⟨by omega, by simp; omega, (fun e => by cases e), ⟨dbs, hdb, hds, hdv⟩, hRj, hBj, hEj, hKj, hzj⟩ (Sub.cons rfl (Sub.cons rfl (Sub.cons rfl (Sub.cons rfl (Sub.cons rfl (Sub.cons rfl (Sub.cons rfl (Sub.cons rfl (Sub.cons rfl (Sub.cons rfl (Sub.nil _)))))))))))
    have hp0 : src.length = vs.length + (8 - j) := by rw [hsl, hpl, if_pos (by omega)]; unfold Pl.padn; omega
    obtain rfl := hB1 (by omega)
    have hpx : ∀ i, i < 8 - j → (src.drop (8 * k))[j + i]? = some (UInt8.ofNat pad.toNat) := fun i hi => by
      rw [List.getElem?_drop, hsrc, List.getElem?_append_right (by rw [List.length_map]; omega), List.length_map]
      unfold Pl.pads
      rw [if_pos (by omega), List.getElem?_replicate, if_pos (by unfold Pl.padn; omega)]
    have hpc : ∀ i, i < 8 - j → wj.cell? ⟨sb, so + 8 * k + j + i, none⟩ = some (u8 (UInt8.ofNat pad.toNat)) := fun i hi => by have := hBj (j + i) _ (hpx i hi); rwa [← Nat.add_assoc] at this
    refine C.seq ?_
    refine C.seq ?_
    refine C.reg ?_
    refine W.y (y_move rfl) rfl ?_
    refine W.y (y_lssT rfl rfl (by omega)) rfl ?_
    refine W.fin ?_
    refine E.next ?_
    refine C.yes rfl ?_
    refine C.skip ?_
    refine E.next ?_
    refine C.block ?_
    refine C.seq ?_
    refine C.seq ?_
    refine C.reg ?_
    refine W.y (y_move rfl) rfl ?_
    refine W.y (y_len rfl Try.underlying24) rfl ?_
    refine W.y (y_eqlF rfl rfl (by omega)) rfl ?_
    refine W.fin ?_
    refine E.next ?_
    refine C.no rfl ?_
    refine C.skip ?_
    refine E.next ?_
    refine C.seq ?_
    refine C.reg ?_
    refine W.y (y_move rfl) rfl ?_
    refine W.y (y_ixn (i := 0) rfl rfl Try.underlying24 siz5 (by omega)) rfl ?_
    refine W.y (y_load rfl pl5 (hpc 0 (by omega))) rfl ?_
    refine W.y (y_assign rfl) rfl ?_
    refine W.fin ?_
    refine E.next ?_
    refine C.seq ?_
    refine C.reg ?_
    refine W.y (y_move rfl) rfl ?_
    refine W.y (y_cutl (i := 1) rfl rfl Try.underlying24 siz5 (by omega)) rfl ?_
    refine W.y (y_assign rfl) rfl ?_
    refine W.fin ?_
    refine E.next ?_
    refine C.seq ?_
    refine C.seq ?_
    refine C.reg ?_
    refine W.y (y_move rfl) rfl ?_
    refine W.y (y_move rfl) rfl ?_
    refine W.y (y_nilp rfl) rfl ?_
    refine W.y (y_field rfl fld87_2) rfl ?_
    refine W.y (y_load rfl pl21 (Bk.at_ hEj he.pad_)) rfl ?_
    refine W.y (y_conv (r := (((UInt8.ofNat pad.toNat).toNat : Nat) : Int)) rfl Try.underlying21 Try.underlying5 (pad_u8 (by omega) hhi)) rfl ?_
    refine W.y (y_eqlT rfl rfl (by omega)) rfl ?_
    refine W.y (y_move rfl) rfl ?_
    refine W.gy rfl rfl (y_move rfl) rfl ?_
    refine W.gy rfl rfl (y_geqT rfl rfl (by omega)) rfl ?_
    refine W.y (y_pick rfl rfl) rfl ?_
    refine W.y (y_move rfl) rfl ?_
    refine W.gy rfl rfl (y_move rfl) rfl ?_
    refine W.gy rfl rfl (y_len rfl Try.underlying24) rfl ?_
    refine W.gy rfl rfl (y_lssT rfl rfl (by omega)) rfl ?_
    refine W.y (y_pick rfl rfl) rfl ?_
    refine W.fin ?_
    refine E.next ?_
    refine C.yes rfl ?_
    refine C.seq ?_
    refine C.seq ?_
    refine C.reg ?_
    refine W.y (y_move rfl) rfl ?_
    refine W.y (y_len rfl Try.underlying24) rfl ?_
    refine W.y (y_move rfl) rfl ?_
    refine W.y (y_add rfl rfl (wi64 (by omega) (by omega))) rfl ?_
    refine W.y (y_lssF rfl rfl (by omega)) rfl ?_
    refine W.fin ?_
    refine E.next ?_
    refine C.no rfl ?_
    refine C.skip ?_
    refine E.next ?_
    refine C.seq ?_
    refine C.seq ?_
    refine C.reg ?_
    refine W.y (y_assign rfl) rfl ?_
    refine W.fin ?_
    refine E.next ?_
    refine C.block ?_
    refine C.loop (σ := Nat) (fun i w' => i ≤ 7 - j ∧ (∃ dbs : Array Value, Bk w' wr.heap.size dbs 89 (0, 0) ∧ dbs.size = 8 ∧ ∀ (i v : Nat), i < j → vs[8 * k + i]? = some v → dbs[i]? = some (.int .u8 (v : Int))) ∧ Bk w' g (splice ds off (bv (Pl.unpack 5 (vs.take (8 * k))))) td fd ∧ Bs w' sb (so + 8 * k) (src.drop (8 * k)) ∧ Bk w' ge cs te fz ∧ Kp (· = g) w w' ∧ wr.heap.size < (w').heap.size) (fun i => [(0, .pointer (some ⟨ge, 0, none⟩)), (1, .slice (some ⟨g, off, none⟩) m c'), (10, .int .i64 (src.length : Int)), (6, .int .i64 ((5 * k : Nat) : Int)), (8, .nilIface), (9, .int .i64 ((5 * k : Nat) : Int)), (11, .pointer (some ⟨wr.heap.size, 0, none⟩)), (2, .slice (if c - 8 * k - j = 1 then some ⟨sb, so + 8 * k + j, none⟩ else (some ⟨sb, so + 8 * k + j, none⟩ : Option Addr).map (·.add 1)) (src.length - 8 * k - j - 1) (c - 8 * k - j - 1)), (7, .bool false), (13, .int .i64 (j : Int)), (15, .int .i64 (i : Int))]) (fun i => 8 - i) 0 ?_ ?_ ?_
    · exact ⟨by omega, ⟨dbs, hdb, hds, hdv⟩, hRj, hBj, hEj, hKj, hzj⟩
    · exact (Sub.cons rfl (Sub.cons rfl (Sub.cons rfl (Sub.cons rfl (Sub.cons rfl (Sub.cons rfl (Sub.cons rfl (Sub.cons rfl (Sub.cons rfl (Sub.cons rfl (Sub.cons rfl (Sub.nil _))))))))))))
    rintro i wi ⟨hi, ⟨dbi, hdbi, hdsi, hdvi⟩, hRi, hBi, hEi, hKi, hzi⟩
    show C _ _ _ _ [(0, .pointer (some ⟨ge, 0, none⟩)), (1, .slice (some ⟨g, off, none⟩) m c'), (10, .int .i64 (src.length : Int)), (6, .int .i64 ((5 * k : Nat) : Int)), (8, .nilIface), (9, .int .i64 ((5 * k : Nat) : Int)), (11, .pointer (some ⟨wr.heap.size, 0, none⟩)), (2, .slice (if c - 8 * k - j = 1 then some ⟨sb, so + 8 * k + j, none⟩ else (some ⟨sb, so + 8 * k + j, none⟩ : Option Addr).map (·.add 1)) (src.length - 8 * k - j - 1) (c - 8 * k - j - 1)), (7, .bool false), (13, .int .i64 (j : Int)), (15, .int .i64 (i : Int))] _
    by_cases hi7 : i < 7 - j
    · have hB2 : (if c - 8 * k - j = 1 then some ⟨sb, so + 8 * k + j, none⟩ else (some ⟨sb, so + 8 * k + j, none⟩ : Option Addr).map (·.add 1)) = some ⟨sb, so + 8 * k + j + 1, none⟩ := cut_addr rfl (by omega)
      rw [hB2]
      have hpi : wi.drew.cell? ⟨sb, so + 8 * k + j + 1 + i, none⟩ = some (u8 (UInt8.ofNat pad.toNat)) := by have := hBi (j + (1 + i)) _ (hpx (1 + i) (by omega)); rw [← Nat.add_assoc, ← Nat.add_assoc] at this; exact this
      refine C.seq ?_
      refine C.seq ?_
      refine C.reg ?_
      refine W.y (y_move rfl) rfl ?_
      refine W.y (y_move rfl) rfl ?_
      refine W.y (y_sub rfl rfl (wi64 (by omega) (by omega))) rfl ?_
      refine W.y (y_lssT rfl rfl (by omega)) rfl ?_
      refine W.fin ?_
      refine E.next ?_
      refine C.yes rfl ?_
      refine C.skip ?_
      refine E.next ?_
      refine C.seq ?_
      refine C.block ?_
      refine C.seq ?_
      refine C.still mixed (by kernel_rfl) ?_
      refine S.y (y_move rfl) rfl ?_
      refine S.y (y_len rfl Try.underlying24) rfl ?_
      refine S.y (y_move rfl) rfl ?_
      refine S.y (y_gtrT rfl rfl (by omega)) rfl ?_
      refine S.y (y_move rfl) rfl ?_
      refine S.gy rfl rfl (y_move rfl) rfl ?_
      refine S.gy rfl rfl (y_move rfl) rfl ?_
      refine S.gy rfl rfl (y_ixn rfl rfl Try.underlying24 siz5 (by omega)) rfl ?_
      refine S.gy rfl rfl (y_load rfl pl5 hpi) rfl ?_
      refine S.gy rfl rfl (y_move rfl) rfl ?_
      refine S.gy rfl rfl (y_nilp rfl) rfl ?_
      refine S.gy rfl rfl (y_field rfl fld87_2) rfl ?_
      refine S.gy rfl rfl (y_load rfl pl21 (Bk.at_ hEi.drew he.pad_)) rfl ?_
      refine S.gy rfl rfl (y_conv (r := (((UInt8.ofNat pad.toNat).toNat : Nat) : Int)) rfl Try.underlying21 Try.underlying5 (pad_u8 (by omega) hhi)) rfl ?_
      refine S.gy rfl rfl (y_neqF rfl rfl (by omega)) rfl ?_
      refine S.y (y_pick rfl rfl) rfl ?_
      refine S.end_ ?_
      refine E.next ?_
      refine C.no rfl ?_
      refine C.skip ?_
      refine E.blockNormal ?_
      refine E.next ?_
      refine C.reg ?_
      refine W.y (y_move rfl) rfl ?_
      refine W.y (y_add rfl rfl (wi64 (by omega) (by omega))) rfl ?_
      refine W.y (y_assign rfl) rfl ?_
      refine W.fin ?_
      exact E.again (i + 1) ⟨by omega, ⟨dbi, hdbi.drew, hdsi, hdvi⟩, hRi.drew, hBi, hEi.drew, hKi.drew, hzi⟩ (Sub.cons rfl (Sub.cons rfl (Sub.cons rfl (Sub.cons rfl (Sub.cons rfl (Sub.cons rfl (Sub.cons rfl (Sub.cons rfl (Sub.cons rfl (Sub.cons rfl (Sub.cons rfl (Sub.nil _)))))))))))) (by omega)
    · skip
      refine C.seq ?_
      refine C.seq ?_
      refine C.reg ?_
      refine W.y (y_move rfl) rfl ?_
      refine W.y (y_move rfl) rfl ?_
      refine W.y (y_sub rfl rfl (wi64 (by omega) (by omega))) rfl ?_
      refine W.y (y_lssF rfl rfl (by omega)) rfl ?_
      refine W.fin ?_
      refine E.next ?_
      refine C.no rfl ?_
      refine C.exit ?_
      refine E.thenExit ?_
      refine E.thenExit ?_
      refine E.blockOut ?_
      refine E.next ?_
      refine C.seq ?_
      refine C.reg ?_
      refine W.y (y_move rfl) rfl ?_
      refine W.y (y_assign rfl) rfl ?_
      refine W.y (y_assign rfl) rfl ?_
      refine W.fin ?_
      refine E.next ?_
      refine C.seq ?_
      refine C.seq ?_
      refine C.reg ?_
      refine W.y (y_move rfl) rfl ?_
      refine W.y (y_eqlF rfl rfl (by omega)) rfl ?_
      refine W.y (y_move rfl) rfl ?_
      refine W.gy rfl rfl (y_move rfl) rfl ?_
      refine W.gy rfl rfl (y_eqlF rfl rfl (by omega)) rfl ?_
      refine W.y (y_pick rfl rfl) rfl ?_
      refine W.y (y_move rfl) rfl ?_
      refine W.gy rfl rfl (y_move rfl) rfl ?_
      refine W.gy rfl rfl (y_eqlF rfl rfl (by omega)) rfl ?_
      refine W.y (y_pick rfl rfl) rfl ?_
      refine W.fin ?_
      refine E.next ?_
      refine C.no rfl ?_
      refine C.skip ?_
      refine E.next ?_
      refine C.exit ?_
      refine E.thenExit ?_
      refine E.blockFar rfl ?_
      refine E.thenExit ?_
      refine E.blockOut ?_
      exact E.mid (j, true, _, _, _) ⟨by omega, by simp; omega, (fun e => by cases e), ⟨dbi, hdbi, hdsi, hdvi⟩, hRi, hBi, hEi, hKi, hzi⟩ (Sub.cons rfl (Sub.cons rfl (Sub.cons rfl (Sub.cons rfl (Sub.cons rfl (Sub.cons rfl (Sub.cons rfl (Sub.cons rfl (Sub.cons rfl (Sub.cons rfl (Sub.nil _)))))))))))
  rintro ⟨dl, e1, B1, r1, cc1⟩ wm ⟨hdl, he1, hrest, ⟨dbs, hdb, hds, hdv⟩, hRm, hBm, hEm, hKm, hzm⟩
  show C _ _ _ _ [(0, .pointer (some ⟨ge, 0, none⟩)), (1, .slice (some ⟨g, off, none⟩) m c'), (10, .int .i64 (src.length : Int)), (6, .int .i64 ((5 * k : Nat) : Int)), (8, .nilIface), (9, .int .i64 ((5 * k : Nat) : Int)), (11, .pointer (some ⟨wr.heap.size, 0, none⟩)), (2, .slice B1 r1 cc1), (7, .bool e1), (12, .int .i64 (dl : Int))] _
  have hdls : dl = 8 ∨ dl = 7 ∨ dl = 5 ∨ dl = 4 ∨ dl = 2 := by omega
  have hul : (bv (Pl.unpack 5 (vs.take (8 * k)))).length = 5 * k := by rw [bv_length, Pl.unpack_length, List.length_take]; omega
  rcases hdls with rfl | rfl | rfl | rfl | rfl
  · have hvl : 8 * (k + 1) ≤ vs.length := by omega
    obtain ⟨v0, q0⟩ : ∃ v, vs[8 * k + 0]? = some v := ⟨_, List.getElem?_eq_getElem (by omega)⟩
    have t0 := hv v0 (List.mem_of_getElem? q0)
    obtain ⟨v1, q1⟩ : ∃ v, vs[8 * k + 1]? = some v := ⟨_, List.getElem?_eq_getElem (by omega)⟩
    have t1 := hv v1 (List.mem_of_getElem? q1)
    obtain ⟨v2, q2⟩ : ∃ v, vs[8 * k + 2]? = some v := ⟨_, List.getElem?_eq_getElem (by omega)⟩
    have t2 := hv v2 (List.mem_of_getElem? q2)
    obtain ⟨v3, q3⟩ : ∃ v, vs[8 * k + 3]? = some v := ⟨_, List.getElem?_eq_getElem (by omega)⟩
    have t3 := hv v3 (List.mem_of_getElem? q3)
    obtain ⟨v4, q4⟩ : ∃ v, vs[8 * k + 4]? = some v := ⟨_, List.getElem?_eq_getElem (by omega)⟩
    have t4 := hv v4 (List.mem_of_getElem? q4)
    obtain ⟨v5, q5⟩ : ∃ v, vs[8 * k + 5]? = some v := ⟨_, List.getElem?_eq_getElem (by omega)⟩
    have t5 := hv v5 (List.mem_of_getElem? q5)
    obtain ⟨v6, q6⟩ : ∃ v, vs[8 * k + 6]? = some v := ⟨_, List.getElem?_eq_getElem (by omega)⟩
    have t6 := hv v6 (List.mem_of_getElem? q6)
    obtain ⟨v7, q7⟩ : ∃ v, vs[8 * k + 7]? = some v := ⟨_, List.getElem?_eq_getElem (by omega)⟩
    have t7 := hv v7 (List.mem_of_getElem? q7)
    obtain rfl : e1 = false := by rw [he1]; rfl
    obtain ⟨rfl, rfl, hBn⟩ := hrest rfl
    refine C.seq ?_
    refine C.seq ?_
    refine C.reg ?_
    refine W.y (y_move rfl) rfl ?_
    refine W.fin ?_
    refine E.next ?_
    refine C.block ?_
    refine C.seq ?_
    refine C.block ?_
    refine C.seq ?_
    refine C.block ?_
    refine C.seq ?_
    refine C.block ?_
    refine C.seq ?_
    refine C.block ?_
    refine C.seq ?_
    refine C.block ?_
    refine C.seq ?_
    refine C.seq ?_
    refine C.seq ?_
    refine C.reg ?_
    refine W.y (y_eqlT rfl rfl (by omega)) rfl ?_
    refine W.y (y_assign rfl) rfl ?_
    refine W.fin ?_
    refine E.next ?_
    refine C.yes rfl ?_
    refine C.exit ?_
    refine E.thenExit ?_
    refine E.thenExit ?_
    refine E.blockOut ?_
    refine E.next ?_
    refine C.seq ?_
    refine C.reg ?_
    refine W.y (y_move rfl) rfl ?_
    refine W.y (y_move rfl) rfl ?_
    refine W.y (Does.as (y_add rfl rfl (wi64 (by omega) (by omega))) (vint (b := ((5 * k + 4 : Nat) : Int)) (by omega))) rfl ?_
    refine W.y (y_ixa (i := 6) rfl rfl Try.underlying89 siz5 (by omega)) rfl ?_
    refine W.y (y_load rfl pl5 (Bk.at_ hdb (hdv 6 v6 (by omega) q6))) rfl ?_
    refine W.y (y_shlM uk8 (s := 5) rfl rfl (by omega)) rfl ?_
    refine W.y (y_ixa (i := 7) rfl rfl Try.underlying89 siz5 (by omega)) rfl ?_
    refine W.y (y_load rfl pl5 (Bk.at_ hdb (hdv 7 v7 (by omega) q7))) rfl ?_
    refine W.y (y_join uk8 5 rfl rfl (by omega) (by omega) (by omega) (by omega)) rfl ?_
    refine W.y (y_ixn rfl rfl Try.underlying24 siz5 (by omega)) rfl ?_
    refine W.s (s_store rfl rfl rfl siz5 (Bk.some hRm (by rw [splice_size]; omega)) (Bk.frozen hRm (by omega))) ?_
    refine W.fin ?_
    refine E.next ?_
    refine C.reg ?_
    refine W.y (y_move rfl) rfl ?_
    refine W.y (Does.as (y_add rfl rfl (wi64 (by omega) (by omega))) (vint (b := ((5 * k + 1 : Nat) : Int)) (by omega))) rfl ?_
    refine W.y (y_assign rfl) rfl ?_
    refine W.fin ?_
    refine E.blockNormal ?_
    refine E.next ?_
    refine C.seq ?_
    refine C.reg ?_
    refine W.y (y_move rfl) rfl ?_
    refine W.y (y_move rfl) rfl ?_
    refine W.y (Does.as (y_add rfl rfl (wi64 (by omega) (by omega))) (vint (b := ((5 * k + 3 : Nat) : Int)) (by omega))) rfl ?_
    refine W.y (y_ixa (i := 4) rfl rfl Try.underlying89 siz5 (by omega)) rfl ?_
    refine W.y (y_load rfl pl5 (Bk.at_ (Bk.ne hdb (by simp only; omega) _) (hdv 4 v4 (by omega) q4))) rfl ?_
    refine W.y (y_shlM uk8 (s := 7) rfl rfl (by omega)) rfl ?_
    refine W.y (y_ixa (i := 5) rfl rfl Try.underlying89 siz5 (by omega)) rfl ?_
    refine W.y (y_load rfl pl5 (Bk.at_ (Bk.ne hdb (by simp only; omega) _) (hdv 5 v5 (by omega) q5))) rfl ?_
    refine W.y (y_shlM uk8 (s := 2) rfl rfl (by omega)) rfl ?_
    refine W.y (y_join uk8 7 rfl rfl (by omega) (by omega) (by omega) (by omega)) rfl ?_
    refine W.y (y_ixa (i := 6) rfl rfl Try.underlying89 siz5 (by omega)) rfl ?_
    refine W.y (y_load rfl pl5 (Bk.at_ (Bk.ne hdb (by simp only; omega) _) (hdv 6 v6 (by omega) q6))) rfl ?_
    refine W.y (y_shr uk8 (s := 3) rfl rfl (by omega)) rfl ?_
    refine W.y (y_join uk8 2 rfl rfl (by omega) (by omega) (by omega) (by omega)) rfl ?_
    refine W.y (y_ixn rfl rfl Try.underlying24 siz5 (by omega)) rfl ?_
    refine W.s (s_store rfl rfl rfl siz5 (Bk.some (Bk.set hRm _ _) (by simp only [Array.size_setIfInBounds, splice_size]; omega)) (Bk.frozen (Bk.set hRm _ _) (by omega))) ?_
    refine W.fin ?_
    refine E.next ?_
    refine C.reg ?_
    refine W.y (y_move rfl) rfl ?_
    refine W.y (Does.as (y_add rfl rfl (wi64 (by omega) (by omega))) (vint (b := ((5 * k + 2 : Nat) : Int)) (by omega))) rfl ?_
    refine W.y (y_assign rfl) rfl ?_
    refine W.fin ?_
    refine E.blockNormal ?_
    refine E.next ?_
    refine C.seq ?_
    refine C.reg ?_
    refine W.y (y_move rfl) rfl ?_
    refine W.y (y_move rfl) rfl ?_
    refine W.y (Does.as (y_add rfl rfl (wi64 (by omega) (by omega))) (vint (b := ((5 * k + 2 : Nat) : Int)) (by omega))) rfl ?_
    refine W.y (y_ixa (i := 3) rfl rfl Try.underlying89 siz5 (by omega)) rfl ?_
    refine W.y (y_load rfl pl5 (Bk.at_ (Bk.ne (Bk.ne hdb (by simp only; omega) _) (by simp only; omega) _) (hdv 3 v3 (by omega) q3))) rfl ?_
    refine W.y (y_shlM uk8 (s := 4) rfl rfl (by omega)) rfl ?_
    refine W.y (y_ixa (i := 4) rfl rfl Try.underlying89 siz5 (by omega)) rfl ?_
    refine W.y (y_load rfl pl5 (Bk.at_ (Bk.ne (Bk.ne hdb (by simp only; omega) _) (by simp only; omega) _) (hdv 4 v4 (by omega) q4))) rfl ?_
    refine W.y (y_shr uk8 (s := 1) rfl rfl (by omega)) rfl ?_
    refine W.y (y_join uk8 4 rfl rfl (by omega) (by omega) (by omega) (by omega)) rfl ?_
    refine W.y (y_ixn rfl rfl Try.underlying24 siz5 (by omega)) rfl ?_
    refine W.s (s_store rfl rfl rfl siz5 (Bk.some (Bk.set (Bk.set hRm _ _) _ _) (by simp only [Array.size_setIfInBounds, splice_size]; omega)) (Bk.frozen (Bk.set (Bk.set hRm _ _) _ _) (by omega))) ?_
    refine W.fin ?_
    refine E.next ?_
    refine C.reg ?_
    refine W.y (y_move rfl) rfl ?_
    refine W.y (Does.as (y_add rfl rfl (wi64 (by omega) (by omega))) (vint (b := ((5 * k + 3 : Nat) : Int)) (by omega))) rfl ?_
    refine W.y (y_assign rfl) rfl ?_
    refine W.fin ?_
    refine E.blockNormal ?_
    refine E.next ?_
    refine C.seq ?_
    refine C.reg ?_
    refine W.y (y_move rfl) rfl ?_
    refine W.y (y_move rfl) rfl ?_
    refine W.y (Does.as (y_add rfl rfl (wi64 (by omega) (by omega))) (vint (b := ((5 * k + 1 : Nat) : Int)) (by omega))) rfl ?_
    refine W.y (y_ixa (i := 1) rfl rfl Try.underlying89 siz5 (by omega)) rfl ?_
    refine W.y (y_load rfl pl5 (Bk.at_ (Bk.ne (Bk.ne (Bk.ne hdb (by simp only; omega) _) (by simp only; omega) _) (by simp only; omega) _) (hdv 1 v1 (by omega) q1))) rfl ?_
    refine W.y (y_shlM uk8 (s := 6) rfl rfl (by omega)) rfl ?_
    refine W.y (y_ixa (i := 2) rfl rfl Try.underlying89 siz5 (by omega)) rfl ?_
    refine W.y (y_load rfl pl5 (Bk.at_ (Bk.ne (Bk.ne (Bk.ne hdb (by simp only; omega) _) (by simp only; omega) _) (by simp only; omega) _) (hdv 2 v2 (by omega) q2))) rfl ?_
    refine W.y (y_shlM uk8 (s := 1) rfl rfl (by omega)) rfl ?_
    refine W.y (y_join uk8 6 rfl rfl (by omega) (by omega) (by omega) (by omega)) rfl ?_
    refine W.y (y_ixa (i := 3) rfl rfl Try.underlying89 siz5 (by omega)) rfl ?_
    refine W.y (y_load rfl pl5 (Bk.at_ (Bk.ne (Bk.ne (Bk.ne hdb (by simp only; omega) _) (by simp only; omega) _) (by simp only; omega) _) (hdv 3 v3 (by omega) q3))) rfl ?_
    refine W.y (y_shr uk8 (s := 4) rfl rfl (by omega)) rfl ?_
    refine W.y (y_join uk8 1 rfl rfl (by omega) (by omega) (by omega) (by omega)) rfl ?_
    refine W.y (y_ixn rfl rfl Try.underlying24 siz5 (by omega)) rfl ?_
    refine W.s (s_store rfl rfl rfl siz5 (Bk.some (Bk.set (Bk.set (Bk.set hRm _ _) _ _) _ _) (by simp only [Array.size_setIfInBounds, splice_size]; omega)) (Bk.frozen (Bk.set (Bk.set (Bk.set hRm _ _) _ _) _ _) (by omega))) ?_
    refine W.fin ?_
    refine E.next ?_
    refine C.reg ?_
    refine W.y (y_move rfl) rfl ?_
    refine W.y (Does.as (y_add rfl rfl (wi64 (by omega) (by omega))) (vint (b := ((5 * k + 4 : Nat) : Int)) (by omega))) rfl ?_
    refine W.y (y_assign rfl) rfl ?_
    refine W.fin ?_
    refine E.blockNormal ?_
    refine E.next ?_
    refine C.seq ?_
    refine C.seq ?_
    refine C.reg ?_
    refine W.y (y_move rfl) rfl ?_
    refine W.y (y_move rfl) rfl ?_
    refine W.y (Does.as (y_add rfl rfl (wi64 (by omega) (by omega))) (vint (b := ((5 * k + 0 : Nat) : Int)) (by omega))) rfl ?_
    refine W.y (y_ixa (i := 0) rfl rfl Try.underlying89 siz5 (by omega)) rfl ?_
    refine W.y (y_load rfl pl5 (Bk.at_ (Bk.ne (Bk.ne (Bk.ne (Bk.ne hdb (by simp only; omega) _) (by simp only; omega) _) (by simp only; omega) _) (by simp only; omega) _) (hdv 0 v0 (by omega) q0))) rfl ?_
    refine W.y (y_shlM uk8 (s := 3) rfl rfl (by omega)) rfl ?_
    refine W.y (y_ixa (i := 1) rfl rfl Try.underlying89 siz5 (by omega)) rfl ?_
    refine W.y (y_load rfl pl5 (Bk.at_ (Bk.ne (Bk.ne (Bk.ne (Bk.ne hdb (by simp only; omega) _) (by simp only; omega) _) (by simp only; omega) _) (by simp only; omega) _) (hdv 1 v1 (by omega) q1))) rfl ?_
    refine W.y (y_shr uk8 (s := 2) rfl rfl (by omega)) rfl ?_
    refine W.y (y_join uk8 3 rfl rfl (by omega) (by omega) (by omega) (by omega)) rfl ?_
    refine W.y (y_ixn rfl rfl Try.underlying24 siz5 (by omega)) rfl ?_
    refine W.s (s_store rfl rfl rfl siz5 (Bk.some (Bk.set (Bk.set (Bk.set (Bk.set hRm _ _) _ _) _ _) _ _) (by simp only [Array.size_setIfInBounds, splice_size]; omega)) (Bk.frozen (Bk.set (Bk.set (Bk.set (Bk.set hRm _ _) _ _) _ _) _ _) (by omega))) ?_
    refine W.fin ?_
    refine E.next ?_
    refine C.reg ?_
    refine W.y (y_move rfl) rfl ?_
    refine W.y (Does.as (y_add rfl rfl (wi64 (by omega) (by omega))) (vint (b := ((5 * k + 5 : Nat) : Int)) (by omega))) rfl ?_
    refine W.y (y_assign rfl) rfl ?_
    refine W.fin ?_
    refine E.next ?_
    refine C.exit ?_
    refine E.blockOut ?_
    refine E.next ?_
    refine C.reg ?_
    refine W.y (y_move rfl) rfl ?_
    refine W.y (Does.as (y_add rfl rfl (wi64 (by omega) (by omega))) (vint (b := ((5 * (k + 1) : Nat) : Int)) (by omega))) rfl ?_
    refine W.y (y_assign rfl) rfl ?_
    refine W.fin ?_
    refine E.blockNormal ?_
    have hun : Pl.unpack 5 (vs.take (8 * k + 8)) = Pl.unpack 5 (vs.take (8 * k)) ++ ([v0 * 2 ^ 3 % 256 + v1 / 2 ^ 2, v1 * 2 ^ 6 % 256 + v2 * 2 ^ 1 % 256 + v3 / 2 ^ 4, v3 * 2 ^ 4 % 256 + v4 / 2 ^ 1, v4 * 2 ^ 7 % 256 + v5 * 2 ^ 2 % 256 + v6 / 2 ^ 3, v6 * 2 ^ 5 % 256 + v7]).map UInt8.ofNat := by
      rw [take_more8 (m := 8 * k) q0 q1 q2 q3 q4 q5 q6 q7, Pl.unpack_append (m := 5 * k) (by omega) _ _ (by rw [List.length_take]; omega), unpack32_8 t0 t1 t2 t3 t4 t5 t6 t7]
    have hB8 : Bs wm sb (so + 8 * (k + 1)) (src.drop (8 * (k + 1))) := fun i x hx => by
      have := hBm (8 + i) x (by rw [List.getElem?_drop] at hx ⊢; rw [← hx]; congr 1; omega)
      rwa [show so + 8 * k + (8 + i) = so + 8 * (k + 1) + i by omega] at this
    have hdl8 : (src.drop (8 * (k + 1))).length = src.length - 8 * (k + 1) := List.length_drop
    refine E.again (k + 1, false, B1, src.length - 8 * (k + 1), c - 8 * (k + 1), 5 * (k + 1), 5 * (k + 1)) ⟨Kp.set (Kp.set (Kp.set (Kp.set (Kp.set hKm (.inl rfl) _) (.inl rfl) _) (.inl rfl) _) (.inl rfl) _) (.inl rfl) _, (fun e => by cases e), fun _ => ⟨by omega, rfl, rfl, rfl, rfl, hBn, ?_, Bs.far (Bs.far (Bs.far (Bs.far (Bs.far hB8 (by omega) _) (by omega) _) (by omega) _) (by omega) _) (by omega) _⟩⟩ (Sub.cons rfl (Sub.cons rfl (Sub.cons rfl (Sub.cons rfl (Sub.cons rfl (Sub.cons rfl (Sub.cons rfl (Sub.cons rfl (Sub.nil _))))))))) (by show (src.length - 8 * (k + 1) + 1) < src.length - 8 * k + 1; omega)
    show Bk _ g (splice ds off (bv (Pl.unpack 5 (vs.take (8 * k + 8))))) td fd
    rw [hun, bv_append, splice_append, hul, bytes_of (by simp; omega)]
    simp only [List.map_cons, List.map_nil]
    rw [← rev5]
    exact Bk.set (Bk.set (Bk.set (Bk.set (Bk.set hRm _ _) _ _) _ _) _ _) _ _
  · have hvl : vs.length = 8 * k + 7 := by omega
    obtain ⟨v0, q0⟩ : ∃ v, vs[8 * k + 0]? = some v := ⟨_, List.getElem?_eq_getElem (by omega)⟩
    have t0 := hv v0 (List.mem_of_getElem? q0)
    obtain ⟨v1, q1⟩ : ∃ v, vs[8 * k + 1]? = some v := ⟨_, List.getElem?_eq_getElem (by omega)⟩
    have t1 := hv v1 (List.mem_of_getElem? q1)
    obtain ⟨v2, q2⟩ : ∃ v, vs[8 * k + 2]? = some v := ⟨_, List.getElem?_eq_getElem (by omega)⟩
    have t2 := hv v2 (List.mem_of_getElem? q2)
    obtain ⟨v3, q3⟩ : ∃ v, vs[8 * k + 3]? = some v := ⟨_, List.getElem?_eq_getElem (by omega)⟩
    have t3 := hv v3 (List.mem_of_getElem? q3)
    obtain ⟨v4, q4⟩ : ∃ v, vs[8 * k + 4]? = some v := ⟨_, List.getElem?_eq_getElem (by omega)⟩
    have t4 := hv v4 (List.mem_of_getElem? q4)
    obtain ⟨v5, q5⟩ : ∃ v, vs[8 * k + 5]? = some v := ⟨_, List.getElem?_eq_getElem (by omega)⟩
    have t5 := hv v5 (List.mem_of_getElem? q5)
    obtain ⟨v6, q6⟩ : ∃ v, vs[8 * k + 6]? = some v := ⟨_, List.getElem?_eq_getElem (by omega)⟩
    have t6 := hv v6 (List.mem_of_getElem? q6)
    obtain rfl : e1 = true := by rw [he1]; rfl
    refine C.seq ?_
    refine C.seq ?_
    refine C.reg ?_
    refine W.y (y_move rfl) rfl ?_
    refine W.fin ?_
    refine E.next ?_
    refine C.block ?_
    refine C.seq ?_
    refine C.block ?_
    refine C.seq ?_
    refine C.block ?_
    refine C.seq ?_
    refine C.block ?_
    refine C.seq ?_
    refine C.block ?_
    refine C.seq ?_
    refine C.block ?_
    refine C.seq ?_
    refine C.seq ?_
    refine C.seq ?_
    refine C.reg ?_
    refine W.y (y_eqlF rfl rfl (by omega)) rfl ?_
    refine W.y (y_assign rfl) rfl ?_
    refine W.fin ?_
    refine E.next ?_
    refine C.no rfl ?_
    refine C.skip ?_
    refine E.next ?_
    refine C.seq ?_
    refine C.seq ?_
    refine C.reg ?_
    refine W.y (y_eqlT rfl rfl (by omega)) rfl ?_
    refine W.y (y_assign rfl) rfl ?_
    refine W.fin ?_
    refine E.next ?_
    refine C.yes rfl ?_
    refine C.exit ?_
    refine E.thenExit ?_
    refine E.thenExit ?_
    refine E.blockFar rfl ?_
    refine E.thenExit ?_
    refine E.blockOut ?_
    refine E.next ?_
    refine C.seq ?_
    refine C.reg ?_
    refine W.y (y_move rfl) rfl ?_
    refine W.y (y_move rfl) rfl ?_
    refine W.y (Does.as (y_add rfl rfl (wi64 (by omega) (by omega))) (vint (b := ((5 * k + 3 : Nat) : Int)) (by omega))) rfl ?_
    refine W.y (y_ixa (i := 4) rfl rfl Try.underlying89 siz5 (by omega)) rfl ?_
    refine W.y (y_load rfl pl5 (Bk.at_ hdb (hdv 4 v4 (by omega) q4))) rfl ?_
    refine W.y (y_shlM uk8 (s := 7) rfl rfl (by omega)) rfl ?_
    refine W.y (y_ixa (i := 5) rfl rfl Try.underlying89 siz5 (by omega)) rfl ?_
    refine W.y (y_load rfl pl5 (Bk.at_ hdb (hdv 5 v5 (by omega) q5))) rfl ?_
    refine W.y (y_shlM uk8 (s := 2) rfl rfl (by omega)) rfl ?_
    refine W.y (y_join uk8 7 rfl rfl (by omega) (by omega) (by omega) (by omega)) rfl ?_
    refine W.y (y_ixa (i := 6) rfl rfl Try.underlying89 siz5 (by omega)) rfl ?_
    refine W.y (y_load rfl pl5 (Bk.at_ hdb (hdv 6 v6 (by omega) q6))) rfl ?_
    refine W.y (y_shr uk8 (s := 3) rfl rfl (by omega)) rfl ?_
    refine W.y (y_join uk8 2 rfl rfl (by omega) (by omega) (by omega) (by omega)) rfl ?_
    refine W.y (y_ixn rfl rfl Try.underlying24 siz5 (by omega)) rfl ?_
    refine W.s (s_store rfl rfl rfl siz5 (Bk.some hRm (by rw [splice_size]; omega)) (Bk.frozen hRm (by omega))) ?_
    refine W.fin ?_
    refine E.next ?_
    refine C.reg ?_
    refine W.y (y_move rfl) rfl ?_
    refine W.y (Does.as (y_add rfl rfl (wi64 (by omega) (by omega))) (vint (b := ((5 * k + 1 : Nat) : Int)) (by omega))) rfl ?_
    refine W.y (y_assign rfl) rfl ?_
    refine W.fin ?_
    refine E.blockNormal ?_
    refine E.next ?_
    refine C.seq ?_
    refine C.reg ?_
    refine W.y (y_move rfl) rfl ?_
    refine W.y (y_move rfl) rfl ?_
    refine W.y (Does.as (y_add rfl rfl (wi64 (by omega) (by omega))) (vint (b := ((5 * k + 2 : Nat) : Int)) (by omega))) rfl ?_
    refine W.y (y_ixa (i := 3) rfl rfl Try.underlying89 siz5 (by omega)) rfl ?_
    refine W.y (y_load rfl pl5 (Bk.at_ (Bk.ne hdb (by simp only; omega) _) (hdv 3 v3 (by omega) q3))) rfl ?_
    refine W.y (y_shlM uk8 (s := 4) rfl rfl (by omega)) rfl ?_
    refine W.y (y_ixa (i := 4) rfl rfl Try.underlying89 siz5 (by omega)) rfl ?_
    refine W.y (y_load rfl pl5 (Bk.at_ (Bk.ne hdb (by simp only; omega) _) (hdv 4 v4 (by omega) q4))) rfl ?_
    refine W.y (y_shr uk8 (s := 1) rfl rfl (by omega)) rfl ?_
    refine W.y (y_join uk8 4 rfl rfl (by omega) (by omega) (by omega) (by omega)) rfl ?_
    refine W.y (y_ixn rfl rfl Try.underlying24 siz5 (by omega)) rfl ?_
    refine W.s (s_store rfl rfl rfl siz5 (Bk.some (Bk.set hRm _ _) (by simp only [Array.size_setIfInBounds, splice_size]; omega)) (Bk.frozen (Bk.set hRm _ _) (by omega))) ?_
    refine W.fin ?_
    refine E.next ?_
    refine C.reg ?_
    refine W.y (y_move rfl) rfl ?_
    refine W.y (Does.as (y_add rfl rfl (wi64 (by omega) (by omega))) (vint (b := ((5 * k + 2 : Nat) : Int)) (by omega))) rfl ?_
    refine W.y (y_assign rfl) rfl ?_
    refine W.fin ?_
    refine E.blockNormal ?_
    refine E.next ?_
    refine C.seq ?_
    refine C.reg ?_
    refine W.y (y_move rfl) rfl ?_
    refine W.y (y_move rfl) rfl ?_
    refine W.y (Does.as (y_add rfl rfl (wi64 (by omega) (by omega))) (vint (b := ((5 * k + 1 : Nat) : Int)) (by omega))) rfl ?_
    refine W.y (y_ixa (i := 1) rfl rfl Try.underlying89 siz5 (by omega)) rfl ?_
    refine W.y (y_load rfl pl5 (Bk.at_ (Bk.ne (Bk.ne hdb (by simp only; omega) _) (by simp only; omega) _) (hdv 1 v1 (by omega) q1))) rfl ?_
    refine W.y (y_shlM uk8 (s := 6) rfl rfl (by omega)) rfl ?_
    refine W.y (y_ixa (i := 2) rfl rfl Try.underlying89 siz5 (by omega)) rfl ?_
    refine W.y (y_load rfl pl5 (Bk.at_ (Bk.ne (Bk.ne hdb (by simp only; omega) _) (by simp only; omega) _) (hdv 2 v2 (by omega) q2))) rfl ?_
    refine W.y (y_shlM uk8 (s := 1) rfl rfl (by omega)) rfl ?_
    refine W.y (y_join uk8 6 rfl rfl (by omega) (by omega) (by omega) (by omega)) rfl ?_
    refine W.y (y_ixa (i := 3) rfl rfl Try.underlying89 siz5 (by omega)) rfl ?_
    refine W.y (y_load rfl pl5 (Bk.at_ (Bk.ne (Bk.ne hdb (by simp only; omega) _) (by simp only; omega) _) (hdv 3 v3 (by omega) q3))) rfl ?_
    refine W.y (y_shr uk8 (s := 4) rfl rfl (by omega)) rfl ?_
    refine W.y (y_join uk8 1 rfl rfl (by omega) (by omega) (by omega) (by omega)) rfl ?_
    refine W.y (y_ixn rfl rfl Try.underlying24 siz5 (by omega)) rfl ?_
    refine W.s (s_store rfl rfl rfl siz5 (Bk.some (Bk.set (Bk.set hRm _ _) _ _) (by simp only [Array.size_setIfInBounds, splice_size]; omega)) (Bk.frozen (Bk.set (Bk.set hRm _ _) _ _) (by omega))) ?_
    refine W.fin ?_
    refine E.next ?_
    refine C.reg ?_
    refine W.y (y_move rfl) rfl ?_
    refine W.y (Does.as (y_add rfl rfl (wi64 (by omega) (by omega))) (vint (b := ((5 * k + 3 : Nat) : Int)) (by omega))) rfl ?_
    refine W.y (y_assign rfl) rfl ?_
    refine W.fin ?_
    refine E.blockNormal ?_
    refine E.next ?_
    refine C.seq ?_
    refine C.seq ?_
    refine C.reg ?_
    refine W.y (y_move rfl) rfl ?_
    refine W.y (y_move rfl) rfl ?_
    refine W.y (Does.as (y_add rfl rfl (wi64 (by omega) (by omega))) (vint (b := ((5 * k + 0 : Nat) : Int)) (by omega))) rfl ?_
    refine W.y (y_ixa (i := 0) rfl rfl Try.underlying89 siz5 (by omega)) rfl ?_
    refine W.y (y_load rfl pl5 (Bk.at_ (Bk.ne (Bk.ne (Bk.ne hdb (by simp only; omega) _) (by simp only; omega) _) (by simp only; omega) _) (hdv 0 v0 (by omega) q0))) rfl ?_
    refine W.y (y_shlM uk8 (s := 3) rfl rfl (by omega)) rfl ?_
    refine W.y (y_ixa (i := 1) rfl rfl Try.underlying89 siz5 (by omega)) rfl ?_
    refine W.y (y_load rfl pl5 (Bk.at_ (Bk.ne (Bk.ne (Bk.ne hdb (by simp only; omega) _) (by simp only; omega) _) (by simp only; omega) _) (hdv 1 v1 (by omega) q1))) rfl ?_
    refine W.y (y_shr uk8 (s := 2) rfl rfl (by omega)) rfl ?_
    refine W.y (y_join uk8 3 rfl rfl (by omega) (by omega) (by omega) (by omega)) rfl ?_
    refine W.y (y_ixn rfl rfl Try.underlying24 siz5 (by omega)) rfl ?_
    refine W.s (s_store rfl rfl rfl siz5 (Bk.some (Bk.set (Bk.set (Bk.set hRm _ _) _ _) _ _) (by simp only [Array.size_setIfInBounds, splice_size]; omega)) (Bk.frozen (Bk.set (Bk.set (Bk.set hRm _ _) _ _) _ _) (by omega))) ?_
    refine W.fin ?_
    refine E.next ?_
    refine C.reg ?_
    refine W.y (y_move rfl) rfl ?_
    refine W.y (Does.as (y_add rfl rfl (wi64 (by omega) (by omega))) (vint (b := ((5 * k + 4 : Nat) : Int)) (by omega))) rfl ?_
    refine W.y (y_assign rfl) rfl ?_
    refine W.fin ?_
    refine E.next ?_
    refine C.exit ?_
    refine E.blockOut ?_
    refine E.next ?_
    refine C.reg ?_
    refine W.y (y_move rfl) rfl ?_
    refine W.y (Does.as (y_add rfl rfl (wi64 (by omega) (by omega))) (vint (b := ((5 * (k + 1) : Nat) : Int)) (by omega))) rfl ?_
    refine W.y (y_assign rfl) rfl ?_
    refine W.fin ?_
    refine E.blockNormal ?_
    have hun : Pl.unpack 5 (vs.take (8 * k + 7)) = Pl.unpack 5 (vs.take (8 * k)) ++ ([v0 * 2 ^ 3 % 256 + v1 / 2 ^ 2, v1 * 2 ^ 6 % 256 + v2 * 2 ^ 1 % 256 + v3 / 2 ^ 4, v3 * 2 ^ 4 % 256 + v4 / 2 ^ 1, v4 * 2 ^ 7 % 256 + v5 * 2 ^ 2 % 256 + v6 / 2 ^ 3]).map UInt8.ofNat := by
      rw [take_more7 (m := 8 * k) q0 q1 q2 q3 q4 q5 q6, Pl.unpack_append (m := 5 * k) (by omega) _ _ (by rw [List.length_take]; omega), unpack32_7 t0 t1 t2 t3 t4 t5 t6]
    refine E.again (k + 1, true, B1, r1, cc1, 5 * k + 4, 5 * (k + 1)) ⟨Kp.set (Kp.set (Kp.set (Kp.set hKm (.inl rfl) _) (.inl rfl) _) (.inl rfl) _) (.inl rfl) _, (fun _ => ⟨by omega, by omega, ?_⟩), (fun e => by cases e)⟩ (Sub.cons rfl (Sub.cons rfl (Sub.cons rfl (Sub.cons rfl (Sub.cons rfl (Sub.cons rfl (Sub.cons rfl (Sub.cons rfl (Sub.nil _))))))))) (by show 0 < src.length - 8 * k + 1; omega)
    have hta : vs.take (8 * k + 7) = vs := List.take_of_length_le (by omega)
    rw [hta] at hun
    rw [hun, bv_append, splice_append, hul, bytes_of (by simp; omega)]
    simp only [List.map_cons, List.map_nil]
    rw [← rev4]
    exact Bk.set (Bk.set (Bk.set (Bk.set hRm _ _) _ _) _ _) _ _
  · have hvl : vs.length = 8 * k + 5 := by omega
    obtain ⟨v0, q0⟩ : ∃ v, vs[8 * k + 0]? = some v := ⟨_, List.getElem?_eq_getElem (by omega)⟩
    have t0 := hv v0 (List.mem_of_getElem? q0)
    obtain ⟨v1, q1⟩ : ∃ v, vs[8 * k + 1]? = some v := ⟨_, List.getElem?_eq_getElem (by omega)⟩
    have t1 := hv v1 (List.mem_of_getElem? q1)
    obtain ⟨v2, q2⟩ : ∃ v, vs[8 * k + 2]? = some v := ⟨_, List.getElem?_eq_getElem (by omega)⟩
    have t2 := hv v2 (List.mem_of_getElem? q2)
    obtain ⟨v3, q3⟩ : ∃ v, vs[8 * k + 3]? = some v := ⟨_, List.getElem?_eq_getElem (by omega)⟩
    have t3 := hv v3 (List.mem_of_getElem? q3)
    obtain ⟨v4, q4⟩ : ∃ v, vs[8 * k + 4]? = some v := ⟨_, List.getElem?_eq_getElem (by omega)⟩
    have t4 := hv v4 (List.mem_of_getElem? q4)
    obtain rfl : e1 = true := by rw [he1]; rfl
    refine C.seq ?_
    refine C.seq ?_
    refine C.reg ?_
    refine W.y (y_move rfl) rfl ?_
    refine W.fin ?_
    refine E.next ?_
    refine C.block ?_
    refine C.seq ?_
    refine C.block ?_
    refine C.seq ?_
    refine C.block ?_
    refine C.seq ?_
    refine C.block ?_
    refine C.seq ?_
    refine C.block ?_
    refine C.seq ?_
    refine C.block ?_
    refine C.seq ?_
    refine C.seq ?_
    refine C.seq ?_
    refine C.reg ?_
    refine W.y (y_eqlF rfl rfl (by omega)) rfl ?_
    refine W.y (y_assign rfl) rfl ?_
    refine W.fin ?_
    refine E.next ?_
    refine C.no rfl ?_
    refine C.skip ?_
    refine E.next ?_
    refine C.seq ?_
    refine C.seq ?_
    refine C.reg ?_
    refine W.y (y_eqlF rfl rfl (by omega)) rfl ?_
    refine W.y (y_assign rfl) rfl ?_
    refine W.fin ?_
    refine E.next ?_
    refine C.no rfl ?_
    refine C.skip ?_
    refine E.next ?_
    refine C.seq ?_
    refine C.seq ?_
    refine C.reg ?_
    refine W.y (y_eqlT rfl rfl (by omega)) rfl ?_
    refine W.y (y_assign rfl) rfl ?_
    refine W.fin ?_
    refine E.next ?_
    refine C.yes rfl ?_
    refine C.exit ?_
    refine E.thenExit ?_
    refine E.thenExit ?_
    refine E.blockFar rfl ?_
    refine E.thenExit ?_
    refine E.blockFar rfl ?_
    refine E.thenExit ?_
    refine E.blockOut ?_
    refine E.next ?_
    refine C.seq ?_
    refine C.reg ?_
    refine W.y (y_move rfl) rfl ?_
    refine W.y (y_move rfl) rfl ?_
    refine W.y (Does.as (y_add rfl rfl (wi64 (by omega) (by omega))) (vint (b := ((5 * k + 2 : Nat) : Int)) (by omega))) rfl ?_
    refine W.y (y_ixa (i := 3) rfl rfl Try.underlying89 siz5 (by omega)) rfl ?_
    refine W.y (y_load rfl pl5 (Bk.at_ hdb (hdv 3 v3 (by omega) q3))) rfl ?_
    refine W.y (y_shlM uk8 (s := 4) rfl rfl (by omega)) rfl ?_
    refine W.y (y_ixa (i := 4) rfl rfl Try.underlying89 siz5 (by omega)) rfl ?_
    refine W.y (y_load rfl pl5 (Bk.at_ hdb (hdv 4 v4 (by omega) q4))) rfl ?_
    refine W.y (y_shr uk8 (s := 1) rfl rfl (by omega)) rfl ?_
    refine W.y (y_join uk8 4 rfl rfl (by omega) (by omega) (by omega) (by omega)) rfl ?_
    refine W.y (y_ixn rfl rfl Try.underlying24 siz5 (by omega)) rfl ?_
    refine W.s (s_store rfl rfl rfl siz5 (Bk.some hRm (by rw [splice_size]; omega)) (Bk.frozen hRm (by omega))) ?_
    refine W.fin ?_
    refine E.next ?_
    refine C.reg ?_
    refine W.y (y_move rfl) rfl ?_
    refine W.y (Does.as (y_add rfl rfl (wi64 (by omega) (by omega))) (vint (b := ((5 * k + 1 : Nat) : Int)) (by omega))) rfl ?_
    refine W.y (y_assign rfl) rfl ?_
    refine W.fin ?_
    refine E.blockNormal ?_
    refine E.next ?_
    refine C.seq ?_
    refine C.reg ?_
    refine W.y (y_move rfl) rfl ?_
    refine W.y (y_move rfl) rfl ?_
    refine W.y (Does.as (y_add rfl rfl (wi64 (by omega) (by omega))) (vint (b := ((5 * k + 1 : Nat) : Int)) (by omega))) rfl ?_
    refine W.y (y_ixa (i := 1) rfl rfl Try.underlying89 siz5 (by omega)) rfl ?_
    refine W.y (y_load rfl pl5 (Bk.at_ (Bk.ne hdb (by simp only; omega) _) (hdv 1 v1 (by omega) q1))) rfl ?_
    refine W.y (y_shlM uk8 (s := 6) rfl rfl (by omega)) rfl ?_
    refine W.y (y_ixa (i := 2) rfl rfl Try.underlying89 siz5 (by omega)) rfl ?_
    refine W.y (y_load rfl pl5 (Bk.at_ (Bk.ne hdb (by simp only; omega) _) (hdv 2 v2 (by omega) q2))) rfl ?_
    refine W.y (y_shlM uk8 (s := 1) rfl rfl (by omega)) rfl ?_
    refine W.y (y_join uk8 6 rfl rfl (by omega) (by omega) (by omega) (by omega)) rfl ?_
    refine W.y (y_ixa (i := 3) rfl rfl Try.underlying89 siz5 (by omega)) rfl ?_
    refine W.y (y_load rfl pl5 (Bk.at_ (Bk.ne hdb (by simp only; omega) _) (hdv 3 v3 (by omega) q3))) rfl ?_
    refine W.y (y_shr uk8 (s := 4) rfl rfl (by omega)) rfl ?_
    refine W.y (y_join uk8 1 rfl rfl (by omega) (by omega) (by omega) (by omega)) rfl ?_
    refine W.y (y_ixn rfl rfl Try.underlying24 siz5 (by omega)) rfl ?_
    refine W.s (s_store rfl rfl rfl siz5 (Bk.some (Bk.set hRm _ _) (by simp only [Array.size_setIfInBounds, splice_size]; omega)) (Bk.frozen (Bk.set hRm _ _) (by omega))) ?_
    refine W.fin ?_
    refine E.next ?_
    refine C.reg ?_
    refine W.y (y_move rfl) rfl ?_
    refine W.y (Does.as (y_add rfl rfl (wi64 (by omega) (by omega))) (vint (b := ((5 * k + 2 : Nat) : Int)) (by omega))) rfl ?_
    refine W.y (y_assign rfl) rfl ?_
    refine W.fin ?_
    refine E.blockNormal ?_
    refine E.next ?_
    refine C.seq ?_
    refine C.seq ?_
    refine C.reg ?_
    refine W.y (y_move rfl) rfl ?_
    refine W.y (y_move rfl) rfl ?_
    refine W.y (Does.as (y_add rfl rfl (wi64 (by omega) (by omega))) (vint (b := ((5 * k + 0 : Nat) : Int)) (by omega))) rfl ?_
    refine W.y (y_ixa (i := 0) rfl rfl Try.underlying89 siz5 (by omega)) rfl ?_
    refine W.y (y_load rfl pl5 (Bk.at_ (Bk.ne (Bk.ne hdb (by simp only; omega) _) (by simp only; omega) _) (hdv 0 v0 (by omega) q0))) rfl ?_
    refine W.y (y_shlM uk8 (s := 3) rfl rfl (by omega)) rfl ?_
    refine W.y (y_ixa (i := 1) rfl rfl Try.underlying89 siz5 (by omega)) rfl ?_
    refine W.y (y_load rfl pl5 (Bk.at_ (Bk.ne (Bk.ne hdb (by simp only; omega) _) (by simp only; omega) _) (hdv 1 v1 (by omega) q1))) rfl ?_
    refine W.y (y_shr uk8 (s := 2) rfl rfl (by omega)) rfl ?_
    refine W.y (y_join uk8 3 rfl rfl (by omega) (by omega) (by omega) (by omega)) rfl ?_
    refine W.y (y_ixn rfl rfl Try.underlying24 siz5 (by omega)) rfl ?_
    refine W.s (s_store rfl rfl rfl siz5 (Bk.some (Bk.set (Bk.set hRm _ _) _ _) (by simp only [Array.size_setIfInBounds, splice_size]; omega)) (Bk.frozen (Bk.set (Bk.set hRm _ _) _ _) (by omega))) ?_
    refine W.fin ?_
    refine E.next ?_
    refine C.reg ?_
    refine W.y (y_move rfl) rfl ?_
    refine W.y (Does.as (y_add rfl rfl (wi64 (by omega) (by omega))) (vint (b := ((5 * k + 3 : Nat) : Int)) (by omega))) rfl ?_
    refine W.y (y_assign rfl) rfl ?_
    refine W.fin ?_
    refine E.next ?_
    refine C.exit ?_
    refine E.blockOut ?_
    refine E.next ?_
    refine C.reg ?_
    refine W.y (y_move rfl) rfl ?_
    refine W.y (Does.as (y_add rfl rfl (wi64 (by omega) (by omega))) (vint (b := ((5 * (k + 1) : Nat) : Int)) (by omega))) rfl ?_
    refine W.y (y_assign rfl) rfl ?_
    refine W.fin ?_
    refine E.blockNormal ?_
    have hun : Pl.unpack 5 (vs.take (8 * k + 5)) = Pl.unpack 5 (vs.take (8 * k)) ++ ([v0 * 2 ^ 3 % 256 + v1 / 2 ^ 2, v1 * 2 ^ 6 % 256 + v2 * 2 ^ 1 % 256 + v3 / 2 ^ 4, v3 * 2 ^ 4 % 256 + v4 / 2 ^ 1]).map UInt8.ofNat := by
      rw [take_more5 (m := 8 * k) q0 q1 q2 q3 q4, Pl.unpack_append (m := 5 * k) (by omega) _ _ (by rw [List.length_take]; omega), unpack32_5 t0 t1 t2 t3 t4]
    refine E.again (k + 1, true, B1, r1, cc1, 5 * k + 3, 5 * (k + 1)) ⟨Kp.set (Kp.set (Kp.set hKm (.inl rfl) _) (.inl rfl) _) (.inl rfl) _, (fun _ => ⟨by omega, by omega, ?_⟩), (fun e => by cases e)⟩ (Sub.cons rfl (Sub.cons rfl (Sub.cons rfl (Sub.cons rfl (Sub.cons rfl (Sub.cons rfl (Sub.cons rfl (Sub.cons rfl (Sub.nil _))))))))) (by show 0 < src.length - 8 * k + 1; omega)
    have hta : vs.take (8 * k + 5) = vs := List.take_of_length_le (by omega)
    rw [hta] at hun
    rw [hun, bv_append, splice_append, hul, bytes_of (by simp; omega)]
    simp only [List.map_cons, List.map_nil]
    rw [← rev3]
    exact Bk.set (Bk.set (Bk.set hRm _ _) _ _) _ _
  · have hvl : vs.length = 8 * k + 4 := by omega
    obtain ⟨v0, q0⟩ : ∃ v, vs[8 * k + 0]? = some v := ⟨_, List.getElem?_eq_getElem (by omega)⟩
    have t0 := hv v0 (List.mem_of_getElem? q0)
    obtain ⟨v1, q1⟩ : ∃ v, vs[8 * k + 1]? = some v := ⟨_, List.getElem?_eq_getElem (by omega)⟩
    have t1 := hv v1 (List.mem_of_getElem? q1)
    obtain ⟨v2, q2⟩ : ∃ v, vs[8 * k + 2]? = some v := ⟨_, List.getElem?_eq_getElem (by omega)⟩
    have t2 := hv v2 (List.mem_of_getElem? q2)
    obtain ⟨v3, q3⟩ : ∃ v, vs[8 * k + 3]? = some v := ⟨_, List.getElem?_eq_getElem (by omega)⟩
    have t3 := hv v3 (List.mem_of_getElem? q3)
    obtain rfl : e1 = true := by rw [he1]; rfl
    refine C.seq ?_
    refine C.seq ?_
    refine C.reg ?_
    refine W.y (y_move rfl) rfl ?_
    refine W.fin ?_
    refine E.next ?_
    refine C.block ?_
    refine C.seq ?_
    refine C.block ?_
    refine C.seq ?_
    refine C.block ?_
    refine C.seq ?_
    refine C.block ?_
    refine C.seq ?_
    refine C.block ?_
    refine C.seq ?_
    refine C.block ?_
    refine C.seq ?_
    refine C.seq ?_
    refine C.seq ?_
    refine C.reg ?_
    refine W.y (y_eqlF rfl rfl (by omega)) rfl ?_
    refine W.y (y_assign rfl) rfl ?_
    refine W.fin ?_
    refine E.next ?_
    refine C.no rfl ?_
    refine C.skip ?_
    refine E.next ?_
    refine C.seq ?_
    refine C.seq ?_
    refine C.reg ?_
    refine W.y (y_eqlF rfl rfl (by omega)) rfl ?_
    refine W.y (y_assign rfl) rfl ?_
    refine W.fin ?_
    refine E.next ?_
    refine C.no rfl ?_
    refine C.skip ?_
    refine E.next ?_
    refine C.seq ?_
    refine C.seq ?_
    refine C.reg ?_
    refine W.y (y_eqlF rfl rfl (by omega)) rfl ?_
    refine W.y (y_assign rfl) rfl ?_
    refine W.fin ?_
    refine E.next ?_
    refine C.no rfl ?_
    refine C.skip ?_
    refine E.next ?_
    refine C.seq ?_
    refine C.seq ?_
    refine C.reg ?_
    refine W.y (y_eqlT rfl rfl (by omega)) rfl ?_
    refine W.y (y_assign rfl) rfl ?_
    refine W.fin ?_
    refine E.next ?_
    refine C.yes rfl ?_
    refine C.exit ?_
    refine E.thenExit ?_
    refine E.thenExit ?_
    refine E.blockFar rfl ?_
    refine E.thenExit ?_
    refine E.blockFar rfl ?_
    refine E.thenExit ?_
    refine E.blockFar rfl ?_
    refine E.thenExit ?_
    refine E.blockOut ?_
    refine E.next ?_
    refine C.seq ?_
    refine C.reg ?_
    refine W.y (y_move rfl) rfl ?_
    refine W.y (y_move rfl) rfl ?_
    refine W.y (Does.as (y_add rfl rfl (wi64 (by omega) (by omega))) (vint (b := ((5 * k + 1 : Nat) : Int)) (by omega))) rfl ?_
    refine W.y (y_ixa (i := 1) rfl rfl Try.underlying89 siz5 (by omega)) rfl ?_
    refine W.y (y_load rfl pl5 (Bk.at_ hdb (hdv 1 v1 (by omega) q1))) rfl ?_
    refine W.y (y_shlM uk8 (s := 6) rfl rfl (by omega)) rfl ?_
    refine W.y (y_ixa (i := 2) rfl rfl Try.underlying89 siz5 (by omega)) rfl ?_
    refine W.y (y_load rfl pl5 (Bk.at_ hdb (hdv 2 v2 (by omega) q2))) rfl ?_
    refine W.y (y_shlM uk8 (s := 1) rfl rfl (by omega)) rfl ?_
    refine W.y (y_join uk8 6 rfl rfl (by omega) (by omega) (by omega) (by omega)) rfl ?_
    refine W.y (y_ixa (i := 3) rfl rfl Try.underlying89 siz5 (by omega)) rfl ?_
    refine W.y (y_load rfl pl5 (Bk.at_ hdb (hdv 3 v3 (by omega) q3))) rfl ?_
    refine W.y (y_shr uk8 (s := 4) rfl rfl (by omega)) rfl ?_
    refine W.y (y_join uk8 1 rfl rfl (by omega) (by omega) (by omega) (by omega)) rfl ?_
    refine W.y (y_ixn rfl rfl Try.underlying24 siz5 (by omega)) rfl ?_
    refine W.s (s_store rfl rfl rfl siz5 (Bk.some hRm (by rw [splice_size]; omega)) (Bk.frozen hRm (by omega))) ?_
    refine W.fin ?_
    refine E.next ?_
    refine C.reg ?_
    refine W.y (y_move rfl) rfl ?_
    refine W.y (Does.as (y_add rfl rfl (wi64 (by omega) (by omega))) (vint (b := ((5 * k + 1 : Nat) : Int)) (by omega))) rfl ?_
    refine W.y (y_assign rfl) rfl ?_
    refine W.fin ?_
    refine E.blockNormal ?_
    refine E.next ?_
    refine C.seq ?_
    refine C.seq ?_
    refine C.reg ?_
    refine W.y (y_move rfl) rfl ?_
    refine W.y (y_move rfl) rfl ?_
    refine W.y (Does.as (y_add rfl rfl (wi64 (by omega) (by omega))) (vint (b := ((5 * k + 0 : Nat) : Int)) (by omega))) rfl ?_
    refine W.y (y_ixa (i := 0) rfl rfl Try.underlying89 siz5 (by omega)) rfl ?_
    refine W.y (y_load rfl pl5 (Bk.at_ (Bk.ne hdb (by simp only; omega) _) (hdv 0 v0 (by omega) q0))) rfl ?_
    refine W.y (y_shlM uk8 (s := 3) rfl rfl (by omega)) rfl ?_
    refine W.y (y_ixa (i := 1) rfl rfl Try.underlying89 siz5 (by omega)) rfl ?_
    refine W.y (y_load rfl pl5 (Bk.at_ (Bk.ne hdb (by simp only; omega) _) (hdv 1 v1 (by omega) q1))) rfl ?_
    refine W.y (y_shr uk8 (s := 2) rfl rfl (by omega)) rfl ?_
    refine W.y (y_join uk8 3 rfl rfl (by omega) (by omega) (by omega) (by omega)) rfl ?_
    refine W.y (y_ixn rfl rfl Try.underlying24 siz5 (by omega)) rfl ?_
    refine W.s (s_store rfl rfl rfl siz5 (Bk.some (Bk.set hRm _ _) (by simp only [Array.size_setIfInBounds, splice_size]; omega)) (Bk.frozen (Bk.set hRm _ _) (by omega))) ?_
    refine W.fin ?_
    refine E.next ?_
    refine C.reg ?_
    refine W.y (y_move rfl) rfl ?_
    refine W.y (Does.as (y_add rfl rfl (wi64 (by omega) (by omega))) (vint (b := ((5 * k + 2 : Nat) : Int)) (by omega))) rfl ?_
    refine W.y (y_assign rfl) rfl ?_
    refine W.fin ?_
    refine E.next ?_
    refine C.exit ?_
    refine E.blockOut ?_
    refine E.next ?_
    refine C.reg ?_
    refine W.y (y_move rfl) rfl ?_
    refine W.y (Does.as (y_add rfl rfl (wi64 (by omega) (by omega))) (vint (b := ((5 * (k + 1) : Nat) : Int)) (by omega))) rfl ?_
    refine W.y (y_assign rfl) rfl ?_
    refine W.fin ?_
    refine E.blockNormal ?_
    have hun : Pl.unpack 5 (vs.take (8 * k + 4)) = Pl.unpack 5 (vs.take (8 * k)) ++ ([v0 * 2 ^ 3 % 256 + v1 / 2 ^ 2, v1 * 2 ^ 6 % 256 + v2 * 2 ^ 1 % 256 + v3 / 2 ^ 4]).map UInt8.ofNat := by
      rw [take_more4 (m := 8 * k) q0 q1 q2 q3, Pl.unpack_append (m := 5 * k) (by omega) _ _ (by rw [List.length_take]; omega), unpack32_4 t0 t1 t2 t3]
    refine E.again (k + 1, true, B1, r1, cc1, 5 * k + 2, 5 * (k + 1)) ⟨Kp.set (Kp.set hKm (.inl rfl) _) (.inl rfl) _, (fun _ => ⟨by omega, by omega, ?_⟩), (fun e => by cases e)⟩ (Sub.cons rfl (Sub.cons rfl (Sub.cons rfl (Sub.cons rfl (Sub.cons rfl (Sub.cons rfl (Sub.cons rfl (Sub.cons rfl (Sub.nil _))))))))) (by show 0 < src.length - 8 * k + 1; omega)
    have hta : vs.take (8 * k + 4) = vs := List.take_of_length_le (by omega)
    rw [hta] at hun
    rw [hun, bv_append, splice_append, hul, bytes_of (by simp; omega)]
    simp only [List.map_cons, List.map_nil]
    rw [← rev2]
    exact Bk.set (Bk.set hRm _ _) _ _
  · have hvl : vs.length = 8 * k + 2 := by omega
    obtain ⟨v0, q0⟩ : ∃ v, vs[8 * k + 0]? = some v := ⟨_, List.getElem?_eq_getElem (by omega)⟩
    have t0 := hv v0 (List.mem_of_getElem? q0)
    obtain ⟨v1, q1⟩ : ∃ v, vs[8 * k + 1]? = some v := ⟨_, List.getElem?_eq_getElem (by omega)⟩
    have t1 := hv v1 (List.mem_of_getElem? q1)
    obtain rfl : e1 = true := by rw [he1]; rfl
    refine C.seq ?_
    refine C.seq ?_
    refine C.reg ?_
    refine W.y (y_move rfl) rfl ?_
    refine W.fin ?_
    refine E.next ?_
    refine C.block ?_
    refine C.seq ?_
    refine C.block ?_
    refine C.seq ?_
    refine C.block ?_
    refine C.seq ?_
    refine C.block ?_
    refine C.seq ?_
    refine C.block ?_
    refine C.seq ?_
    refine C.block ?_
    refine C.seq ?_
    refine C.seq ?_
    refine C.seq ?_
    refine C.reg ?_
    refine W.y (y_eqlF rfl rfl (by omega)) rfl ?_
    refine W.y (y_assign rfl) rfl ?_
    refine W.fin ?_
    refine E.next ?_
    refine C.no rfl ?_
    refine C.skip ?_
    refine E.next ?_
    refine C.seq ?_
    refine C.seq ?_
    refine C.reg ?_
    refine W.y (y_eqlF rfl rfl (by omega)) rfl ?_
    refine W.y (y_assign rfl) rfl ?_
    refine W.fin ?_
    refine E.next ?_
    refine C.no rfl ?_
    refine C.skip ?_
    refine E.next ?_
    refine C.seq ?_
    refine C.seq ?_
    refine C.reg ?_
    refine W.y (y_eqlF rfl rfl (by omega)) rfl ?_
    refine W.y (y_assign rfl) rfl ?_
    refine W.fin ?_
    refine E.next ?_
    refine C.no rfl ?_
    refine C.skip ?_
    refine E.next ?_
    refine C.seq ?_
    refine C.seq ?_
    refine C.reg ?_
    refine W.y (y_eqlF rfl rfl (by omega)) rfl ?_
    refine W.y (y_assign rfl) rfl ?_
    refine W.fin ?_
    refine E.next ?_
    refine C.no rfl ?_
    refine C.skip ?_
    refine E.next ?_
    refine C.seq ?_
    refine C.reg ?_
    refine W.y (y_eqlT rfl rfl (by omega)) rfl ?_
    refine W.y (y_assign rfl) rfl ?_
    refine W.fin ?_
    refine E.next ?_
    refine C.yes rfl ?_
    refine C.exit ?_
    refine E.thenExit ?_
    refine E.blockFar rfl ?_
    refine E.thenExit ?_
    refine E.blockFar rfl ?_
    refine E.thenExit ?_
    refine E.blockFar rfl ?_
    refine E.thenExit ?_
    refine E.blockFar rfl ?_
    refine E.thenExit ?_
    refine E.blockOut ?_
    refine E.next ?_
    refine C.seq ?_
    refine C.seq ?_
    refine C.reg ?_
    refine W.y (y_move rfl) rfl ?_
    refine W.y (y_move rfl) rfl ?_
    refine W.y (Does.as (y_add rfl rfl (wi64 (by omega) (by omega))) (vint (b := ((5 * k + 0 : Nat) : Int)) (by omega))) rfl ?_
    refine W.y (y_ixa (i := 0) rfl rfl Try.underlying89 siz5 (by omega)) rfl ?_
    refine W.y (y_load rfl pl5 (Bk.at_ hdb (hdv 0 v0 (by omega) q0))) rfl ?_
    refine W.y (y_shlM uk8 (s := 3) rfl rfl (by omega)) rfl ?_
    refine W.y (y_ixa (i := 1) rfl rfl Try.underlying89 siz5 (by omega)) rfl ?_
    refine W.y (y_load rfl pl5 (Bk.at_ hdb (hdv 1 v1 (by omega) q1))) rfl ?_
    refine W.y (y_shr uk8 (s := 2) rfl rfl (by omega)) rfl ?_
    refine W.y (y_join uk8 3 rfl rfl (by omega) (by omega) (by omega) (by omega)) rfl ?_
    refine W.y (y_ixn rfl rfl Try.underlying24 siz5 (by omega)) rfl ?_
    refine W.s (s_store rfl rfl rfl siz5 (Bk.some hRm (by rw [splice_size]; omega)) (Bk.frozen hRm (by omega))) ?_
    refine W.fin ?_
    refine E.next ?_
    refine C.reg ?_
    refine W.y (y_move rfl) rfl ?_
    refine W.y (Does.as (y_add rfl rfl (wi64 (by omega) (by omega))) (vint (b := ((5 * k + 1 : Nat) : Int)) (by omega))) rfl ?_
    refine W.y (y_assign rfl) rfl ?_
    refine W.fin ?_
    refine E.next ?_
    refine C.exit ?_
    refine E.blockOut ?_
    refine E.next ?_
    refine C.reg ?_
    refine W.y (y_move rfl) rfl ?_
    refine W.y (Does.as (y_add rfl rfl (wi64 (by omega) (by omega))) (vint (b := ((5 * (k + 1) : Nat) : Int)) (by omega))) rfl ?_
    refine W.y (y_assign rfl) rfl ?_
    refine W.fin ?_
    refine E.blockNormal ?_
    have hun : Pl.unpack 5 (vs.take (8 * k + 2)) = Pl.unpack 5 (vs.take (8 * k)) ++ ([v0 * 2 ^ 3 % 256 + v1 / 2 ^ 2]).map UInt8.ofNat := by
      rw [take_more2 (m := 8 * k) q0 q1, Pl.unpack_append (m := 5 * k) (by omega) _ _ (by rw [List.length_take]; omega), unpack32_2 t0 t1]
    refine E.again (k + 1, true, B1, r1, cc1, 5 * k + 1, 5 * (k + 1)) ⟨Kp.set hKm (.inl rfl) _, (fun _ => ⟨by omega, by omega, ?_⟩), (fun e => by cases e)⟩ (Sub.cons rfl (Sub.cons rfl (Sub.cons rfl (Sub.cons rfl (Sub.cons rfl (Sub.cons rfl (Sub.cons rfl (Sub.cons rfl (Sub.nil _))))))))) (by show 0 < src.length - 8 * k + 1; omega)
    have hta : vs.take (8 * k + 2) = vs := List.take_of_length_le (by omega)
    rw [hta] at hun
    rw [hun, bv_append, splice_append, hul, bytes_of (by simp; omega)]
    simp only [List.map_cons, List.map_nil]
    rw [← rev1]
    exact Bk.set hRm _ _
end Go.Proofs.Ytlbnglmfbnnhjaa
