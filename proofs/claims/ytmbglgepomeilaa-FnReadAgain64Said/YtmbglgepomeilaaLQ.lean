/-
  Walk: decodeQuantum.
-/
import Derived.Test.YtmbglgepomeilaaLL
namespace Go.Proofs.Ytmbglgepomeilaa
open Go.RowKit
theorem siz83 : Siz Try.prog 83 256 := siz_of (by kernel_rfl)
theorem pl4 : Plain Try.prog 4 := plain_of Try.underlying4 rfl

set_option maxRecDepth 4000 in
set_option maxHeartbeats 4000000 in
theorem quantum_ret {w : World} {ge g o m c' c sb so n q dl : Nat} {D : Option Addr} {cs ds : Array Value} {te td : TypeId} {fz fd : Nat × Nat} {al src : List UInt8} {pad : Int} {vs : List Nat} {st : Bool}
    (hE : Bk w ge cs te fz) (he : EncC 64 cs al pad) (hst : cs[321]? = some (.bool st)) (hf : Fit 64 al pad) (hD0 : D = some ⟨g, o, none⟩) (hD : Bk w g ds td fd) (hne : ge ≠ g) (hv : ∀ v ∈ vs, v < 64) (hq : ∃ q, vs.length = Pl.nlet 6 q) (hzs : st = true → ∃ s, vs = Pl.nums 6 s)
    (hsrc : src = vs.map (Pl.letter al) ++ Pl.pads 4 pad vs.length) (hB : Bs w sb so src) (hn : src.length = n) (hq4 : 4 * q < vs.length) (hdl : dl = min 4 (vs.length - 4 * q)) (hm : dl - 1 ≤ m) (ho : o + (dl - 1) ≤ ds.size) (hfd : o + (dl - 1) ≤ fd.1 ∨ fd.2 ≤ o) (hN : n ≤ 281474976710656) :
    Ret Try.prog 50 #[.pointer (some ⟨ge, 0, none⟩), .slice D m c', .slice (some ⟨sb, so, none⟩) n c, .int .i64 ((4 * q : Nat) : Int)] w fun v w' => v = .tuple #[.int .i64 (((if dl = 4 then 4 * q + 4 else n) : Nat) : Int), .int .i64 ((dl - 1 : Nat) : Int), .nilIface] ∧ Bk w' g (splice ds o (bv (Pl.unpack 6 ((vs.drop (4 * q)).take 4)))) td fd ∧ Kp (· = g) w w' := by
  subst hn hD0
  have hsl : src.length = vs.length + (Pl.pads 4 pad vs.length).length := by rw [hsrc, List.length_append, List.length_map]
  have hpl := pads_len (pad := pad) (n := vs.length) (block := 4)
  have hrem := rem64 hq
  have hlo := hf.lo
  have hhi := hf.hi
  have hgl := hD.lt
  have hel := hE.lt
  have hpl2 : (pad = -1 ∧ (Pl.pads 4 pad vs.length).length = 0) ∨ (0 ≤ pad ∧ (Pl.pads 4 pad vs.length).length = (4 - vs.length % 4) % 4) := by
    rw [hpl]
    split
    · next h => exact .inr ⟨h, rfl⟩
    · next h => exact .inl ⟨by omega, rfl⟩
  obtain ⟨z, hz, hzc⟩ := zr_all (P := Try.prog) (t := 97) (cs := #[.int .u8 0, .int .u8 0, .int .u8 0, .int .u8 0]) (by kernel_rfl)
  have hsbl : sb < w.heap.size := World.block_lt_of_cell? w _ (hB 0 src[0] (List.getElem?_eq_getElem (by omega)))
  refine ret_of Try.func50 rfl Try.ntmps50 (Nat.le_of_ble_eq_true rfl) ?_
  refine C.seq ?_
  refine C.reg ?_
  refine W.y (y_assign rfl) rfl ?_
  refine W.y (y_assign rfl) rfl ?_
  refine W.y (y_assign rfl) rfl ?_
  refine W.fin ?_
  refine E.next ?_
  refine C.seq ?_
  refine C.reg ?_
  refine W.y (y_alloc (hz _)) rfl ?_
  refine W.fin ?_
  refine E.next ?_
  refine C.seq ?_
  refine C.reg ?_
  refine W.y (y_assign rfl) rfl ?_
  refine W.fin ?_
  refine E.next ?_
  refine C.seq ?_
  refine C.reg ?_
  refine W.y (y_move rfl) rfl ?_
  refine W.y (y_nilp rfl) rfl ?_
  refine W.y (y_field rfl fld85_1) rfl ?_
  refine W.y (y_loadRow rfl Try.underlying83 siz83 (hE.alloc _) (by have := he.size; omega)) rfl ?_
  refine W.fin ?_
  refine E.next ?_
  refine C.mid (σ := Unit) (fun (_ : Unit) w' => (∃ dbs : Array Value, Bk w' w.heap.size dbs 97 (0, 0) ∧ dbs.size = 4 ∧ (∀ (i v : Nat), i < dl → vs[4 * q + i]? = some v → dbs[i]? = some (.int .u8 (v : Int))) ∧ ∀ i : Nat, dl ≤ i → i < 4 → dbs[i]? = some (.int .u8 0)) ∧ Bk w' g ds td fd ∧ Bs w' sb so src ∧ Bk w' ge cs te fz ∧ Kp (· = g) w w') (fun _ => [(0, .pointer (some ⟨ge, 0, none⟩)), (1, .slice (some ⟨g, o, none⟩) m c'), (10, .nilIface), (11, .pointer (some ⟨w.heap.size, 0, none⟩)), (3, .int .i64 (((if dl = 4 then 4 * q + 4 else src.length) : Nat) : Int)), (12, .int .i64 (dl : Int))]) ?_ ?_
  · refine C.seq ?_
    refine C.reg ?_
    refine W.y (y_assign rfl) rfl ?_
    refine W.fin ?_
    refine E.next ?_
    refine C.block ?_
    refine C.loop (σ := Nat) (fun j w' => j ≤ 4 ∧ j ≤ vs.length - 4 * q ∧ (∃ dbs : Array Value, Bk w' w.heap.size dbs 97 (0, 0) ∧ dbs.size = 4 ∧ (∀ (i v : Nat), i < j → vs[4 * q + i]? = some v → dbs[i]? = some (.int .u8 (v : Int))) ∧ ∀ i : Nat, j ≤ i → i < 4 → dbs[i]? = some (.int .u8 0)) ∧ Bk w' g ds td fd ∧ Bs w' sb so src ∧ Bk w' ge cs te fz ∧ Kp (· = g) w w') (fun j => [(0, .pointer (some ⟨ge, 0, none⟩)), (1, .slice (some ⟨g, o, none⟩) m c'), (10, .nilIface), (11, .pointer (some ⟨w.heap.size, 0, none⟩)), (2, .slice (some ⟨sb, so, none⟩) src.length c), (3, .int .i64 ((4 * q + j : Nat) : Int)), (12, .int .i64 4), (13, .int .i64 (j : Int))]) (fun j => 4 - j) 0 ?_ ?_ ?_
    · exact ⟨by omega, by omega, ⟨z.cells, Bk.new _ _ _, by rw [hzc]; rfl, (fun i v h => by omega), fun i _ h => by rw [hzc]; match i, h with | 0, _ => rfl | 1, _ => rfl | 2, _ => rfl | 3, _ => rfl⟩, hD.alloc _, hB.on ((Kp.refl (fun _ => False) w).alloc (.cells z.cells 97)), hE.alloc _, (Kp.refl _ w).alloc _⟩
    · exact (Sub.cons rfl (Sub.cons rfl (Sub.cons rfl (Sub.cons rfl (Sub.cons rfl (Sub.cons rfl (Sub.cons rfl (Sub.cons rfl (Sub.nil _)))))))))
    rintro j wj ⟨hj4, hjv, ⟨dbs, hdb, hds, hdv, hd0⟩, hRj, hBj, hEj, hKj⟩
    show C _ _ _ _ [(0, .pointer (some ⟨ge, 0, none⟩)), (1, .slice (some ⟨g, o, none⟩) m c'), (10, .nilIface), (11, .pointer (some ⟨w.heap.size, 0, none⟩)), (2, .slice (some ⟨sb, so, none⟩) src.length c), (3, .int .i64 ((4 * q + j : Nat) : Int)), (12, .int .i64 4), (13, .int .i64 (j : Int))] _
    by_cases hj : j = 4
    · subst hj
      obtain rfl : dl = 4 := by omega
      refine C.seq ?_
      refine C.seq ?_
      refine C.reg ?_
      refine W.y (y_move rfl) rfl ?_
      refine W.y (y_lssF rfl rfl (by omega)) rfl ?_
      refine W.fin ?_
      refine E.next ?_
      refine C.no rfl ?_
      refine C.exit ?_
      refine E.thenExit ?_
      refine E.thenExit ?_
      refine E.blockOut ?_
      exact E.mid (()) ⟨⟨dbs, hdb, hds, hdv, hd0⟩, hRj, hBj, hEj, hKj⟩ (Sub.cons rfl (Sub.cons rfl (Sub.cons rfl (Sub.cons rfl (Sub.cons rfl (Sub.cons rfl (Sub.nil _)))))))
    by_cases hlet : 4 * q + j < vs.length
    · obtain ⟨v, hvv⟩ : ∃ v, vs[4 * q + j]? = some v := ⟨_, List.getElem?_eq_getElem hlet⟩
      have hv64 := hv v (List.mem_of_getElem? hvv)
      have hlt := letter_get hv64 hf.len
      have hxs : src[4 * q + j]? = some (Pl.letter al v) := by rw [hsrc, List.getElem?_append_left (by rw [List.length_map]; exact hlet), List.getElem?_map, hvv]; rfl
      have hcell := hBj _ _ hxs
      have hdm := hf.dm_at hlt
      have hl8 := (Pl.letter al v).toNat_lt
      have hb2 := Bk.set hdb (0 + j) (.int .u8 (v : Int))
      refine C.seq ?_
      refine C.seq ?_
      refine C.reg ?_
      refine W.y (y_move rfl) rfl ?_
      refine W.y (y_lssT rfl rfl (by omega)) rfl ?_
      refine W.fin ?_
      refine E.next ?_
      refine C.yes rfl ?_
      refine C.skip ?_
      refine E.next ?_
      refine C.seq ?_
      refine C.block ?_
      refine C.seq ?_
      refine C.seq ?_
      refine C.reg ?_
      refine W.y (y_move rfl) rfl ?_
      refine W.y (y_len rfl Try.underlying24) rfl ?_
      refine W.y (y_move rfl) rfl ?_
      refine W.y (y_eqlF rfl rfl (by omega)) rfl ?_
      refine W.fin ?_
      refine E.next ?_
      refine C.no rfl ?_
      refine C.skip ?_
      refine E.next ?_
      refine C.seq ?_
      refine C.reg ?_
      refine W.y (y_move rfl) rfl ?_
      refine W.y (y_move rfl) rfl ?_
      refine W.y (y_ixn rfl rfl Try.underlying24 siz5 (by omega)) rfl ?_
      refine W.y (y_load rfl pl5 hcell) rfl ?_
      refine W.y (y_assign rfl) rfl ?_
      refine W.fin ?_
      refine E.next ?_
      refine C.seq ?_
      refine C.reg ?_
      refine W.y (y_move rfl) rfl ?_
      refine W.y (Does.as (y_add rfl rfl (wi64 (by omega) (by omega))) (vint (b := ((4 * q + (j + 1) : Nat) : Int)) (by omega))) rfl ?_
      refine W.y (y_assign rfl) rfl ?_
      refine W.fin ?_
      refine E.next ?_
      refine C.seq ?_
      refine C.reg ?_
      refine W.y (y_move rfl) rfl ?_
      refine W.y (y_move rfl) rfl ?_
      refine W.y (y_nilp rfl) rfl ?_
      refine W.y (y_field rfl fld85_1) rfl ?_
      refine W.y (y_ixa rfl rfl Try.underlying83 siz5 (by omega)) rfl ?_
      refine W.y (Does.as (y_load rfl pl5 (Bk.at_ hEj (he.dec _ hl8))) (vint (b := (v : Int)) (by rw [hdm]))) rfl ?_
      refine W.y (y_assign rfl) rfl ?_
      refine W.fin ?_
      refine E.next ?_
      refine C.seq ?_
      refine C.seq ?_
      refine C.reg ?_
      refine W.y (y_move rfl) rfl ?_
      refine W.y (y_neqT rfl rfl (by omega)) rfl ?_
      refine W.fin ?_
      refine E.next ?_
      refine C.yes rfl ?_
      refine C.seq ?_
      refine C.reg ?_
      refine W.y (y_move rfl) rfl ?_
      refine W.y (y_move rfl) rfl ?_
      refine W.y (y_ixa rfl rfl Try.underlying97 siz5 (by omega)) rfl ?_
      refine W.s (s_store rfl rfl rfl siz5 (Bk.some hdb (by omega)) (Bk.melt hdb)) ?_
      refine W.fin ?_
      refine E.next ?_
      refine C.exit ?_
      refine E.thenExit ?_
      refine E.blockOut ?_
      refine E.next ?_
      refine C.reg ?_
      refine W.y (y_move rfl) rfl ?_
      refine W.y (y_add rfl rfl (wi64 (by omega) (by omega))) rfl ?_
      refine W.y (y_assign rfl) rfl ?_
      refine W.fin ?_
      refine E.again (j + 1) ⟨by omega, by omega, ⟨_, hb2, by rw [Array.size_setIfInBounds, hds], fun i x hi hx => ?_, fun i h1 h2 => ?_⟩, hRj.ne (by simp only; omega) _, hBj.far (.inl (by omega)) _, hEj.ne (by simp only; omega) _, hKj.set (.inr (by simp only; omega)) _⟩ (Sub.cons rfl (Sub.cons rfl (Sub.cons rfl (Sub.cons rfl (Sub.cons rfl (Sub.cons rfl (Sub.cons rfl (Sub.cons rfl (Sub.nil _))))))))) (by show 4 - (j + 1) < 4 - j; omega)
      · rw [Nat.zero_add, Array.getElem?_setIfInBounds]
        by_cases e : j = i
        · subst e
          rw [hvv] at hx
          injection hx with hx
          rw [if_pos rfl, if_pos (by omega), hx]
        · rw [if_neg e]
          exact hdv i x (by omega) hx
      · rw [Nat.zero_add, Array.getElem?_setIfInBounds, if_neg (by omega)]
        exact hd0 i (by omega) h2
    have hvj : vs.length = 4 * q + j := by omega
    have hjj : j = 2 ∨ j = 3 := by omega
    obtain rfl : dl = j := by omega
    by_cases hp : pad = -1
    · have hif : (if dl = 4 then 4 * q + 4 else src.length) = 4 * q + dl := by rw [if_neg hj]; omega
      refine C.seq ?_
      refine C.seq ?_
      refine C.reg ?_
      refine W.y (y_move rfl) rfl ?_
      refine W.y (y_lssT rfl rfl (by omega)) rfl ?_
      refine W.fin ?_
      refine E.next ?_
      refine C.yes rfl ?_
      refine C.skip ?_
      refine E.next ?_
      refine C.seq ?_
      refine C.block ?_
      refine C.seq ?_
      refine C.seq ?_
      refine C.reg ?_
      refine W.y (y_move rfl) rfl ?_
      refine W.y (y_len rfl Try.underlying24) rfl ?_
      refine W.y (y_move rfl) rfl ?_
      refine W.y (y_eqlT rfl rfl (by omega)) rfl ?_
      refine W.fin ?_
      refine E.next ?_
      refine C.yes rfl ?_
      refine C.seq ?_
      refine C.block ?_
      refine C.seq ?_
      refine C.reg ?_
      refine W.y (y_move rfl) rfl ?_
      refine W.y (y_eqlF rfl rfl (by omega)) rfl ?_
      refine W.y (y_assign rfl) rfl ?_
      refine W.fin ?_
      refine E.next ?_
      refine C.no rfl ?_
      refine C.seq ?_
      refine C.seq ?_
      refine C.reg ?_
      refine W.y (y_move rfl) rfl ?_
      refine W.y (y_eqlF rfl rfl (by omega)) rfl ?_
      refine W.y (y_assign rfl) rfl ?_
      refine W.fin ?_
      refine E.next ?_
      refine C.no rfl ?_
      refine C.reg ?_
      refine W.y (y_move rfl) rfl ?_
      refine W.y (y_nilp rfl) rfl ?_
      refine W.y (y_field rfl fld85_2) rfl ?_
      refine W.y (y_load rfl pl21 (Bk.at_ hEj he.pad_)) rfl ?_
      refine W.y (y_neqF rfl rfl (by omega)) rfl ?_
      refine W.y (y_assign rfl) rfl ?_
      refine W.fin ?_
      refine E.next ?_
      refine C.no rfl ?_
      refine C.skip ?_
      refine E.blockNormal ?_
      refine E.next ?_
      refine C.seq ?_
      refine C.reg ?_
      refine W.y (y_move rfl) rfl ?_
      refine W.y (y_assign rfl) rfl ?_
      refine W.fin ?_
      refine E.next ?_
      refine C.exit ?_
      refine E.thenExit ?_
      refine E.blockFar rfl ?_
      refine E.thenExit ?_
      refine E.thenExit ?_
      refine E.blockOut ?_
      exact E.mid (()) ⟨⟨dbs, hdb, hds, hdv, hd0⟩, hRj, hBj, hEj, hKj⟩ (Sub.cons rfl (Sub.cons rfl (Sub.cons rfl (Sub.cons rfl (Sub.cons (congrArg (fun x : Nat => some (Value.int .i64 (x : Int))) hif.symm) (Sub.cons rfl (Sub.nil _)))))))
    have hpx : ∀ i, i < 4 - dl → src[4 * q + dl + i]? = some (UInt8.ofNat pad.toNat) := fun i hi => by
      rw [hsrc, List.getElem?_append_right (by rw [List.length_map]; omega), List.length_map]
      unfold Pl.pads
      rw [if_pos (by omega), List.getElem?_replicate, if_pos (by unfold Pl.padn; omega)]
    have hif : (if dl = 4 then 4 * q + 4 else src.length) = 4 * q + 4 := by rw [if_neg hj]; omega
    have hpn : (UInt8.ofNat pad.toNat).toNat = pad.toNat := byte_of (by omega)
    have hp13 := hf.nl
    have hdp := hf.dm_pad (by omega)
    rcases hjj with rfl | rfl
    · skip
      refine C.seq ?_
      refine C.seq ?_
      refine C.reg ?_
      refine W.y (y_move rfl) rfl ?_
      refine W.y (y_lssT rfl rfl (by omega)) rfl ?_
      refine W.fin ?_
      refine E.next ?_
      refine C.yes rfl ?_
      refine C.skip ?_
      refine E.next ?_
      refine C.seq ?_
      refine C.block ?_
      refine C.seq ?_
      refine C.seq ?_
      refine C.reg ?_
      refine W.y (y_move rfl) rfl ?_
      refine W.y (y_len rfl Try.underlying24) rfl ?_
      refine W.y (y_move rfl) rfl ?_
      refine W.y (y_eqlF rfl rfl (by omega)) rfl ?_
      refine W.fin ?_
      refine E.next ?_
      refine C.no rfl ?_
      refine C.skip ?_
      refine E.next ?_
      refine C.seq ?_
      refine C.reg ?_
      refine W.y (y_move rfl) rfl ?_
      refine W.y (y_move rfl) rfl ?_
      refine W.y (y_ixn rfl rfl Try.underlying24 siz5 (by omega)) rfl ?_
      refine W.y (y_load rfl pl5 (hBj _ _ (hpx 0 (by omega)))) rfl ?_
      refine W.y (y_assign rfl) rfl ?_
      refine W.fin ?_
      refine E.next ?_
      refine C.seq ?_
      refine C.reg ?_
      refine W.y (y_move rfl) rfl ?_
      refine W.y (Does.as (y_add rfl rfl (wi64 (by omega) (by omega))) (vint (b := ((4 * q + 3 : Nat) : Int)) (by omega))) rfl ?_
      refine W.y (y_assign rfl) rfl ?_
      refine W.fin ?_
      refine E.next ?_
      refine C.seq ?_
      refine C.reg ?_
      refine W.y (y_move rfl) rfl ?_
      refine W.y (y_move rfl) rfl ?_
      refine W.y (y_nilp rfl) rfl ?_
      refine W.y (y_field rfl fld85_1) rfl ?_
      refine W.y (y_ixa rfl rfl Try.underlying83 siz5 (by omega)) rfl ?_
      refine W.y (Does.as (y_load rfl pl5 (Bk.at_ hEj (he.dec _ (UInt8.toNat_lt (UInt8.ofNat pad.toNat))))) (vint (b := (255 : Int)) (by rw [hpn, hdp]; rfl))) rfl ?_
      refine W.y (y_assign rfl) rfl ?_
      refine W.fin ?_
      refine E.next ?_
      refine C.seq ?_
      refine C.seq ?_
      refine C.reg ?_
      refine W.y (y_move rfl) rfl ?_
      refine W.y (y_neqF rfl rfl (by omega)) rfl ?_
      refine W.fin ?_
      refine E.next ?_
      refine C.no rfl ?_
      refine C.skip ?_
      refine E.next ?_
      refine C.seq ?_
      refine C.seq ?_
      refine C.reg ?_
      refine W.y (y_move rfl) rfl ?_
      refine W.y (y_eqlF rfl rfl (by omega)) rfl ?_
      refine W.y (y_move rfl) rfl ?_
      refine W.gy rfl rfl (y_move rfl) rfl ?_
      refine W.gy rfl rfl (y_eqlF rfl rfl (by omega)) rfl ?_
      refine W.y (y_pick rfl rfl) rfl ?_
      refine W.fin ?_
      refine E.next ?_
      refine C.no rfl ?_
      refine C.skip ?_
      refine E.next ?_
      refine C.seq ?_
      refine C.seq ?_
      refine C.reg ?_
      refine W.y (y_move rfl) rfl ?_
      refine W.y (y_conv (r := pad) rfl Try.underlying5 Try.underlying21 ((wi32 (by omega) (by omega)).trans (by omega))) rfl ?_
      refine W.y (y_move rfl) rfl ?_
      refine W.y (y_nilp rfl) rfl ?_
      refine W.y (y_field rfl fld85_2) rfl ?_
      refine W.y (y_load rfl pl21 (Bk.at_ hEj he.pad_)) rfl ?_
      refine W.y (y_neqF rfl rfl (by omega)) rfl ?_
      refine W.fin ?_
      refine E.next ?_
      refine C.no rfl ?_
      refine C.skip ?_
      refine E.next ?_
      refine C.seq ?_
      refine C.seq ?_
      refine C.reg ?_
      refine W.y (y_move rfl) rfl ?_
      refine W.fin ?_
      refine E.next ?_
      refine C.block ?_
      refine C.seq ?_
      refine C.seq ?_
      refine C.reg ?_
      refine W.y (y_eqlF rfl rfl (by omega)) rfl ?_
      refine W.y (y_assign rfl) rfl ?_
      refine W.fin ?_
      refine E.next ?_
      refine C.no rfl ?_
      refine C.reg ?_
      refine W.y (y_eqlF rfl rfl (by omega)) rfl ?_
      refine W.y (y_assign rfl) rfl ?_
      refine W.fin ?_
      refine E.next ?_
      refine C.no rfl ?_
      refine C.seq ?_
      refine C.reg ?_
      refine W.y (y_eqlT rfl rfl (by omega)) rfl ?_
      refine W.y (y_assign rfl) rfl ?_
      refine W.fin ?_
      refine E.next ?_
      refine C.yes rfl ?_
      refine C.seq ?_
      refine C.block ?_
      refine C.loop (σ := Unit) (fun (_ : Unit) w' => wj = w') (fun _ => [(0, .pointer (some ⟨ge, 0, none⟩)), (1, .slice (some ⟨g, o, none⟩) m c'), (10, .nilIface), (11, .pointer (some ⟨w.heap.size, 0, none⟩)), (2, .slice (some ⟨sb, so, none⟩) src.length c), (3, .int .i64 ((4 * q + 3 : Nat) : Int)), (12, .int .i64 4), (13, .int .i64 ((2 : Nat) : Int))]) (fun _ => 0) () ?_ ?_ ?_
      · exact rfl
      · exact (Sub.cons rfl (Sub.cons rfl (Sub.cons rfl (Sub.cons rfl (Sub.cons rfl (Sub.cons rfl (Sub.cons rfl (Sub.cons rfl (Sub.nil _)))))))))
      rintro _ _ rfl
      show C _ _ _ _ [(0, .pointer (some ⟨ge, 0, none⟩)), (1, .slice (some ⟨g, o, none⟩) m c'), (10, .nilIface), (11, .pointer (some ⟨w.heap.size, 0, none⟩)), (2, .slice (some ⟨sb, so, none⟩) src.length c), (3, .int .i64 ((4 * q + 3 : Nat) : Int)), (12, .int .i64 4), (13, .int .i64 ((2 : Nat) : Int))] _
      refine C.seq ?_
      refine C.seq ?_
      refine C.reg ?_
      refine W.y (y_move rfl) rfl ?_
      refine W.y (y_move rfl) rfl ?_
      refine W.y (y_len rfl Try.underlying24) rfl ?_
      refine W.y (y_lssT rfl rfl (by omega)) rfl ?_
      refine W.y (y_move rfl) rfl ?_
      refine W.gy rfl rfl (y_move rfl) rfl ?_
      refine W.gy rfl rfl (y_move rfl) rfl ?_
      refine W.gy rfl rfl (y_ixn rfl rfl Try.underlying24 siz5 (by omega)) rfl ?_
      refine W.gy rfl rfl (y_load rfl pl5 (hBj _ _ (hpx 1 (by omega)))) rfl ?_
      refine W.gy rfl rfl (y_eqlF rfl rfl (by omega)) rfl ?_
      refine W.gy rfl rfl (y_move rfl) rfl ?_
      refine W.gy rfl rfl (y_move rfl) rfl ?_
      refine W.gy rfl rfl (y_move rfl) rfl ?_
      refine W.gy rfl rfl (y_ixn rfl rfl Try.underlying24 siz5 (by omega)) rfl ?_
      refine W.gy rfl rfl (y_load rfl pl5 (hBj _ _ (hpx 1 (by omega)))) rfl ?_
      refine W.gy rfl rfl (y_eqlF rfl rfl (by omega)) rfl ?_
      refine W.gy rfl rfl (y_pick rfl rfl) rfl ?_
      refine W.y (y_pick rfl rfl) rfl ?_
      refine W.fin ?_
      refine E.next ?_
      refine C.no rfl ?_
      refine C.exit ?_
      refine E.thenExit ?_
      refine E.thenExit ?_
      refine E.blockOut ?_
      refine E.next ?_
      refine C.seq ?_
      refine C.seq ?_
      refine C.reg ?_
      refine W.y (y_move rfl) rfl ?_
      refine W.y (y_move rfl) rfl ?_
      refine W.y (y_len rfl Try.underlying24) rfl ?_
      refine W.y (y_eqlF rfl rfl (by omega)) rfl ?_
      refine W.fin ?_
      refine E.next ?_
      refine C.no rfl ?_
      refine C.skip ?_
      refine E.next ?_
      refine C.seq ?_
      refine C.seq ?_
      refine C.still mixed (by kernel_rfl) ?_
      refine S.y (y_move rfl) rfl ?_
      refine S.y (y_move rfl) rfl ?_
      refine S.y (y_ixn rfl rfl Try.underlying24 siz5 (by omega)) rfl ?_
      refine S.y (y_load rfl pl5 (hBj.drew _ _ (hpx 1 (by omega)))) rfl ?_
      refine S.y (y_conv (r := pad) rfl Try.underlying5 Try.underlying21 ((wi32 (by omega) (by omega)).trans (by omega))) rfl ?_
      refine S.y (y_move rfl) rfl ?_
      refine S.y (y_nilp rfl) rfl ?_
      refine S.y (y_field rfl fld85_2) rfl ?_
      refine S.y (y_load rfl pl21 (Bk.at_ hEj.drew he.pad_)) rfl ?_
      refine S.y (y_neqF rfl rfl (by omega)) rfl ?_
      refine S.end_ ?_
      refine E.next ?_
      refine C.no rfl ?_
      refine C.skip ?_
      refine E.next ?_
      refine C.reg ?_
      refine W.y (y_move rfl) rfl ?_
      refine W.y (Does.as (y_add rfl rfl (wi64 (by omega) (by omega))) (vint (b := ((4 * q + 4 : Nat) : Int)) (by omega))) rfl ?_
      refine W.y (y_assign rfl) rfl ?_
      refine W.fin ?_
      refine E.blockNormal ?_
      refine E.next ?_
      refine C.seq ?_
      refine C.block ?_
      refine C.loop (σ := Unit) (fun (_ : Unit) w' => wj.drew = w') (fun _ => [(0, .pointer (some ⟨ge, 0, none⟩)), (1, .slice (some ⟨g, o, none⟩) m c'), (10, .nilIface), (11, .pointer (some ⟨w.heap.size, 0, none⟩)), (2, .slice (some ⟨sb, so, none⟩) src.length c), (3, .int .i64 ((4 * q + 4 : Nat) : Int)), (13, .int .i64 ((2 : Nat) : Int))]) (fun _ => 0) () ?_ ?_ ?_
      · exact rfl
      · exact (Sub.cons rfl (Sub.cons rfl (Sub.cons rfl (Sub.cons rfl (Sub.cons rfl (Sub.cons rfl (Sub.cons rfl (Sub.nil _))))))))
      rintro _ _ rfl
      show C _ _ _ _ [(0, .pointer (some ⟨ge, 0, none⟩)), (1, .slice (some ⟨g, o, none⟩) m c'), (10, .nilIface), (11, .pointer (some ⟨w.heap.size, 0, none⟩)), (2, .slice (some ⟨sb, so, none⟩) src.length c), (3, .int .i64 ((4 * q + 4 : Nat) : Int)), (13, .int .i64 ((2 : Nat) : Int))] _
      refine C.seq ?_
      refine C.seq ?_
      refine C.reg ?_
      refine W.y (y_move rfl) rfl ?_
      refine W.y (y_move rfl) rfl ?_
      refine W.y (y_len rfl Try.underlying24) rfl ?_
      refine W.y (y_lssF rfl rfl (by omega)) rfl ?_
      refine W.y (y_move rfl) rfl ?_
      refine W.gn rfl rfl rfl ?_
      refine W.gn rfl rfl rfl ?_
      refine W.gn rfl rfl rfl ?_
      refine W.gn rfl rfl rfl ?_
      refine W.gn rfl rfl rfl ?_
      refine W.gn rfl rfl rfl ?_
      refine W.gu rfl rfl rfl ?_
      refine W.gu rfl rfl rfl ?_
      refine W.gu rfl rfl rfl ?_
      refine W.gu rfl rfl rfl ?_
      refine W.gu rfl rfl rfl ?_
      refine W.gn rfl rfl rfl ?_
      refine W.y (y_pick rfl rfl) rfl ?_
      refine W.fin ?_
      refine E.next ?_
      refine C.no rfl ?_
      refine C.exit ?_
      refine E.thenExit ?_
      refine E.thenExit ?_
      refine E.blockOut ?_
      refine E.next ?_
      refine C.seq ?_
      refine C.seq ?_
      refine C.reg ?_
      refine W.y (y_move rfl) rfl ?_
      refine W.y (y_move rfl) rfl ?_
      refine W.y (y_len rfl Try.underlying24) rfl ?_
      refine W.y (y_lssF rfl rfl (by omega)) rfl ?_
      refine W.fin ?_
      refine E.next ?_
      refine C.no rfl ?_
      refine C.skip ?_
      refine E.next ?_
      refine C.seq ?_
      refine C.reg ?_
      refine W.y (y_move rfl) rfl ?_
      refine W.y (y_assign rfl) rfl ?_
      refine W.fin ?_
      refine E.next ?_
      refine C.exit ?_
      refine E.blockFar rfl ?_
      refine E.thenExit ?_
      refine E.thenExit ?_
      refine E.blockOut ?_
      exact E.mid (()) ⟨⟨dbs, hdb.drew, hds, hdv, hd0⟩, hRj.drew, hBj.drew, hEj.drew, hKj.drew⟩ (Sub.cons rfl (Sub.cons rfl (Sub.cons rfl (Sub.cons rfl (Sub.cons (congrArg (fun x : Nat => some (Value.int .i64 (x : Int))) hif.symm) (Sub.cons rfl (Sub.nil _)))))))
    · skip
      refine C.seq ?_
      refine C.seq ?_
      refine C.reg ?_
      refine W.y (y_move rfl) rfl ?_
      refine W.y (y_lssT rfl rfl (by omega)) rfl ?_
      refine W.fin ?_
      refine E.next ?_
      refine C.yes rfl ?_
      refine C.skip ?_
      refine E.next ?_
      refine C.seq ?_
      refine C.block ?_
      refine C.seq ?_
      refine C.seq ?_
      refine C.reg ?_
      refine W.y (y_move rfl) rfl ?_
      refine W.y (y_len rfl Try.underlying24) rfl ?_
      refine W.y (y_move rfl) rfl ?_
      refine W.y (y_eqlF rfl rfl (by omega)) rfl ?_
      refine W.fin ?_
      refine E.next ?_
      refine C.no rfl ?_
      refine C.skip ?_
      refine E.next ?_
      refine C.seq ?_
      refine C.reg ?_
      refine W.y (y_move rfl) rfl ?_
      refine W.y (y_move rfl) rfl ?_
      refine W.y (y_ixn rfl rfl Try.underlying24 siz5 (by omega)) rfl ?_
      refine W.y (y_load rfl pl5 (hBj _ _ (hpx 0 (by omega)))) rfl ?_
      refine W.y (y_assign rfl) rfl ?_
      refine W.fin ?_
      refine E.next ?_
      refine C.seq ?_
      refine C.reg ?_
      refine W.y (y_move rfl) rfl ?_
      refine W.y (Does.as (y_add rfl rfl (wi64 (by omega) (by omega))) (vint (b := ((4 * q + 4 : Nat) : Int)) (by omega))) rfl ?_
      refine W.y (y_assign rfl) rfl ?_
      refine W.fin ?_
      refine E.next ?_
      refine C.seq ?_
      refine C.reg ?_
      refine W.y (y_move rfl) rfl ?_
      refine W.y (y_move rfl) rfl ?_
      refine W.y (y_nilp rfl) rfl ?_
      refine W.y (y_field rfl fld85_1) rfl ?_
      refine W.y (y_ixa rfl rfl Try.underlying83 siz5 (by omega)) rfl ?_
      refine W.y (Does.as (y_load rfl pl5 (Bk.at_ hEj (he.dec _ (UInt8.toNat_lt (UInt8.ofNat pad.toNat))))) (vint (b := (255 : Int)) (by rw [hpn, hdp]; rfl))) rfl ?_
      refine W.y (y_assign rfl) rfl ?_
      refine W.fin ?_
      refine E.next ?_
      refine C.seq ?_
      refine C.seq ?_
      refine C.reg ?_
      refine W.y (y_move rfl) rfl ?_
      refine W.y (y_neqF rfl rfl (by omega)) rfl ?_
      refine W.fin ?_
      refine E.next ?_
      refine C.no rfl ?_
      refine C.skip ?_
      refine E.next ?_
      refine C.seq ?_
      refine C.seq ?_
      refine C.reg ?_
      refine W.y (y_move rfl) rfl ?_
      refine W.y (y_eqlF rfl rfl (by omega)) rfl ?_
      refine W.y (y_move rfl) rfl ?_
      refine W.gy rfl rfl (y_move rfl) rfl ?_
      refine W.gy rfl rfl (y_eqlF rfl rfl (by omega)) rfl ?_
      refine W.y (y_pick rfl rfl) rfl ?_
      refine W.fin ?_
      refine E.next ?_
      refine C.no rfl ?_
      refine C.skip ?_
      refine E.next ?_
      refine C.seq ?_
      refine C.seq ?_
      refine C.reg ?_
      refine W.y (y_move rfl) rfl ?_
      refine W.y (y_conv (r := pad) rfl Try.underlying5 Try.underlying21 ((wi32 (by omega) (by omega)).trans (by omega))) rfl ?_
      refine W.y (y_move rfl) rfl ?_
      refine W.y (y_nilp rfl) rfl ?_
      refine W.y (y_field rfl fld85_2) rfl ?_
      refine W.y (y_load rfl pl21 (Bk.at_ hEj he.pad_)) rfl ?_
      refine W.y (y_neqF rfl rfl (by omega)) rfl ?_
      refine W.fin ?_
      refine E.next ?_
      refine C.no rfl ?_
      refine C.skip ?_
      refine E.next ?_
      refine C.seq ?_
      refine C.seq ?_
      refine C.reg ?_
      refine W.y (y_move rfl) rfl ?_
      refine W.fin ?_
      refine E.next ?_
      refine C.block ?_
      refine C.seq ?_
      refine C.seq ?_
      refine C.reg ?_
      refine W.y (y_eqlF rfl rfl (by omega)) rfl ?_
      refine W.y (y_assign rfl) rfl ?_
      refine W.fin ?_
      refine E.next ?_
      refine C.no rfl ?_
      refine C.reg ?_
      refine W.y (y_eqlF rfl rfl (by omega)) rfl ?_
      refine W.y (y_assign rfl) rfl ?_
      refine W.fin ?_
      refine E.next ?_
      refine C.no rfl ?_
      refine C.seq ?_
      refine C.reg ?_
      refine W.y (y_eqlF rfl rfl (by omega)) rfl ?_
      refine W.y (y_assign rfl) rfl ?_
      refine W.fin ?_
      refine E.next ?_
      refine C.no rfl ?_
      refine C.skip ?_
      refine E.blockNormal ?_
      refine E.next ?_
      refine C.seq ?_
      refine C.block ?_
      refine C.loop (σ := Unit) (fun (_ : Unit) w' => wj = w') (fun _ => [(0, .pointer (some ⟨ge, 0, none⟩)), (1, .slice (some ⟨g, o, none⟩) m c'), (10, .nilIface), (11, .pointer (some ⟨w.heap.size, 0, none⟩)), (2, .slice (some ⟨sb, so, none⟩) src.length c), (3, .int .i64 ((4 * q + 4 : Nat) : Int)), (13, .int .i64 ((3 : Nat) : Int))]) (fun _ => 0) () ?_ ?_ ?_
      · exact rfl
      · exact (Sub.cons rfl (Sub.cons rfl (Sub.cons rfl (Sub.cons rfl (Sub.cons rfl (Sub.cons rfl (Sub.cons rfl (Sub.nil _))))))))
      rintro _ _ rfl
      show C _ _ _ _ [(0, .pointer (some ⟨ge, 0, none⟩)), (1, .slice (some ⟨g, o, none⟩) m c'), (10, .nilIface), (11, .pointer (some ⟨w.heap.size, 0, none⟩)), (2, .slice (some ⟨sb, so, none⟩) src.length c), (3, .int .i64 ((4 * q + 4 : Nat) : Int)), (13, .int .i64 ((3 : Nat) : Int))] _
      refine C.seq ?_
      refine C.seq ?_
      refine C.reg ?_
      refine W.y (y_move rfl) rfl ?_
      refine W.y (y_move rfl) rfl ?_
      refine W.y (y_len rfl Try.underlying24) rfl ?_
      refine W.y (y_lssF rfl rfl (by omega)) rfl ?_
      refine W.y (y_move rfl) rfl ?_
      refine W.gn rfl rfl rfl ?_
      refine W.gn rfl rfl rfl ?_
      refine W.gn rfl rfl rfl ?_
      refine W.gn rfl rfl rfl ?_
      refine W.gn rfl rfl rfl ?_
      refine W.gn rfl rfl rfl ?_
      refine W.gu rfl rfl rfl ?_
      refine W.gu rfl rfl rfl ?_
      refine W.gu rfl rfl rfl ?_
      refine W.gu rfl rfl rfl ?_
      refine W.gu rfl rfl rfl ?_
      refine W.gn rfl rfl rfl ?_
      refine W.y (y_pick rfl rfl) rfl ?_
      refine W.fin ?_
      refine E.next ?_
      refine C.no rfl ?_
      refine C.exit ?_
      refine E.thenExit ?_
      refine E.thenExit ?_
      refine E.blockOut ?_
      refine E.next ?_
      refine C.seq ?_
      refine C.seq ?_
      refine C.reg ?_
      refine W.y (y_move rfl) rfl ?_
      refine W.y (y_move rfl) rfl ?_
      refine W.y (y_len rfl Try.underlying24) rfl ?_
      refine W.y (y_lssF rfl rfl (by omega)) rfl ?_
      refine W.fin ?_
      refine E.next ?_
      refine C.no rfl ?_
      refine C.skip ?_
      refine E.next ?_
      refine C.seq ?_
      refine C.reg ?_
      refine W.y (y_move rfl) rfl ?_
      refine W.y (y_assign rfl) rfl ?_
      refine W.fin ?_
      refine E.next ?_
      refine C.exit ?_
      refine E.blockFar rfl ?_
      refine E.thenExit ?_
      refine E.thenExit ?_
      refine E.blockOut ?_
      exact E.mid (()) ⟨⟨dbs, hdb, hds, hdv, hd0⟩, hRj, hBj, hEj, hKj⟩ (Sub.cons rfl (Sub.cons rfl (Sub.cons rfl (Sub.cons rfl (Sub.cons (congrArg (fun x : Nat => some (Value.int .i64 (x : Int))) hif.symm) (Sub.cons rfl (Sub.nil _)))))))
  rintro _ wm ⟨⟨dbs, hdb, hds, hdv, hd0⟩, hRm, hBm, hEm, hKm⟩
  show C _ _ _ _ [(0, .pointer (some ⟨ge, 0, none⟩)), (1, .slice (some ⟨g, o, none⟩) m c'), (10, .nilIface), (11, .pointer (some ⟨w.heap.size, 0, none⟩)), (3, .int .i64 (((if dl = 4 then 4 * q + 4 else src.length) : Nat) : Int)), (12, .int .i64 (dl : Int))] _
  obtain ⟨v0, q0⟩ : ∃ v, vs[4 * q]? = some v := ⟨_, List.getElem?_eq_getElem (by omega)⟩
  have t0 := hv v0 (List.mem_of_getElem? q0)
  obtain ⟨v1, q1⟩ : ∃ v, vs[4 * q + 1]? = some v := ⟨_, List.getElem?_eq_getElem (by omega)⟩
  have t1 := hv v1 (List.mem_of_getElem? q1)
  have hg0 := hdv 0 v0 (by omega) q0
  have hg1 := hdv 1 v1 (by omega) q1
  have hdls : dl = 4 ∨ dl = 3 ∨ dl = 2 := by omega
  rcases hdls with rfl | rfl | rfl
  · skip
    obtain ⟨v2, q2⟩ : ∃ v, vs[4 * q + 2]? = some v := ⟨_, List.getElem?_eq_getElem (by omega)⟩
    have t2 := hv v2 (List.mem_of_getElem? q2)
    have hg2 := hdv 2 v2 (by omega) q2
    obtain ⟨v3, q3⟩ : ∃ v, vs[4 * q + 3]? = some v := ⟨_, List.getElem?_eq_getElem (by omega)⟩
    have t3 := hv v3 (List.mem_of_getElem? q3)
    have hg3 := hdv 3 v3 (by omega) q3
    obtain ⟨c0, hc0⟩ : ∃ c, c = v0 * 2 ^ 2 % 256 + v1 / 2 ^ 4 := ⟨_, rfl⟩
    obtain ⟨c1, hc1⟩ : ∃ c, c = v1 * 2 ^ 4 % 256 + v2 / 2 ^ 2 := ⟨_, rfl⟩
    obtain ⟨c2, hc2⟩ : ∃ c, c = v2 * 2 ^ 6 % 256 + v3 := ⟨_, rfl⟩
    have hdt : (vs.drop (4 * q)).take 4 = [v0, v1, v2, v3] := by
      have h1 := take_more4 (l := vs) (m := 4 * q) q0 q1 q2 q3
      have h2 : (vs.drop (4 * q)).take 4 = (vs.take (4 * q + 4)).drop (4 * q) := by
        rw [List.drop_take, show 4 * q + 4 - 4 * q = 4 by omega]
      rw [h2, h1, List.drop_append_of_le_length (by rw [List.length_take]; omega), List.drop_of_length_le (by rw [List.length_take]; omega)]
      rfl
    have hun : bv (Pl.unpack 6 ((vs.drop (4 * q)).take 4)) = [.int .u8 (c0 : Int), .int .u8 (c1 : Int), .int .u8 (c2 : Int)] := by
      rw [hdt, unpack64_4 t0 t1 t2 t3, bytes_of (by simp; omega)]
      simp only [List.map_cons, List.map_nil, hc0, hc1, hc2]
    cases st
    · skip
      refine C.seq ?_
      refine C.reg ?_
      refine W.y (y_ixa (i := 0) rfl rfl Try.underlying97 siz5 (by omega)) rfl ?_
      refine W.y (y_load rfl pl5 (Bk.at_ (v := .int .u8 ((v0 : Nat) : Int)) hdb (by simpa using hg0))) rfl ?_
      refine W.y (y_convN uk64 rfl Try.underlying5 Try.underlying35 (by omega)) rfl ?_
      refine W.y (y_shl uk64 (s := 18) rfl rfl (by omega) (by omega)) rfl ?_
      refine W.y (y_ixa (i := 1) rfl rfl Try.underlying97 siz5 (by omega)) rfl ?_
      refine W.y (y_load rfl pl5 (Bk.at_ (v := .int .u8 ((v1 : Nat) : Int)) hdb (by simpa using hg1))) rfl ?_
      refine W.y (y_convN uk64 rfl Try.underlying5 Try.underlying35 (by omega)) rfl ?_
      refine W.y (y_shl uk64 (s := 12) rfl rfl (by omega) (by omega)) rfl ?_
      refine W.y (y_join uk64 18 rfl rfl (by omega) (by omega) (by omega) (by omega)) rfl ?_
      refine W.y (y_ixa (i := 2) rfl rfl Try.underlying97 siz5 (by omega)) rfl ?_
      refine W.y (y_load rfl pl5 (Bk.at_ (v := .int .u8 ((v2 : Nat) : Int)) hdb (by simpa using hg2))) rfl ?_
      refine W.y (y_convN uk64 rfl Try.underlying5 Try.underlying35 (by omega)) rfl ?_
      refine W.y (y_shl uk64 (s := 6) rfl rfl (by omega) (by omega)) rfl ?_
      refine W.y (y_join uk64 12 rfl rfl (by omega) (by omega) (by omega) (by omega)) rfl ?_
      refine W.y (y_ixa (i := 3) rfl rfl Try.underlying97 siz5 (by omega)) rfl ?_
      refine W.y (y_load rfl pl5 (Bk.at_ (v := .int .u8 ((v3 : Nat) : Int)) hdb (by simpa using hg3))) rfl ?_
      refine W.y (y_convN uk64 rfl Try.underlying5 Try.underlying35 (by omega)) rfl ?_
      refine W.y (y_join uk64 6 rfl rfl (by omega) (by omega) (by omega) (by omega)) rfl ?_
      refine W.y (y_assign rfl) rfl ?_
      refine W.fin ?_
      refine E.next ?_
      refine C.seq ?_
      refine C.reg ?_
      refine W.y (y_move rfl) rfl ?_
      refine W.y (y_shr uk64 (s := 0) rfl rfl (by omega)) rfl ?_
      refine W.y (Does.as (y_convM uk8 rfl Try.underlying35 Try.underlying5) (vint (b := (c2 : Int)) (by omega))) rfl ?_
      refine W.y (y_move rfl) rfl ?_
      refine W.y (y_shr uk64 (s := 8) rfl rfl (by omega)) rfl ?_
      refine W.y (Does.as (y_convM uk8 rfl Try.underlying35 Try.underlying5) (vint (b := (c1 : Int)) (by omega))) rfl ?_
      refine W.y (y_move rfl) rfl ?_
      refine W.y (y_shr uk64 (s := 16) rfl rfl (by omega)) rfl ?_
      refine W.y (Does.as (y_convM uk8 rfl Try.underlying35 Try.underlying5) (vint (b := (c0 : Int)) (by omega))) rfl ?_
      refine W.y (y_ixa (i := 2) rfl rfl Try.underlying97 siz5 (by omega)) rfl ?_
      refine W.s (s_store rfl rfl rfl siz5 (Bk.some hdb (by first | omega | (simp only [Array.size_setIfInBounds]; omega))) (Bk.melt hdb)) ?_
      refine W.y (y_ixa (i := 1) rfl rfl Try.underlying97 siz5 (by omega)) rfl ?_
      refine W.s (s_store rfl rfl rfl siz5 (Bk.some (Bk.set hdb _ _) (by first | omega | (simp only [Array.size_setIfInBounds]; omega))) (Bk.melt (Bk.set hdb _ _))) ?_
      refine W.y (y_ixa (i := 0) rfl rfl Try.underlying97 siz5 (by omega)) rfl ?_
      refine W.s (s_store rfl rfl rfl siz5 (Bk.some (Bk.set (Bk.set hdb _ _) _ _) (by first | omega | (simp only [Array.size_setIfInBounds]; omega))) (Bk.melt (Bk.set (Bk.set hdb _ _) _ _))) ?_
      refine W.fin ?_
      refine E.next ?_
      refine C.seq ?_
      refine C.seq ?_
      refine C.reg ?_
      refine W.y (y_move rfl) rfl ?_
      refine W.fin ?_
      refine E.next ?_
      refine C.block ?_
      refine C.seq ?_
      refine C.block ?_
      refine C.seq ?_
      refine C.block ?_
      refine C.seq ?_
      refine C.block ?_
      refine C.seq ?_
      refine C.seq ?_
      refine C.seq ?_
      refine C.reg ?_
      refine W.y (y_eqlT rfl rfl (by omega)) rfl ?_
      refine W.y (y_assign rfl) rfl ?_
      refine W.fin ?_
      refine E.next ?_
      refine C.yes rfl ?_
      refine C.exit ?_
      refine E.thenExit ?_
      refine E.thenExit ?_
      refine E.blockOut ?_
      refine E.next ?_
      refine C.seq ?_
      refine C.reg ?_
      refine W.y (y_move rfl) rfl ?_
      refine W.y (y_ixa (i := 2) rfl rfl Try.underlying97 siz5 (by omega)) rfl ?_
      refine W.y (y_load rfl pl5 (Bk.at_ (v := .int .u8 ((c2 : Nat) : Int)) (Bk.set (Bk.set (Bk.set hdb _ _) _ _) _ _) (by simp [hds]))) rfl ?_
      refine W.y (y_ixn (i := 2) rfl rfl Try.underlying24 siz5 (by omega)) rfl ?_
      refine W.s (s_store rfl rfl rfl siz5 (Bk.some (Bk.ne (Bk.ne (Bk.ne hRm (by simp only; omega) _) (by simp only; omega) _) (by simp only; omega) _) (by first | omega | (simp only [Array.size_setIfInBounds]; omega))) (Bk.frozen (Bk.ne (Bk.ne (Bk.ne hRm (by simp only; omega) _) (by simp only; omega) _) (by simp only; omega) _) (by omega))) ?_
      refine W.fin ?_
      refine E.next ?_
      refine C.reg ?_
      refine W.y (y_ixa (i := 2) rfl rfl Try.underlying97 siz5 (by omega)) rfl ?_
      refine W.s (s_store rfl rfl rfl siz5 (Bk.some (Bk.ne (Bk.set (Bk.set (Bk.set hdb _ _) _ _) _ _) (by simp only; omega) _) (by first | omega | (simp only [Array.size_setIfInBounds]; omega))) (Bk.melt (Bk.ne (Bk.set (Bk.set (Bk.set hdb _ _) _ _) _ _) (by simp only; omega) _))) ?_
      refine W.fin ?_
      refine E.blockNormal ?_
      refine E.next ?_
      refine C.seq ?_
      refine C.reg ?_
      refine W.y (y_move rfl) rfl ?_
      refine W.y (y_ixa (i := 1) rfl rfl Try.underlying97 siz5 (by omega)) rfl ?_
      refine W.y (y_load rfl pl5 (Bk.at_ (v := .int .u8 ((c1 : Nat) : Int)) (Bk.set (Bk.ne (Bk.set (Bk.set (Bk.set hdb _ _) _ _) _ _) (by simp only; omega) _) _ _) (by simp [hds]))) rfl ?_
      refine W.y (y_ixn (i := 1) rfl rfl Try.underlying24 siz5 (by omega)) rfl ?_
      refine W.s (s_store rfl rfl rfl siz5 (Bk.some (Bk.ne (Bk.set (Bk.ne (Bk.ne (Bk.ne hRm (by simp only; omega) _) (by simp only; omega) _) (by simp only; omega) _) _ _) (by simp only; omega) _) (by first | omega | (simp only [Array.size_setIfInBounds]; omega))) (Bk.frozen (Bk.ne (Bk.set (Bk.ne (Bk.ne (Bk.ne hRm (by simp only; omega) _) (by simp only; omega) _) (by simp only; omega) _) _ _) (by simp only; omega) _) (by omega))) ?_
      refine W.fin ?_
      refine E.next ?_
      refine C.seq ?_
      refine C.seq ?_
      refine C.reg ?_
      refine W.y (y_move rfl) rfl ?_
      refine W.y (y_nilp rfl) rfl ?_
      refine W.y (y_field rfl fld85_3) rfl ?_
      refine W.y (y_load rfl pl4 (Bk.at_ (v := .bool false) (Bk.ne (Bk.ne (Bk.ne (Bk.ne (Bk.ne (Bk.ne hEm (by simp only; omega) _) (by simp only; omega) _) (by simp only; omega) _) (by simp only; omega) _) (by simp only; omega) _) (by simp only; omega) _) (by simpa using hst))) rfl ?_
      refine W.y (y_move rfl) rfl ?_
      refine W.gn rfl rfl rfl ?_
      refine W.gn rfl rfl rfl ?_
      refine W.gn rfl rfl rfl ?_
      refine W.y (y_pick rfl rfl) rfl ?_
      refine W.fin ?_
      refine E.next ?_
      refine C.no rfl ?_
      refine C.skip ?_
      refine E.next ?_
      refine C.reg ?_
      refine W.y (y_ixa (i := 1) rfl rfl Try.underlying97 siz5 (by omega)) rfl ?_
      refine W.s (s_store rfl rfl rfl siz5 (Bk.some (Bk.ne (Bk.set (Bk.ne (Bk.set (Bk.set (Bk.set hdb _ _) _ _) _ _) (by simp only; omega) _) _ _) (by simp only; omega) _) (by first | omega | (simp only [Array.size_setIfInBounds]; omega))) (Bk.melt (Bk.ne (Bk.set (Bk.ne (Bk.set (Bk.set (Bk.set hdb _ _) _ _) _ _) (by simp only; omega) _) _ _) (by simp only; omega) _))) ?_
      refine W.fin ?_
      refine E.blockNormal ?_
      refine E.next ?_
      refine C.seq ?_
      refine C.seq ?_
      refine C.reg ?_
      refine W.y (y_move rfl) rfl ?_
      refine W.y (y_ixa (i := 0) rfl rfl Try.underlying97 siz5 (by omega)) rfl ?_
      refine W.y (y_load rfl pl5 (Bk.at_ (v := .int .u8 ((c0 : Nat) : Int)) (Bk.set (Bk.ne (Bk.set (Bk.ne (Bk.set (Bk.set (Bk.set hdb _ _) _ _) _ _) (by simp only; omega) _) _ _) (by simp only; omega) _) _ _) (by simp [hds]))) rfl ?_
      refine W.y (y_ixn (i := 0) rfl rfl Try.underlying24 siz5 (by omega)) rfl ?_
      refine W.s (s_store rfl rfl rfl siz5 (Bk.some (Bk.ne (Bk.set (Bk.ne (Bk.set (Bk.ne (Bk.ne (Bk.ne hRm (by simp only; omega) _) (by simp only; omega) _) (by simp only; omega) _) _ _) (by simp only; omega) _) _ _) (by simp only; omega) _) (by first | omega | (simp only [Array.size_setIfInBounds]; omega))) (Bk.frozen (Bk.ne (Bk.set (Bk.ne (Bk.set (Bk.ne (Bk.ne (Bk.ne hRm (by simp only; omega) _) (by simp only; omega) _) (by simp only; omega) _) _ _) (by simp only; omega) _) _ _) (by simp only; omega) _) (by omega))) ?_
      refine W.fin ?_
      refine E.next ?_
      refine C.seq ?_
      refine C.reg ?_
      refine W.y (y_move rfl) rfl ?_
      refine W.y (y_nilp rfl) rfl ?_
      refine W.y (y_field rfl fld85_3) rfl ?_
      refine W.y (y_load rfl pl4 (Bk.at_ (v := .bool false) (Bk.ne (Bk.ne (Bk.ne (Bk.ne (Bk.ne (Bk.ne (Bk.ne (Bk.ne hEm (by simp only; omega) _) (by simp only; omega) _) (by simp only; omega) _) (by simp only; omega) _) (by simp only; omega) _) (by simp only; omega) _) (by simp only; omega) _) (by simp only; omega) _) (by simpa using hst))) rfl ?_
      refine W.y (y_move rfl) rfl ?_
      refine W.gn rfl rfl rfl ?_
      refine W.gn rfl rfl rfl ?_
      refine W.gn rfl rfl rfl ?_
      refine W.gn rfl rfl rfl ?_
      refine W.gu rfl rfl rfl ?_
      refine W.gu rfl rfl rfl ?_
      refine W.gu rfl rfl rfl ?_
      refine W.gn rfl rfl rfl ?_
      refine W.y (y_pick rfl rfl) rfl ?_
      refine W.fin ?_
      refine E.next ?_
      refine C.no rfl ?_
      refine C.skip ?_
      refine E.next ?_
      refine C.exit ?_
      refine E.blockOut ?_
      refine E.next ?_
      refine C.seq ?_
      refine C.reg ?_
      refine W.y (y_move rfl) rfl ?_
      refine W.y (y_move rfl) rfl ?_
      refine W.y (Does.as (y_sub rfl rfl (wi64 (by omega) (by omega))) (vint (b := ((3 : Nat) : Int)) (by omega))) rfl ?_
      refine W.y (y_move rfl) rfl ?_
      refine W.y (y_assign rfl) rfl ?_
      refine W.y (y_assign rfl) rfl ?_
      refine W.y (y_assign rfl) rfl ?_
      refine W.fin ?_
      refine E.next ?_
      refine C.ret ?_
      exact E.ret3 rfl rfl rfl rfl ⟨rfl, by rw [hun, ← rev3]; exact (Bk.set (Bk.ne (Bk.set (Bk.ne (Bk.set (Bk.ne (Bk.ne (Bk.ne hRm (by simp only; omega) _) (by simp only; omega) _) (by simp only; omega) _) _ _) (by simp only; omega) _) _ _) (by simp only; omega) _) _ _), (Kp.set (Kp.set (Kp.set (Kp.set (Kp.set (Kp.set (Kp.set (Kp.set hKm (.inr (by simp only; omega)) _) (.inr (by simp only; omega)) _) (.inr (by simp only; omega)) _) (.inl rfl) _) (.inr (by simp only; omega)) _) (.inl rfl) _) (.inr (by simp only; omega)) _) (.inl rfl) _)⟩
    · skip
      refine C.seq ?_
      refine C.reg ?_
      refine W.y (y_ixa (i := 0) rfl rfl Try.underlying97 siz5 (by omega)) rfl ?_
      refine W.y (y_load rfl pl5 (Bk.at_ (v := .int .u8 ((v0 : Nat) : Int)) hdb (by simpa using hg0))) rfl ?_
      refine W.y (y_convN uk64 rfl Try.underlying5 Try.underlying35 (by omega)) rfl ?_
      refine W.y (y_shl uk64 (s := 18) rfl rfl (by omega) (by omega)) rfl ?_
      refine W.y (y_ixa (i := 1) rfl rfl Try.underlying97 siz5 (by omega)) rfl ?_
      refine W.y (y_load rfl pl5 (Bk.at_ (v := .int .u8 ((v1 : Nat) : Int)) hdb (by simpa using hg1))) rfl ?_
      refine W.y (y_convN uk64 rfl Try.underlying5 Try.underlying35 (by omega)) rfl ?_
      refine W.y (y_shl uk64 (s := 12) rfl rfl (by omega) (by omega)) rfl ?_
      refine W.y (y_join uk64 18 rfl rfl (by omega) (by omega) (by omega) (by omega)) rfl ?_
      refine W.y (y_ixa (i := 2) rfl rfl Try.underlying97 siz5 (by omega)) rfl ?_
      refine W.y (y_load rfl pl5 (Bk.at_ (v := .int .u8 ((v2 : Nat) : Int)) hdb (by simpa using hg2))) rfl ?_
      refine W.y (y_convN uk64 rfl Try.underlying5 Try.underlying35 (by omega)) rfl ?_
      refine W.y (y_shl uk64 (s := 6) rfl rfl (by omega) (by omega)) rfl ?_
      refine W.y (y_join uk64 12 rfl rfl (by omega) (by omega) (by omega) (by omega)) rfl ?_
      refine W.y (y_ixa (i := 3) rfl rfl Try.underlying97 siz5 (by omega)) rfl ?_
      refine W.y (y_load rfl pl5 (Bk.at_ (v := .int .u8 ((v3 : Nat) : Int)) hdb (by simpa using hg3))) rfl ?_
      refine W.y (y_convN uk64 rfl Try.underlying5 Try.underlying35 (by omega)) rfl ?_
      refine W.y (y_join uk64 6 rfl rfl (by omega) (by omega) (by omega) (by omega)) rfl ?_
      refine W.y (y_assign rfl) rfl ?_
      refine W.fin ?_
      refine E.next ?_
      refine C.seq ?_
      refine C.reg ?_
      refine W.y (y_move rfl) rfl ?_
      refine W.y (y_shr uk64 (s := 0) rfl rfl (by omega)) rfl ?_
      refine W.y (Does.as (y_convM uk8 rfl Try.underlying35 Try.underlying5) (vint (b := (c2 : Int)) (by omega))) rfl ?_
      refine W.y (y_move rfl) rfl ?_
      refine W.y (y_shr uk64 (s := 8) rfl rfl (by omega)) rfl ?_
      refine W.y (Does.as (y_convM uk8 rfl Try.underlying35 Try.underlying5) (vint (b := (c1 : Int)) (by omega))) rfl ?_
      refine W.y (y_move rfl) rfl ?_
      refine W.y (y_shr uk64 (s := 16) rfl rfl (by omega)) rfl ?_
      refine W.y (Does.as (y_convM uk8 rfl Try.underlying35 Try.underlying5) (vint (b := (c0 : Int)) (by omega))) rfl ?_
      refine W.y (y_ixa (i := 2) rfl rfl Try.underlying97 siz5 (by omega)) rfl ?_
      refine W.s (s_store rfl rfl rfl siz5 (Bk.some hdb (by first | omega | (simp only [Array.size_setIfInBounds]; omega))) (Bk.melt hdb)) ?_
      refine W.y (y_ixa (i := 1) rfl rfl Try.underlying97 siz5 (by omega)) rfl ?_
      refine W.s (s_store rfl rfl rfl siz5 (Bk.some (Bk.set hdb _ _) (by first | omega | (simp only [Array.size_setIfInBounds]; omega))) (Bk.melt (Bk.set hdb _ _))) ?_
      refine W.y (y_ixa (i := 0) rfl rfl Try.underlying97 siz5 (by omega)) rfl ?_
      refine W.s (s_store rfl rfl rfl siz5 (Bk.some (Bk.set (Bk.set hdb _ _) _ _) (by first | omega | (simp only [Array.size_setIfInBounds]; omega))) (Bk.melt (Bk.set (Bk.set hdb _ _) _ _))) ?_
      refine W.fin ?_
      refine E.next ?_
      refine C.seq ?_
      refine C.seq ?_
      refine C.reg ?_
      refine W.y (y_move rfl) rfl ?_
      refine W.fin ?_
      refine E.next ?_
      refine C.block ?_
      refine C.seq ?_
      refine C.block ?_
      refine C.seq ?_
      refine C.block ?_
      refine C.seq ?_
      refine C.block ?_
      refine C.seq ?_
      refine C.seq ?_
      refine C.seq ?_
      refine C.reg ?_
      refine W.y (y_eqlT rfl rfl (by omega)) rfl ?_
      refine W.y (y_assign rfl) rfl ?_
      refine W.fin ?_
      refine E.next ?_
      refine C.yes rfl ?_
      refine C.exit ?_
      refine E.thenExit ?_
      refine E.thenExit ?_
      refine E.blockOut ?_
      refine E.next ?_
      refine C.seq ?_
      refine C.reg ?_
      refine W.y (y_move rfl) rfl ?_
      refine W.y (y_ixa (i := 2) rfl rfl Try.underlying97 siz5 (by omega)) rfl ?_
      refine W.y (y_load rfl pl5 (Bk.at_ (v := .int .u8 ((c2 : Nat) : Int)) (Bk.set (Bk.set (Bk.set hdb _ _) _ _) _ _) (by simp [hds]))) rfl ?_
      refine W.y (y_ixn (i := 2) rfl rfl Try.underlying24 siz5 (by omega)) rfl ?_
      refine W.s (s_store rfl rfl rfl siz5 (Bk.some (Bk.ne (Bk.ne (Bk.ne hRm (by simp only; omega) _) (by simp only; omega) _) (by simp only; omega) _) (by first | omega | (simp only [Array.size_setIfInBounds]; omega))) (Bk.frozen (Bk.ne (Bk.ne (Bk.ne hRm (by simp only; omega) _) (by simp only; omega) _) (by simp only; omega) _) (by omega))) ?_
      refine W.fin ?_
      refine E.next ?_
      refine C.reg ?_
      refine W.y (y_ixa (i := 2) rfl rfl Try.underlying97 siz5 (by omega)) rfl ?_
      refine W.s (s_store rfl rfl rfl siz5 (Bk.some (Bk.ne (Bk.set (Bk.set (Bk.set hdb _ _) _ _) _ _) (by simp only; omega) _) (by first | omega | (simp only [Array.size_setIfInBounds]; omega))) (Bk.melt (Bk.ne (Bk.set (Bk.set (Bk.set hdb _ _) _ _) _ _) (by simp only; omega) _))) ?_
      refine W.fin ?_
      refine E.blockNormal ?_
      refine E.next ?_
      refine C.seq ?_
      refine C.reg ?_
      refine W.y (y_move rfl) rfl ?_
      refine W.y (y_ixa (i := 1) rfl rfl Try.underlying97 siz5 (by omega)) rfl ?_
      refine W.y (y_load rfl pl5 (Bk.at_ (v := .int .u8 ((c1 : Nat) : Int)) (Bk.set (Bk.ne (Bk.set (Bk.set (Bk.set hdb _ _) _ _) _ _) (by simp only; omega) _) _ _) (by simp [hds]))) rfl ?_
      refine W.y (y_ixn (i := 1) rfl rfl Try.underlying24 siz5 (by omega)) rfl ?_
      refine W.s (s_store rfl rfl rfl siz5 (Bk.some (Bk.ne (Bk.set (Bk.ne (Bk.ne (Bk.ne hRm (by simp only; omega) _) (by simp only; omega) _) (by simp only; omega) _) _ _) (by simp only; omega) _) (by first | omega | (simp only [Array.size_setIfInBounds]; omega))) (Bk.frozen (Bk.ne (Bk.set (Bk.ne (Bk.ne (Bk.ne hRm (by simp only; omega) _) (by simp only; omega) _) (by simp only; omega) _) _ _) (by simp only; omega) _) (by omega))) ?_
      refine W.fin ?_
      refine E.next ?_
      refine C.seq ?_
      refine C.seq ?_
      refine C.reg ?_
      refine W.y (y_move rfl) rfl ?_
      refine W.y (y_nilp rfl) rfl ?_
      refine W.y (y_field rfl fld85_3) rfl ?_
      refine W.y (y_load rfl pl4 (Bk.at_ (v := .bool true) (Bk.ne (Bk.ne (Bk.ne (Bk.ne (Bk.ne (Bk.ne hEm (by simp only; omega) _) (by simp only; omega) _) (by simp only; omega) _) (by simp only; omega) _) (by simp only; omega) _) (by simp only; omega) _) (by simpa using hst))) rfl ?_
      refine W.y (y_move rfl) rfl ?_
      refine W.gy rfl rfl (y_ixa (i := 2) rfl rfl Try.underlying97 siz5 (by omega)) rfl ?_
      refine W.gy rfl rfl (y_load rfl pl5 (Bk.at_ (v := .int .u8 ((0 : Nat) : Int)) (Bk.ne (Bk.set (Bk.ne (Bk.set (Bk.set (Bk.set hdb _ _) _ _) _ _) (by simp only; omega) _) _ _) (by simp only; omega) _) (by simp [hds]))) rfl ?_
      refine W.gy rfl rfl (y_neqF rfl rfl (by omega)) rfl ?_
      refine W.y (y_pick rfl rfl) rfl ?_
      refine W.fin ?_
      refine E.next ?_
      refine C.no rfl ?_
      refine C.skip ?_
      refine E.next ?_
      refine C.reg ?_
      refine W.y (y_ixa (i := 1) rfl rfl Try.underlying97 siz5 (by omega)) rfl ?_
      refine W.s (s_store rfl rfl rfl siz5 (Bk.some (Bk.ne (Bk.set (Bk.ne (Bk.set (Bk.set (Bk.set hdb _ _) _ _) _ _) (by simp only; omega) _) _ _) (by simp only; omega) _) (by first | omega | (simp only [Array.size_setIfInBounds]; omega))) (Bk.melt (Bk.ne (Bk.set (Bk.ne (Bk.set (Bk.set (Bk.set hdb _ _) _ _) _ _) (by simp only; omega) _) _ _) (by simp only; omega) _))) ?_
      refine W.fin ?_
      refine E.blockNormal ?_
      refine E.next ?_
      refine C.seq ?_
      refine C.seq ?_
      refine C.reg ?_
      refine W.y (y_move rfl) rfl ?_
      refine W.y (y_ixa (i := 0) rfl rfl Try.underlying97 siz5 (by omega)) rfl ?_
      refine W.y (y_load rfl pl5 (Bk.at_ (v := .int .u8 ((c0 : Nat) : Int)) (Bk.set (Bk.ne (Bk.set (Bk.ne (Bk.set (Bk.set (Bk.set hdb _ _) _ _) _ _) (by simp only; omega) _) _ _) (by simp only; omega) _) _ _) (by simp [hds]))) rfl ?_
      refine W.y (y_ixn (i := 0) rfl rfl Try.underlying24 siz5 (by omega)) rfl ?_
      refine W.s (s_store rfl rfl rfl siz5 (Bk.some (Bk.ne (Bk.set (Bk.ne (Bk.set (Bk.ne (Bk.ne (Bk.ne hRm (by simp only; omega) _) (by simp only; omega) _) (by simp only; omega) _) _ _) (by simp only; omega) _) _ _) (by simp only; omega) _) (by first | omega | (simp only [Array.size_setIfInBounds]; omega))) (Bk.frozen (Bk.ne (Bk.set (Bk.ne (Bk.set (Bk.ne (Bk.ne (Bk.ne hRm (by simp only; omega) _) (by simp only; omega) _) (by simp only; omega) _) _ _) (by simp only; omega) _) _ _) (by simp only; omega) _) (by omega))) ?_
      refine W.fin ?_
      refine E.next ?_
      refine C.seq ?_
      refine C.reg ?_
      refine W.y (y_move rfl) rfl ?_
      refine W.y (y_nilp rfl) rfl ?_
      refine W.y (y_field rfl fld85_3) rfl ?_
      refine W.y (y_load rfl pl4 (Bk.at_ (v := .bool true) (Bk.ne (Bk.ne (Bk.ne (Bk.ne (Bk.ne (Bk.ne (Bk.ne (Bk.ne hEm (by simp only; omega) _) (by simp only; omega) _) (by simp only; omega) _) (by simp only; omega) _) (by simp only; omega) _) (by simp only; omega) _) (by simp only; omega) _) (by simp only; omega) _) (by simpa using hst))) rfl ?_
      refine W.y (y_move rfl) rfl ?_
      refine W.gy rfl rfl (y_ixa (i := 1) rfl rfl Try.underlying97 siz5 (by omega)) rfl ?_
      refine W.gy rfl rfl (y_load rfl pl5 (Bk.at_ (v := .int .u8 ((0 : Nat) : Int)) (Bk.ne (Bk.set (Bk.ne (Bk.set (Bk.ne (Bk.set (Bk.set (Bk.set hdb _ _) _ _) _ _) (by simp only; omega) _) _ _) (by simp only; omega) _) _ _) (by simp only; omega) _) (by simp [hds]))) rfl ?_
      refine W.gy rfl rfl (y_neqF rfl rfl (by omega)) rfl ?_
      refine W.gy rfl rfl (y_move rfl) rfl ?_
      refine W.gy rfl rfl (y_ixa (i := 2) rfl rfl Try.underlying97 siz5 (by omega)) rfl ?_
      refine W.gy rfl rfl (y_load rfl pl5 (Bk.at_ (v := .int .u8 ((0 : Nat) : Int)) (Bk.ne (Bk.set (Bk.ne (Bk.set (Bk.ne (Bk.set (Bk.set (Bk.set hdb _ _) _ _) _ _) (by simp only; omega) _) _ _) (by simp only; omega) _) _ _) (by simp only; omega) _) (by simp [hds]))) rfl ?_
      refine W.gy rfl rfl (y_neqF rfl rfl (by omega)) rfl ?_
      refine W.gy rfl rfl (y_pick rfl rfl) rfl ?_
      refine W.y (y_pick rfl rfl) rfl ?_
      refine W.fin ?_
      refine E.next ?_
      refine C.no rfl ?_
      refine C.skip ?_
      refine E.next ?_
      refine C.exit ?_
      refine E.blockOut ?_
      refine E.next ?_
      refine C.seq ?_
      refine C.reg ?_
      refine W.y (y_move rfl) rfl ?_
      refine W.y (y_move rfl) rfl ?_
      refine W.y (Does.as (y_sub rfl rfl (wi64 (by omega) (by omega))) (vint (b := ((3 : Nat) : Int)) (by omega))) rfl ?_
      refine W.y (y_move rfl) rfl ?_
      refine W.y (y_assign rfl) rfl ?_
      refine W.y (y_assign rfl) rfl ?_
      refine W.y (y_assign rfl) rfl ?_
      refine W.fin ?_
      refine E.next ?_
      refine C.ret ?_
      exact E.ret3 rfl rfl rfl rfl ⟨rfl, by rw [hun, ← rev3]; exact (Bk.set (Bk.ne (Bk.set (Bk.ne (Bk.set (Bk.ne (Bk.ne (Bk.ne hRm (by simp only; omega) _) (by simp only; omega) _) (by simp only; omega) _) _ _) (by simp only; omega) _) _ _) (by simp only; omega) _) _ _), (Kp.set (Kp.set (Kp.set (Kp.set (Kp.set (Kp.set (Kp.set (Kp.set hKm (.inr (by simp only; omega)) _) (.inr (by simp only; omega)) _) (.inr (by simp only; omega)) _) (.inl rfl) _) (.inr (by simp only; omega)) _) (.inl rfl) _) (.inr (by simp only; omega)) _) (.inl rfl) _)⟩
  · skip
    obtain ⟨v2, q2⟩ : ∃ v, vs[4 * q + 2]? = some v := ⟨_, List.getElem?_eq_getElem (by omega)⟩
    have t2 := hv v2 (List.mem_of_getElem? q2)
    have hg2 := hdv 2 v2 (by omega) q2
    obtain ⟨v3, hv3⟩ : ∃ v3, v3 = 0 := ⟨_, rfl⟩
    have hg3 : dbs[3]? = some (.int .u8 (v3 : Int)) := by rw [hv3]; exact hd0 3 (by omega) (by omega)
    have t3 : v3 < 64 := by omega
    obtain ⟨c0, hc0⟩ : ∃ c, c = v0 * 2 ^ 2 % 256 + v1 / 2 ^ 4 := ⟨_, rfl⟩
    obtain ⟨c1, hc1⟩ : ∃ c, c = v1 * 2 ^ 4 % 256 + v2 / 2 ^ 2 := ⟨_, rfl⟩
    obtain ⟨c2, hc2⟩ : ∃ c, c = v2 * 2 ^ 6 % 256 + v3 := ⟨_, rfl⟩
    have hdt : (vs.drop (4 * q)).take 4 = [v0, v1, v2] := by
      have h1 := take_more3 (l := vs) (m := 4 * q) q0 q1 q2
      have h2 : (vs.drop (4 * q)).take 4 = (vs.take (4 * q + 3)).drop (4 * q) := by
        rw [List.drop_take, show 4 * q + 3 - 4 * q = 3 by omega]
        rw [List.take_of_length_le (by rw [List.length_drop]; omega), List.take_of_length_le (by rw [List.length_drop]; omega)]
      rw [h2, h1, List.drop_append_of_le_length (by rw [List.length_take]; omega), List.drop_of_length_le (by rw [List.length_take]; omega)]
      rfl
    have hun : bv (Pl.unpack 6 ((vs.drop (4 * q)).take 4)) = [.int .u8 (c0 : Int), .int .u8 (c1 : Int)] := by
      rw [hdt, unpack64_3 t0 t1 t2, bytes_of (by simp; omega)]
      simp only [List.map_cons, List.map_nil, hc0, hc1]
    cases st
    · skip
      refine C.seq ?_
      refine C.reg ?_
      refine W.y (y_ixa (i := 0) rfl rfl Try.underlying97 siz5 (by omega)) rfl ?_
      refine W.y (y_load rfl pl5 (Bk.at_ (v := .int .u8 ((v0 : Nat) : Int)) hdb (by simpa using hg0))) rfl ?_
      refine W.y (y_convN uk64 rfl Try.underlying5 Try.underlying35 (by omega)) rfl ?_
      refine W.y (y_shl uk64 (s := 18) rfl rfl (by omega) (by omega)) rfl ?_
      refine W.y (y_ixa (i := 1) rfl rfl Try.underlying97 siz5 (by omega)) rfl ?_
      refine W.y (y_load rfl pl5 (Bk.at_ (v := .int .u8 ((v1 : Nat) : Int)) hdb (by simpa using hg1))) rfl ?_
      refine W.y (y_convN uk64 rfl Try.underlying5 Try.underlying35 (by omega)) rfl ?_
      refine W.y (y_shl uk64 (s := 12) rfl rfl (by omega) (by omega)) rfl ?_
      refine W.y (y_join uk64 18 rfl rfl (by omega) (by omega) (by omega) (by omega)) rfl ?_
      refine W.y (y_ixa (i := 2) rfl rfl Try.underlying97 siz5 (by omega)) rfl ?_
      refine W.y (y_load rfl pl5 (Bk.at_ (v := .int .u8 ((v2 : Nat) : Int)) hdb (by simpa using hg2))) rfl ?_
      refine W.y (y_convN uk64 rfl Try.underlying5 Try.underlying35 (by omega)) rfl ?_
      refine W.y (y_shl uk64 (s := 6) rfl rfl (by omega) (by omega)) rfl ?_
      refine W.y (y_join uk64 12 rfl rfl (by omega) (by omega) (by omega) (by omega)) rfl ?_
      refine W.y (y_ixa (i := 3) rfl rfl Try.underlying97 siz5 (by omega)) rfl ?_
      refine W.y (y_load rfl pl5 (Bk.at_ (v := .int .u8 ((v3 : Nat) : Int)) hdb (by simpa using hg3))) rfl ?_
      refine W.y (y_convN uk64 rfl Try.underlying5 Try.underlying35 (by omega)) rfl ?_
      refine W.y (y_join uk64 6 rfl rfl (by omega) (by omega) (by omega) (by omega)) rfl ?_
      refine W.y (y_assign rfl) rfl ?_
      refine W.fin ?_
      refine E.next ?_
      refine C.seq ?_
      refine C.reg ?_
      refine W.y (y_move rfl) rfl ?_
      refine W.y (y_shr uk64 (s := 0) rfl rfl (by omega)) rfl ?_
      refine W.y (Does.as (y_convM uk8 rfl Try.underlying35 Try.underlying5) (vint (b := (c2 : Int)) (by omega))) rfl ?_
      refine W.y (y_move rfl) rfl ?_
      refine W.y (y_shr uk64 (s := 8) rfl rfl (by omega)) rfl ?_
      refine W.y (Does.as (y_convM uk8 rfl Try.underlying35 Try.underlying5) (vint (b := (c1 : Int)) (by omega))) rfl ?_
      refine W.y (y_move rfl) rfl ?_
      refine W.y (y_shr uk64 (s := 16) rfl rfl (by omega)) rfl ?_
      refine W.y (Does.as (y_convM uk8 rfl Try.underlying35 Try.underlying5) (vint (b := (c0 : Int)) (by omega))) rfl ?_
      refine W.y (y_ixa (i := 2) rfl rfl Try.underlying97 siz5 (by omega)) rfl ?_
      refine W.s (s_store rfl rfl rfl siz5 (Bk.some hdb (by first | omega | (simp only [Array.size_setIfInBounds]; omega))) (Bk.melt hdb)) ?_
      refine W.y (y_ixa (i := 1) rfl rfl Try.underlying97 siz5 (by omega)) rfl ?_
      refine W.s (s_store rfl rfl rfl siz5 (Bk.some (Bk.set hdb _ _) (by first | omega | (simp only [Array.size_setIfInBounds]; omega))) (Bk.melt (Bk.set hdb _ _))) ?_
      refine W.y (y_ixa (i := 0) rfl rfl Try.underlying97 siz5 (by omega)) rfl ?_
      refine W.s (s_store rfl rfl rfl siz5 (Bk.some (Bk.set (Bk.set hdb _ _) _ _) (by first | omega | (simp only [Array.size_setIfInBounds]; omega))) (Bk.melt (Bk.set (Bk.set hdb _ _) _ _))) ?_
      refine W.fin ?_
      refine E.next ?_
      refine C.seq ?_
      refine C.seq ?_
      refine C.reg ?_
      refine W.y (y_move rfl) rfl ?_
      refine W.fin ?_
      refine E.next ?_
      refine C.block ?_
      refine C.seq ?_
      refine C.block ?_
      refine C.seq ?_
      refine C.block ?_
      refine C.seq ?_
      refine C.block ?_
      refine C.seq ?_
      refine C.seq ?_
      refine C.seq ?_
      refine C.reg ?_
      refine W.y (y_eqlF rfl rfl (by omega)) rfl ?_
      refine W.y (y_assign rfl) rfl ?_
      refine W.fin ?_
      refine E.next ?_
      refine C.no rfl ?_
      refine C.skip ?_
      refine E.next ?_
      refine C.seq ?_
      refine C.seq ?_
      refine C.reg ?_
      refine W.y (y_eqlT rfl rfl (by omega)) rfl ?_
      refine W.y (y_assign rfl) rfl ?_
      refine W.fin ?_
      refine E.next ?_
      refine C.yes rfl ?_
      refine C.exit ?_
      refine E.thenExit ?_
      refine E.thenExit ?_
      refine E.blockFar rfl ?_
      refine E.thenExit ?_
      refine E.blockOut ?_
      refine E.next ?_
      refine C.seq ?_
      refine C.reg ?_
      refine W.y (y_move rfl) rfl ?_
      refine W.y (y_ixa (i := 1) rfl rfl Try.underlying97 siz5 (by omega)) rfl ?_
      refine W.y (y_load rfl pl5 (Bk.at_ (v := .int .u8 ((c1 : Nat) : Int)) (Bk.set (Bk.set (Bk.set hdb _ _) _ _) _ _) (by simp [hds]))) rfl ?_
      refine W.y (y_ixn (i := 1) rfl rfl Try.underlying24 siz5 (by omega)) rfl ?_
      refine W.s (s_store rfl rfl rfl siz5 (Bk.some (Bk.ne (Bk.ne (Bk.ne hRm (by simp only; omega) _) (by simp only; omega) _) (by simp only; omega) _) (by first | omega | (simp only [Array.size_setIfInBounds]; omega))) (Bk.frozen (Bk.ne (Bk.ne (Bk.ne hRm (by simp only; omega) _) (by simp only; omega) _) (by simp only; omega) _) (by omega))) ?_
      refine W.fin ?_
      refine E.next ?_
      refine C.seq ?_
      refine C.seq ?_
      refine C.reg ?_
      refine W.y (y_move rfl) rfl ?_
      refine W.y (y_nilp rfl) rfl ?_
      refine W.y (y_field rfl fld85_3) rfl ?_
      refine W.y (y_load rfl pl4 (Bk.at_ (v := .bool false) (Bk.ne (Bk.ne (Bk.ne (Bk.ne hEm (by simp only; omega) _) (by simp only; omega) _) (by simp only; omega) _) (by simp only; omega) _) (by simpa using hst))) rfl ?_
      refine W.y (y_move rfl) rfl ?_
      refine W.gn rfl rfl rfl ?_
      refine W.gn rfl rfl rfl ?_
      refine W.gn rfl rfl rfl ?_
      refine W.y (y_pick rfl rfl) rfl ?_
      refine W.fin ?_
      refine E.next ?_
      refine C.no rfl ?_
      refine C.skip ?_
      refine E.next ?_
      refine C.reg ?_
      refine W.y (y_ixa (i := 1) rfl rfl Try.underlying97 siz5 (by omega)) rfl ?_
      refine W.s (s_store rfl rfl rfl siz5 (Bk.some (Bk.ne (Bk.set (Bk.set (Bk.set hdb _ _) _ _) _ _) (by simp only; omega) _) (by first | omega | (simp only [Array.size_setIfInBounds]; omega))) (Bk.melt (Bk.ne (Bk.set (Bk.set (Bk.set hdb _ _) _ _) _ _) (by simp only; omega) _))) ?_
      refine W.fin ?_
      refine E.blockNormal ?_
      refine E.next ?_
      refine C.seq ?_
      refine C.seq ?_
      refine C.reg ?_
      refine W.y (y_move rfl) rfl ?_
      refine W.y (y_ixa (i := 0) rfl rfl Try.underlying97 siz5 (by omega)) rfl ?_
      refine W.y (y_load rfl pl5 (Bk.at_ (v := .int .u8 ((c0 : Nat) : Int)) (Bk.set (Bk.ne (Bk.set (Bk.set (Bk.set hdb _ _) _ _) _ _) (by simp only; omega) _) _ _) (by simp [hds]))) rfl ?_
      refine W.y (y_ixn (i := 0) rfl rfl Try.underlying24 siz5 (by omega)) rfl ?_
      refine W.s (s_store rfl rfl rfl siz5 (Bk.some (Bk.ne (Bk.set (Bk.ne (Bk.ne (Bk.ne hRm (by simp only; omega) _) (by simp only; omega) _) (by simp only; omega) _) _ _) (by simp only; omega) _) (by first | omega | (simp only [Array.size_setIfInBounds]; omega))) (Bk.frozen (Bk.ne (Bk.set (Bk.ne (Bk.ne (Bk.ne hRm (by simp only; omega) _) (by simp only; omega) _) (by simp only; omega) _) _ _) (by simp only; omega) _) (by omega))) ?_
      refine W.fin ?_
      refine E.next ?_
      refine C.seq ?_
      refine C.reg ?_
      refine W.y (y_move rfl) rfl ?_
      refine W.y (y_nilp rfl) rfl ?_
      refine W.y (y_field rfl fld85_3) rfl ?_
      refine W.y (y_load rfl pl4 (Bk.at_ (v := .bool false) (Bk.ne (Bk.ne (Bk.ne (Bk.ne (Bk.ne (Bk.ne hEm (by simp only; omega) _) (by simp only; omega) _) (by simp only; omega) _) (by simp only; omega) _) (by simp only; omega) _) (by simp only; omega) _) (by simpa using hst))) rfl ?_
      refine W.y (y_move rfl) rfl ?_
      refine W.gn rfl rfl rfl ?_
      refine W.gn rfl rfl rfl ?_
      refine W.gn rfl rfl rfl ?_
      refine W.gn rfl rfl rfl ?_
      refine W.gu rfl rfl rfl ?_
      refine W.gu rfl rfl rfl ?_
      refine W.gu rfl rfl rfl ?_
      refine W.gn rfl rfl rfl ?_
      refine W.y (y_pick rfl rfl) rfl ?_
      refine W.fin ?_
      refine E.next ?_
      refine C.no rfl ?_
      refine C.skip ?_
      refine E.next ?_
      refine C.exit ?_
      refine E.blockOut ?_
      refine E.next ?_
      refine C.seq ?_
      refine C.reg ?_
      refine W.y (y_move rfl) rfl ?_
      refine W.y (y_move rfl) rfl ?_
      refine W.y (Does.as (y_sub rfl rfl (wi64 (by omega) (by omega))) (vint (b := ((2 : Nat) : Int)) (by omega))) rfl ?_
      refine W.y (y_move rfl) rfl ?_
      refine W.y (y_assign rfl) rfl ?_
      refine W.y (y_assign rfl) rfl ?_
      refine W.y (y_assign rfl) rfl ?_
      refine W.fin ?_
      refine E.next ?_
      refine C.ret ?_
      exact E.ret3 rfl rfl rfl rfl ⟨rfl, by rw [hun, ← rev2]; exact (Bk.set (Bk.ne (Bk.set (Bk.ne (Bk.ne (Bk.ne hRm (by simp only; omega) _) (by simp only; omega) _) (by simp only; omega) _) _ _) (by simp only; omega) _) _ _), (Kp.set (Kp.set (Kp.set (Kp.set (Kp.set (Kp.set hKm (.inr (by simp only; omega)) _) (.inr (by simp only; omega)) _) (.inr (by simp only; omega)) _) (.inl rfl) _) (.inr (by simp only; omega)) _) (.inl rfl) _)⟩
    · skip
      have hs3 : v2 % 4 = 0 := by
        obtain ⟨s, rfl⟩ := hzs rfl
        exact strict3 (by omega) q2
      have hc20 : c2 = 0 := by omega
      refine C.seq ?_
      refine C.reg ?_
      refine W.y (y_ixa (i := 0) rfl rfl Try.underlying97 siz5 (by omega)) rfl ?_
      refine W.y (y_load rfl pl5 (Bk.at_ (v := .int .u8 ((v0 : Nat) : Int)) hdb (by simpa using hg0))) rfl ?_
      refine W.y (y_convN uk64 rfl Try.underlying5 Try.underlying35 (by omega)) rfl ?_
      refine W.y (y_shl uk64 (s := 18) rfl rfl (by omega) (by omega)) rfl ?_
      refine W.y (y_ixa (i := 1) rfl rfl Try.underlying97 siz5 (by omega)) rfl ?_
      refine W.y (y_load rfl pl5 (Bk.at_ (v := .int .u8 ((v1 : Nat) : Int)) hdb (by simpa using hg1))) rfl ?_
      refine W.y (y_convN uk64 rfl Try.underlying5 Try.underlying35 (by omega)) rfl ?_
      refine W.y (y_shl uk64 (s := 12) rfl rfl (by omega) (by omega)) rfl ?_
      refine W.y (y_join uk64 18 rfl rfl (by omega) (by omega) (by omega) (by omega)) rfl ?_
      refine W.y (y_ixa (i := 2) rfl rfl Try.underlying97 siz5 (by omega)) rfl ?_
      refine W.y (y_load rfl pl5 (Bk.at_ (v := .int .u8 ((v2 : Nat) : Int)) hdb (by simpa using hg2))) rfl ?_
      refine W.y (y_convN uk64 rfl Try.underlying5 Try.underlying35 (by omega)) rfl ?_
      refine W.y (y_shl uk64 (s := 6) rfl rfl (by omega) (by omega)) rfl ?_
      refine W.y (y_join uk64 12 rfl rfl (by omega) (by omega) (by omega) (by omega)) rfl ?_
      refine W.y (y_ixa (i := 3) rfl rfl Try.underlying97 siz5 (by omega)) rfl ?_
      refine W.y (y_load rfl pl5 (Bk.at_ (v := .int .u8 ((v3 : Nat) : Int)) hdb (by simpa using hg3))) rfl ?_
      refine W.y (y_convN uk64 rfl Try.underlying5 Try.underlying35 (by omega)) rfl ?_
      refine W.y (y_join uk64 6 rfl rfl (by omega) (by omega) (by omega) (by omega)) rfl ?_
      refine W.y (y_assign rfl) rfl ?_
      refine W.fin ?_
      refine E.next ?_
      refine C.seq ?_
      refine C.reg ?_
      refine W.y (y_move rfl) rfl ?_
      refine W.y (y_shr uk64 (s := 0) rfl rfl (by omega)) rfl ?_
      refine W.y (Does.as (y_convM uk8 rfl Try.underlying35 Try.underlying5) (vint (b := (c2 : Int)) (by omega))) rfl ?_
      refine W.y (y_move rfl) rfl ?_
      refine W.y (y_shr uk64 (s := 8) rfl rfl (by omega)) rfl ?_
      refine W.y (Does.as (y_convM uk8 rfl Try.underlying35 Try.underlying5) (vint (b := (c1 : Int)) (by omega))) rfl ?_
      refine W.y (y_move rfl) rfl ?_
      refine W.y (y_shr uk64 (s := 16) rfl rfl (by omega)) rfl ?_
      refine W.y (Does.as (y_convM uk8 rfl Try.underlying35 Try.underlying5) (vint (b := (c0 : Int)) (by omega))) rfl ?_
      refine W.y (y_ixa (i := 2) rfl rfl Try.underlying97 siz5 (by omega)) rfl ?_
      refine W.s (s_store rfl rfl rfl siz5 (Bk.some hdb (by first | omega | (simp only [Array.size_setIfInBounds]; omega))) (Bk.melt hdb)) ?_
      refine W.y (y_ixa (i := 1) rfl rfl Try.underlying97 siz5 (by omega)) rfl ?_
      refine W.s (s_store rfl rfl rfl siz5 (Bk.some (Bk.set hdb _ _) (by first | omega | (simp only [Array.size_setIfInBounds]; omega))) (Bk.melt (Bk.set hdb _ _))) ?_
      refine W.y (y_ixa (i := 0) rfl rfl Try.underlying97 siz5 (by omega)) rfl ?_
      refine W.s (s_store rfl rfl rfl siz5 (Bk.some (Bk.set (Bk.set hdb _ _) _ _) (by first | omega | (simp only [Array.size_setIfInBounds]; omega))) (Bk.melt (Bk.set (Bk.set hdb _ _) _ _))) ?_
      refine W.fin ?_
      refine E.next ?_
      refine C.seq ?_
      refine C.seq ?_
      refine C.reg ?_
      refine W.y (y_move rfl) rfl ?_
      refine W.fin ?_
      refine E.next ?_
      refine C.block ?_
      refine C.seq ?_
      refine C.block ?_
      refine C.seq ?_
      refine C.block ?_
      refine C.seq ?_
      refine C.block ?_
      refine C.seq ?_
      refine C.seq ?_
      refine C.seq ?_
      refine C.reg ?_
      refine W.y (y_eqlF rfl rfl (by omega)) rfl ?_
      refine W.y (y_assign rfl) rfl ?_
      refine W.fin ?_
      refine E.next ?_
      refine C.no rfl ?_
      refine C.skip ?_
      refine E.next ?_
      refine C.seq ?_
      refine C.seq ?_
      refine C.reg ?_
      refine W.y (y_eqlT rfl rfl (by omega)) rfl ?_
      refine W.y (y_assign rfl) rfl ?_
      refine W.fin ?_
      refine E.next ?_
      refine C.yes rfl ?_
      refine C.exit ?_
      refine E.thenExit ?_
      refine E.thenExit ?_
      refine E.blockFar rfl ?_
      refine E.thenExit ?_
      refine E.blockOut ?_
      refine E.next ?_
      refine C.seq ?_
      refine C.reg ?_
      refine W.y (y_move rfl) rfl ?_
      refine W.y (y_ixa (i := 1) rfl rfl Try.underlying97 siz5 (by omega)) rfl ?_
      refine W.y (y_load rfl pl5 (Bk.at_ (v := .int .u8 ((c1 : Nat) : Int)) (Bk.set (Bk.set (Bk.set hdb _ _) _ _) _ _) (by simp [hds]))) rfl ?_
      refine W.y (y_ixn (i := 1) rfl rfl Try.underlying24 siz5 (by omega)) rfl ?_
      refine W.s (s_store rfl rfl rfl siz5 (Bk.some (Bk.ne (Bk.ne (Bk.ne hRm (by simp only; omega) _) (by simp only; omega) _) (by simp only; omega) _) (by first | omega | (simp only [Array.size_setIfInBounds]; omega))) (Bk.frozen (Bk.ne (Bk.ne (Bk.ne hRm (by simp only; omega) _) (by simp only; omega) _) (by simp only; omega) _) (by omega))) ?_
      refine W.fin ?_
      refine E.next ?_
      refine C.seq ?_
      refine C.seq ?_
      refine C.reg ?_
      refine W.y (y_move rfl) rfl ?_
      refine W.y (y_nilp rfl) rfl ?_
      refine W.y (y_field rfl fld85_3) rfl ?_
      refine W.y (y_load rfl pl4 (Bk.at_ (v := .bool true) (Bk.ne (Bk.ne (Bk.ne (Bk.ne hEm (by simp only; omega) _) (by simp only; omega) _) (by simp only; omega) _) (by simp only; omega) _) (by simpa using hst))) rfl ?_
      refine W.y (y_move rfl) rfl ?_
      refine W.gy rfl rfl (y_ixa (i := 2) rfl rfl Try.underlying97 siz5 (by omega)) rfl ?_
      refine W.gy rfl rfl (y_load rfl pl5 (Bk.at_ (v := .int .u8 ((c2 : Nat) : Int)) (Bk.ne (Bk.set (Bk.set (Bk.set hdb _ _) _ _) _ _) (by simp only; omega) _) (by simp [hds]))) rfl ?_
      refine W.gy rfl rfl (y_neqF rfl rfl (by omega)) rfl ?_
      refine W.y (y_pick rfl rfl) rfl ?_
      refine W.fin ?_
      refine E.next ?_
      refine C.no rfl ?_
      refine C.skip ?_
      refine E.next ?_
      refine C.reg ?_
      refine W.y (y_ixa (i := 1) rfl rfl Try.underlying97 siz5 (by omega)) rfl ?_
      refine W.s (s_store rfl rfl rfl siz5 (Bk.some (Bk.ne (Bk.set (Bk.set (Bk.set hdb _ _) _ _) _ _) (by simp only; omega) _) (by first | omega | (simp only [Array.size_setIfInBounds]; omega))) (Bk.melt (Bk.ne (Bk.set (Bk.set (Bk.set hdb _ _) _ _) _ _) (by simp only; omega) _))) ?_
      refine W.fin ?_
      refine E.blockNormal ?_
      refine E.next ?_
      refine C.seq ?_
      refine C.seq ?_
      refine C.reg ?_
      refine W.y (y_move rfl) rfl ?_
      refine W.y (y_ixa (i := 0) rfl rfl Try.underlying97 siz5 (by omega)) rfl ?_
      refine W.y (y_load rfl pl5 (Bk.at_ (v := .int .u8 ((c0 : Nat) : Int)) (Bk.set (Bk.ne (Bk.set (Bk.set (Bk.set hdb _ _) _ _) _ _) (by simp only; omega) _) _ _) (by simp [hds]))) rfl ?_
      refine W.y (y_ixn (i := 0) rfl rfl Try.underlying24 siz5 (by omega)) rfl ?_
      refine W.s (s_store rfl rfl rfl siz5 (Bk.some (Bk.ne (Bk.set (Bk.ne (Bk.ne (Bk.ne hRm (by simp only; omega) _) (by simp only; omega) _) (by simp only; omega) _) _ _) (by simp only; omega) _) (by first | omega | (simp only [Array.size_setIfInBounds]; omega))) (Bk.frozen (Bk.ne (Bk.set (Bk.ne (Bk.ne (Bk.ne hRm (by simp only; omega) _) (by simp only; omega) _) (by simp only; omega) _) _ _) (by simp only; omega) _) (by omega))) ?_
      refine W.fin ?_
      refine E.next ?_
      refine C.seq ?_
      refine C.reg ?_
      refine W.y (y_move rfl) rfl ?_
      refine W.y (y_nilp rfl) rfl ?_
      refine W.y (y_field rfl fld85_3) rfl ?_
      refine W.y (y_load rfl pl4 (Bk.at_ (v := .bool true) (Bk.ne (Bk.ne (Bk.ne (Bk.ne (Bk.ne (Bk.ne hEm (by simp only; omega) _) (by simp only; omega) _) (by simp only; omega) _) (by simp only; omega) _) (by simp only; omega) _) (by simp only; omega) _) (by simpa using hst))) rfl ?_
      refine W.y (y_move rfl) rfl ?_
      refine W.gy rfl rfl (y_ixa (i := 1) rfl rfl Try.underlying97 siz5 (by omega)) rfl ?_
      refine W.gy rfl rfl (y_load rfl pl5 (Bk.at_ (v := .int .u8 ((0 : Nat) : Int)) (Bk.ne (Bk.set (Bk.ne (Bk.set (Bk.set (Bk.set hdb _ _) _ _) _ _) (by simp only; omega) _) _ _) (by simp only; omega) _) (by simp [hds]))) rfl ?_
      refine W.gy rfl rfl (y_neqF rfl rfl (by omega)) rfl ?_
      refine W.gy rfl rfl (y_move rfl) rfl ?_
      refine W.gy rfl rfl (y_ixa (i := 2) rfl rfl Try.underlying97 siz5 (by omega)) rfl ?_
      refine W.gy rfl rfl (y_load rfl pl5 (Bk.at_ (v := .int .u8 ((c2 : Nat) : Int)) (Bk.ne (Bk.set (Bk.ne (Bk.set (Bk.set (Bk.set hdb _ _) _ _) _ _) (by simp only; omega) _) _ _) (by simp only; omega) _) (by simp [hds]))) rfl ?_
      refine W.gy rfl rfl (y_neqF rfl rfl (by omega)) rfl ?_
      refine W.gy rfl rfl (y_pick rfl rfl) rfl ?_
      refine W.y (y_pick rfl rfl) rfl ?_
      refine W.fin ?_
      refine E.next ?_
      refine C.no rfl ?_
      refine C.skip ?_
      refine E.next ?_
      refine C.exit ?_
      refine E.blockOut ?_
      refine E.next ?_
      refine C.seq ?_
      refine C.reg ?_
      refine W.y (y_move rfl) rfl ?_
      refine W.y (y_move rfl) rfl ?_
      refine W.y (Does.as (y_sub rfl rfl (wi64 (by omega) (by omega))) (vint (b := ((2 : Nat) : Int)) (by omega))) rfl ?_
      refine W.y (y_move rfl) rfl ?_
      refine W.y (y_assign rfl) rfl ?_
      refine W.y (y_assign rfl) rfl ?_
      refine W.y (y_assign rfl) rfl ?_
      refine W.fin ?_
      refine E.next ?_
      refine C.ret ?_
      exact E.ret3 rfl rfl rfl rfl ⟨rfl, by rw [hun, ← rev2]; exact (Bk.set (Bk.ne (Bk.set (Bk.ne (Bk.ne (Bk.ne hRm (by simp only; omega) _) (by simp only; omega) _) (by simp only; omega) _) _ _) (by simp only; omega) _) _ _), (Kp.set (Kp.set (Kp.set (Kp.set (Kp.set (Kp.set hKm (.inr (by simp only; omega)) _) (.inr (by simp only; omega)) _) (.inr (by simp only; omega)) _) (.inl rfl) _) (.inr (by simp only; omega)) _) (.inl rfl) _)⟩
  · skip
    obtain ⟨v2, hv2⟩ : ∃ v2, v2 = 0 := ⟨_, rfl⟩
    have hg2 : dbs[2]? = some (.int .u8 (v2 : Int)) := by rw [hv2]; exact hd0 2 (by omega) (by omega)
    have t2 : v2 < 64 := by omega
    obtain ⟨v3, hv3⟩ : ∃ v3, v3 = 0 := ⟨_, rfl⟩
    have hg3 : dbs[3]? = some (.int .u8 (v3 : Int)) := by rw [hv3]; exact hd0 3 (by omega) (by omega)
    have t3 : v3 < 64 := by omega
    obtain ⟨c0, hc0⟩ : ∃ c, c = v0 * 2 ^ 2 % 256 + v1 / 2 ^ 4 := ⟨_, rfl⟩
    obtain ⟨c1, hc1⟩ : ∃ c, c = v1 * 2 ^ 4 % 256 + v2 / 2 ^ 2 := ⟨_, rfl⟩
    obtain ⟨c2, hc2⟩ : ∃ c, c = v2 * 2 ^ 6 % 256 + v3 := ⟨_, rfl⟩
    have hdt : (vs.drop (4 * q)).take 4 = [v0, v1] := by
      have h1 := take_more2 (l := vs) (m := 4 * q) q0 q1
      have h2 : (vs.drop (4 * q)).take 4 = (vs.take (4 * q + 2)).drop (4 * q) := by
        rw [List.drop_take, show 4 * q + 2 - 4 * q = 2 by omega]
        rw [List.take_of_length_le (by rw [List.length_drop]; omega), List.take_of_length_le (by rw [List.length_drop]; omega)]
      rw [h2, h1, List.drop_append_of_le_length (by rw [List.length_take]; omega), List.drop_of_length_le (by rw [List.length_take]; omega)]
      rfl
    have hun : bv (Pl.unpack 6 ((vs.drop (4 * q)).take 4)) = [.int .u8 (c0 : Int)] := by
      rw [hdt, unpack64_2 t0 t1, bytes_of (by simp; omega)]
      simp only [List.map_cons, List.map_nil, hc0]
    cases st
    · skip
      refine C.seq ?_
      refine C.reg ?_
      refine W.y (y_ixa (i := 0) rfl rfl Try.underlying97 siz5 (by omega)) rfl ?_
      refine W.y (y_load rfl pl5 (Bk.at_ (v := .int .u8 ((v0 : Nat) : Int)) hdb (by simpa using hg0))) rfl ?_
      refine W.y (y_convN uk64 rfl Try.underlying5 Try.underlying35 (by omega)) rfl ?_
      refine W.y (y_shl uk64 (s := 18) rfl rfl (by omega) (by omega)) rfl ?_
      refine W.y (y_ixa (i := 1) rfl rfl Try.underlying97 siz5 (by omega)) rfl ?_
      refine W.y (y_load rfl pl5 (Bk.at_ (v := .int .u8 ((v1 : Nat) : Int)) hdb (by simpa using hg1))) rfl ?_
      refine W.y (y_convN uk64 rfl Try.underlying5 Try.underlying35 (by omega)) rfl ?_
      refine W.y (y_shl uk64 (s := 12) rfl rfl (by omega) (by omega)) rfl ?_
      refine W.y (y_join uk64 18 rfl rfl (by omega) (by omega) (by omega) (by omega)) rfl ?_
      refine W.y (y_ixa (i := 2) rfl rfl Try.underlying97 siz5 (by omega)) rfl ?_
      refine W.y (y_load rfl pl5 (Bk.at_ (v := .int .u8 ((v2 : Nat) : Int)) hdb (by simpa using hg2))) rfl ?_
      refine W.y (y_convN uk64 rfl Try.underlying5 Try.underlying35 (by omega)) rfl ?_
      refine W.y (y_shl uk64 (s := 6) rfl rfl (by omega) (by omega)) rfl ?_
      refine W.y (y_join uk64 12 rfl rfl (by omega) (by omega) (by omega) (by omega)) rfl ?_
      refine W.y (y_ixa (i := 3) rfl rfl Try.underlying97 siz5 (by omega)) rfl ?_
      refine W.y (y_load rfl pl5 (Bk.at_ (v := .int .u8 ((v3 : Nat) : Int)) hdb (by simpa using hg3))) rfl ?_
      refine W.y (y_convN uk64 rfl Try.underlying5 Try.underlying35 (by omega)) rfl ?_
      refine W.y (y_join uk64 6 rfl rfl (by omega) (by omega) (by omega) (by omega)) rfl ?_
      refine W.y (y_assign rfl) rfl ?_
      refine W.fin ?_
      refine E.next ?_
      refine C.seq ?_
      refine C.reg ?_
      refine W.y (y_move rfl) rfl ?_
      refine W.y (y_shr uk64 (s := 0) rfl rfl (by omega)) rfl ?_
      refine W.y (Does.as (y_convM uk8 rfl Try.underlying35 Try.underlying5) (vint (b := (c2 : Int)) (by omega))) rfl ?_
      refine W.y (y_move rfl) rfl ?_
      refine W.y (y_shr uk64 (s := 8) rfl rfl (by omega)) rfl ?_
      refine W.y (Does.as (y_convM uk8 rfl Try.underlying35 Try.underlying5) (vint (b := (c1 : Int)) (by omega))) rfl ?_
      refine W.y (y_move rfl) rfl ?_
      refine W.y (y_shr uk64 (s := 16) rfl rfl (by omega)) rfl ?_
      refine W.y (Does.as (y_convM uk8 rfl Try.underlying35 Try.underlying5) (vint (b := (c0 : Int)) (by omega))) rfl ?_
      refine W.y (y_ixa (i := 2) rfl rfl Try.underlying97 siz5 (by omega)) rfl ?_
      refine W.s (s_store rfl rfl rfl siz5 (Bk.some hdb (by first | omega | (simp only [Array.size_setIfInBounds]; omega))) (Bk.melt hdb)) ?_
      refine W.y (y_ixa (i := 1) rfl rfl Try.underlying97 siz5 (by omega)) rfl ?_
      refine W.s (s_store rfl rfl rfl siz5 (Bk.some (Bk.set hdb _ _) (by first | omega | (simp only [Array.size_setIfInBounds]; omega))) (Bk.melt (Bk.set hdb _ _))) ?_
      refine W.y (y_ixa (i := 0) rfl rfl Try.underlying97 siz5 (by omega)) rfl ?_
      refine W.s (s_store rfl rfl rfl siz5 (Bk.some (Bk.set (Bk.set hdb _ _) _ _) (by first | omega | (simp only [Array.size_setIfInBounds]; omega))) (Bk.melt (Bk.set (Bk.set hdb _ _) _ _))) ?_
      refine W.fin ?_
      refine E.next ?_
      refine C.seq ?_
      refine C.seq ?_
      refine C.reg ?_
      refine W.y (y_move rfl) rfl ?_
      refine W.fin ?_
      refine E.next ?_
      refine C.block ?_
      refine C.seq ?_
      refine C.block ?_
      refine C.seq ?_
      refine C.block ?_
      refine C.seq ?_
      refine C.block ?_
      refine C.seq ?_
      refine C.seq ?_
      refine C.seq ?_
      refine C.reg ?_
      refine W.y (y_eqlF rfl rfl (by omega)) rfl ?_
      refine W.y (y_assign rfl) rfl ?_
      refine W.fin ?_
      refine E.next ?_
      refine C.no rfl ?_
      refine C.skip ?_
      refine E.next ?_
      refine C.seq ?_
      refine C.seq ?_
      refine C.reg ?_
      refine W.y (y_eqlF rfl rfl (by omega)) rfl ?_
      refine W.y (y_assign rfl) rfl ?_
      refine W.fin ?_
      refine E.next ?_
      refine C.no rfl ?_
      refine C.skip ?_
      refine E.next ?_
      refine C.seq ?_
      refine C.reg ?_
      refine W.y (y_eqlT rfl rfl (by omega)) rfl ?_
      refine W.y (y_assign rfl) rfl ?_
      refine W.fin ?_
      refine E.next ?_
      refine C.yes rfl ?_
      refine C.exit ?_
      refine E.thenExit ?_
      refine E.blockFar rfl ?_
      refine E.thenExit ?_
      refine E.blockFar rfl ?_
      refine E.thenExit ?_
      refine E.blockOut ?_
      refine E.next ?_
      refine C.seq ?_
      refine C.seq ?_
      refine C.reg ?_
      refine W.y (y_move rfl) rfl ?_
      refine W.y (y_ixa (i := 0) rfl rfl Try.underlying97 siz5 (by omega)) rfl ?_
      refine W.y (y_load rfl pl5 (Bk.at_ (v := .int .u8 ((c0 : Nat) : Int)) (Bk.set (Bk.set (Bk.set hdb _ _) _ _) _ _) (by simp [hds]))) rfl ?_
      refine W.y (y_ixn (i := 0) rfl rfl Try.underlying24 siz5 (by omega)) rfl ?_
      refine W.s (s_store rfl rfl rfl siz5 (Bk.some (Bk.ne (Bk.ne (Bk.ne hRm (by simp only; omega) _) (by simp only; omega) _) (by simp only; omega) _) (by first | omega | (simp only [Array.size_setIfInBounds]; omega))) (Bk.frozen (Bk.ne (Bk.ne (Bk.ne hRm (by simp only; omega) _) (by simp only; omega) _) (by simp only; omega) _) (by omega))) ?_
      refine W.fin ?_
      refine E.next ?_
      refine C.seq ?_
      refine C.reg ?_
      refine W.y (y_move rfl) rfl ?_
      refine W.y (y_nilp rfl) rfl ?_
      refine W.y (y_field rfl fld85_3) rfl ?_
      refine W.y (y_load rfl pl4 (Bk.at_ (v := .bool false) (Bk.ne (Bk.ne (Bk.ne (Bk.ne hEm (by simp only; omega) _) (by simp only; omega) _) (by simp only; omega) _) (by simp only; omega) _) (by simpa using hst))) rfl ?_
      refine W.y (y_move rfl) rfl ?_
      refine W.gn rfl rfl rfl ?_
      refine W.gn rfl rfl rfl ?_
      refine W.gn rfl rfl rfl ?_
      refine W.gn rfl rfl rfl ?_
      refine W.gu rfl rfl rfl ?_
      refine W.gu rfl rfl rfl ?_
      refine W.gu rfl rfl rfl ?_
      refine W.gn rfl rfl rfl ?_
      refine W.y (y_pick rfl rfl) rfl ?_
      refine W.fin ?_
      refine E.next ?_
      refine C.no rfl ?_
      refine C.skip ?_
      refine E.next ?_
      refine C.exit ?_
      refine E.blockOut ?_
      refine E.next ?_
      refine C.seq ?_
      refine C.reg ?_
      refine W.y (y_move rfl) rfl ?_
      refine W.y (y_move rfl) rfl ?_
      refine W.y (Does.as (y_sub rfl rfl (wi64 (by omega) (by omega))) (vint (b := ((1 : Nat) : Int)) (by omega))) rfl ?_
      refine W.y (y_move rfl) rfl ?_
      refine W.y (y_assign rfl) rfl ?_
      refine W.y (y_assign rfl) rfl ?_
      refine W.y (y_assign rfl) rfl ?_
      refine W.fin ?_
      refine E.next ?_
      refine C.ret ?_
      exact E.ret3 rfl rfl rfl rfl ⟨rfl, by rw [hun, ← rev1]; exact (Bk.set (Bk.ne (Bk.ne (Bk.ne hRm (by simp only; omega) _) (by simp only; omega) _) (by simp only; omega) _) _ _), (Kp.set (Kp.set (Kp.set (Kp.set hKm (.inr (by simp only; omega)) _) (.inr (by simp only; omega)) _) (.inr (by simp only; omega)) _) (.inl rfl) _)⟩
    · skip
      have hs2 : v1 % 16 = 0 := by
        obtain ⟨s, rfl⟩ := hzs rfl
        exact strict2 (by omega) q1
      have hc10 : c1 = 0 := by omega
      have hc20 : c2 = 0 := by omega
      refine C.seq ?_
      refine C.reg ?_
      refine W.y (y_ixa (i := 0) rfl rfl Try.underlying97 siz5 (by omega)) rfl ?_
      refine W.y (y_load rfl pl5 (Bk.at_ (v := .int .u8 ((v0 : Nat) : Int)) hdb (by simpa using hg0))) rfl ?_
      refine W.y (y_convN uk64 rfl Try.underlying5 Try.underlying35 (by omega)) rfl ?_
      refine W.y (y_shl uk64 (s := 18) rfl rfl (by omega) (by omega)) rfl ?_
      refine W.y (y_ixa (i := 1) rfl rfl Try.underlying97 siz5 (by omega)) rfl ?_
      refine W.y (y_load rfl pl5 (Bk.at_ (v := .int .u8 ((v1 : Nat) : Int)) hdb (by simpa using hg1))) rfl ?_
      refine W.y (y_convN uk64 rfl Try.underlying5 Try.underlying35 (by omega)) rfl ?_
      refine W.y (y_shl uk64 (s := 12) rfl rfl (by omega) (by omega)) rfl ?_
      refine W.y (y_join uk64 18 rfl rfl (by omega) (by omega) (by omega) (by omega)) rfl ?_
      refine W.y (y_ixa (i := 2) rfl rfl Try.underlying97 siz5 (by omega)) rfl ?_
      refine W.y (y_load rfl pl5 (Bk.at_ (v := .int .u8 ((v2 : Nat) : Int)) hdb (by simpa using hg2))) rfl ?_
      refine W.y (y_convN uk64 rfl Try.underlying5 Try.underlying35 (by omega)) rfl ?_
      refine W.y (y_shl uk64 (s := 6) rfl rfl (by omega) (by omega)) rfl ?_
      refine W.y (y_join uk64 12 rfl rfl (by omega) (by omega) (by omega) (by omega)) rfl ?_
      refine W.y (y_ixa (i := 3) rfl rfl Try.underlying97 siz5 (by omega)) rfl ?_
      refine W.y (y_load rfl pl5 (Bk.at_ (v := .int .u8 ((v3 : Nat) : Int)) hdb (by simpa using hg3))) rfl ?_
      refine W.y (y_convN uk64 rfl Try.underlying5 Try.underlying35 (by omega)) rfl ?_
      refine W.y (y_join uk64 6 rfl rfl (by omega) (by omega) (by omega) (by omega)) rfl ?_
      refine W.y (y_assign rfl) rfl ?_
      refine W.fin ?_
      refine E.next ?_
      refine C.seq ?_
      refine C.reg ?_
      refine W.y (y_move rfl) rfl ?_
      refine W.y (y_shr uk64 (s := 0) rfl rfl (by omega)) rfl ?_
      refine W.y (Does.as (y_convM uk8 rfl Try.underlying35 Try.underlying5) (vint (b := (c2 : Int)) (by omega))) rfl ?_
      refine W.y (y_move rfl) rfl ?_
      refine W.y (y_shr uk64 (s := 8) rfl rfl (by omega)) rfl ?_
      refine W.y (Does.as (y_convM uk8 rfl Try.underlying35 Try.underlying5) (vint (b := (c1 : Int)) (by omega))) rfl ?_
      refine W.y (y_move rfl) rfl ?_
      refine W.y (y_shr uk64 (s := 16) rfl rfl (by omega)) rfl ?_
      refine W.y (Does.as (y_convM uk8 rfl Try.underlying35 Try.underlying5) (vint (b := (c0 : Int)) (by omega))) rfl ?_
      refine W.y (y_ixa (i := 2) rfl rfl Try.underlying97 siz5 (by omega)) rfl ?_
      refine W.s (s_store rfl rfl rfl siz5 (Bk.some hdb (by first | omega | (simp only [Array.size_setIfInBounds]; omega))) (Bk.melt hdb)) ?_
      refine W.y (y_ixa (i := 1) rfl rfl Try.underlying97 siz5 (by omega)) rfl ?_
      refine W.s (s_store rfl rfl rfl siz5 (Bk.some (Bk.set hdb _ _) (by first | omega | (simp only [Array.size_setIfInBounds]; omega))) (Bk.melt (Bk.set hdb _ _))) ?_
      refine W.y (y_ixa (i := 0) rfl rfl Try.underlying97 siz5 (by omega)) rfl ?_
      refine W.s (s_store rfl rfl rfl siz5 (Bk.some (Bk.set (Bk.set hdb _ _) _ _) (by first | omega | (simp only [Array.size_setIfInBounds]; omega))) (Bk.melt (Bk.set (Bk.set hdb _ _) _ _))) ?_
      refine W.fin ?_
      refine E.next ?_
      refine C.seq ?_
      refine C.seq ?_
      refine C.reg ?_
      refine W.y (y_move rfl) rfl ?_
      refine W.fin ?_
      refine E.next ?_
      refine C.block ?_
      refine C.seq ?_
      refine C.block ?_
      refine C.seq ?_
      refine C.block ?_
      refine C.seq ?_
      refine C.block ?_
      refine C.seq ?_
      refine C.seq ?_
      refine C.seq ?_
      refine C.reg ?_
      refine W.y (y_eqlF rfl rfl (by omega)) rfl ?_
      refine W.y (y_assign rfl) rfl ?_
      refine W.fin ?_
      refine E.next ?_
      refine C.no rfl ?_
      refine C.skip ?_
      refine E.next ?_
      refine C.seq ?_
      refine C.seq ?_
      refine C.reg ?_
      refine W.y (y_eqlF rfl rfl (by omega)) rfl ?_
      refine W.y (y_assign rfl) rfl ?_
      refine W.fin ?_
      refine E.next ?_
      refine C.no rfl ?_
      refine C.skip ?_
      refine E.next ?_
      refine C.seq ?_
      refine C.reg ?_
      refine W.y (y_eqlT rfl rfl (by omega)) rfl ?_
      refine W.y (y_assign rfl) rfl ?_
      refine W.fin ?_
      refine E.next ?_
      refine C.yes rfl ?_
      refine C.exit ?_
      refine E.thenExit ?_
      refine E.blockFar rfl ?_
      refine E.thenExit ?_
      refine E.blockFar rfl ?_
      refine E.thenExit ?_
      refine E.blockOut ?_
      refine E.next ?_
      refine C.seq ?_
      refine C.seq ?_
      refine C.reg ?_
      refine W.y (y_move rfl) rfl ?_
      refine W.y (y_ixa (i := 0) rfl rfl Try.underlying97 siz5 (by omega)) rfl ?_
      refine W.y (y_load rfl pl5 (Bk.at_ (v := .int .u8 ((c0 : Nat) : Int)) (Bk.set (Bk.set (Bk.set hdb _ _) _ _) _ _) (by simp [hds]))) rfl ?_
      refine W.y (y_ixn (i := 0) rfl rfl Try.underlying24 siz5 (by omega)) rfl ?_
      refine W.s (s_store rfl rfl rfl siz5 (Bk.some (Bk.ne (Bk.ne (Bk.ne hRm (by simp only; omega) _) (by simp only; omega) _) (by simp only; omega) _) (by first | omega | (simp only [Array.size_setIfInBounds]; omega))) (Bk.frozen (Bk.ne (Bk.ne (Bk.ne hRm (by simp only; omega) _) (by simp only; omega) _) (by simp only; omega) _) (by omega))) ?_
      refine W.fin ?_
      refine E.next ?_
      refine C.seq ?_
      refine C.reg ?_
      refine W.y (y_move rfl) rfl ?_
      refine W.y (y_nilp rfl) rfl ?_
      refine W.y (y_field rfl fld85_3) rfl ?_
      refine W.y (y_load rfl pl4 (Bk.at_ (v := .bool true) (Bk.ne (Bk.ne (Bk.ne (Bk.ne hEm (by simp only; omega) _) (by simp only; omega) _) (by simp only; omega) _) (by simp only; omega) _) (by simpa using hst))) rfl ?_
      refine W.y (y_move rfl) rfl ?_
      refine W.gy rfl rfl (y_ixa (i := 1) rfl rfl Try.underlying97 siz5 (by omega)) rfl ?_
      refine W.gy rfl rfl (y_load rfl pl5 (Bk.at_ (v := .int .u8 ((c1 : Nat) : Int)) (Bk.ne (Bk.set (Bk.set (Bk.set hdb _ _) _ _) _ _) (by simp only; omega) _) (by simp [hds]))) rfl ?_
      refine W.gy rfl rfl (y_neqF rfl rfl (by omega)) rfl ?_
      refine W.gy rfl rfl (y_move rfl) rfl ?_
      refine W.gy rfl rfl (y_ixa (i := 2) rfl rfl Try.underlying97 siz5 (by omega)) rfl ?_
      refine W.gy rfl rfl (y_load rfl pl5 (Bk.at_ (v := .int .u8 ((c2 : Nat) : Int)) (Bk.ne (Bk.set (Bk.set (Bk.set hdb _ _) _ _) _ _) (by simp only; omega) _) (by simp [hds]))) rfl ?_
      refine W.gy rfl rfl (y_neqF rfl rfl (by omega)) rfl ?_
      refine W.gy rfl rfl (y_pick rfl rfl) rfl ?_
      refine W.y (y_pick rfl rfl) rfl ?_
      refine W.fin ?_
      refine E.next ?_
      refine C.no rfl ?_
      refine C.skip ?_
      refine E.next ?_
      refine C.exit ?_
      refine E.blockOut ?_
      refine E.next ?_
      refine C.seq ?_
      refine C.reg ?_
      refine W.y (y_move rfl) rfl ?_
      refine W.y (y_move rfl) rfl ?_
      refine W.y (Does.as (y_sub rfl rfl (wi64 (by omega) (by omega))) (vint (b := ((1 : Nat) : Int)) (by omega))) rfl ?_
      refine W.y (y_move rfl) rfl ?_
      refine W.y (y_assign rfl) rfl ?_
      refine W.y (y_assign rfl) rfl ?_
      refine W.y (y_assign rfl) rfl ?_
      refine W.fin ?_
      refine E.next ?_
      refine C.ret ?_
      exact E.ret3 rfl rfl rfl rfl ⟨rfl, by rw [hun, ← rev1]; exact (Bk.set (Bk.ne (Bk.ne (Bk.ne hRm (by simp only; omega) _) (by simp only; omega) _) (by simp only; omega) _) _ _), (Kp.set (Kp.set (Kp.set (Kp.set hKm (.inr (by simp only; omega)) _) (.inr (by simp only; omega)) _) (.inr (by simp only; omega)) _) (.inl rfl) _)⟩
end Go.Proofs.Ytmbglgepomeilaa
