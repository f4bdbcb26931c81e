/-
  Walks: NewEncoding, WithPadding, encoding32.
-/
import Derived.Test.YtmbglgepomeilaaTy
namespace Go.Proofs.Ytmbglgepomeilaa
open Go.RowKit
set_option maxRecDepth 4000 in
theorem newEncoding64_ret {w : World} {al : List UInt8} {pad : Int} (hf : Fit 64 al pad) :
    Ret Try.prog 40 #[str al] w fun v w' => v = .pointer (some ⟨w.heap.size, 0, none⟩) ∧ (∃ cs, Bk w' w.heap.size cs 85 (0, 0) ∧ cs.size = 322 ∧ EncC 64 cs al 61 ∧ cs[321]? = some (.bool false)) ∧ Kp (fun _ => False) w w' ∧ w'.heap.size = w.heap.size + 1 := by
  obtain ⟨z, hz, hzs, hz3⟩ := zr_of2 (P := Try.prog) (t := 85) (k := 322) (j := 321) (u := .bool false) (by kernel_rfl) (by kernel_rfl)
  have hl := hf.len
  have hb1 := Bk.new w z.cells 85
  have hb2 := Bk.set hb1 320 (.int .i32 61)
  have hb3 := setCells_bk (vs := bv al) (o := 0) hb2
  have hb4 := setCells_bk (vs := bv (List.replicate 256 255)) (o := 64) hb3
  have hk4 : Kp (fun _ => False) w (setCells (setCells ((w.alloc (.cells z.cells 85)).setCell ⟨w.heap.size, 320, none⟩ (.int .i32 61)) w.heap.size 0 (bv al)) w.heap.size 64 (bv (List.replicate 256 255))) := setCells_kp (.inr (Nat.le_refl _)) (setCells_kp (.inr (Nat.le_refl _)) (((Kp.refl _ w).alloc _).set (.inr (Nat.le_refl _)) _))
  refine ret_of Try.func40 rfl Try.ntmps40 (Nat.le_of_ble_eq_true rfl) ?_
  refine C.seq ?_
  refine C.reg ?_
  refine W.y (y_assign rfl) rfl ?_
  refine W.fin ?_
  refine E.next ?_
  refine C.seq ?_
  refine C.seq ?_
  refine C.reg ?_
  refine W.y (y_move rfl) rfl ?_
  refine W.y (y_len' rfl Try.underlying9) rfl ?_
  refine W.y (y_neqF rfl rfl (by omega)) rfl ?_
  refine W.fin ?_
  refine E.next ?_
  refine C.no rfl ?_
  refine C.skip ?_
  refine E.next ?_
  refine C.seq ?_
  refine C.reg ?_
  refine W.y (y_alloc (hz _)) rfl ?_
  refine W.y (y_assign rfl) rfl ?_
  refine W.fin ?_
  refine E.next ?_
  refine C.seq ?_
  refine C.reg ?_
  refine W.y (y_move rfl) rfl ?_
  refine W.y (y_nilp rfl) rfl ?_
  refine W.y (y_field rfl fld85_2) rfl ?_
  refine W.s (s_store rfl rfl rfl siz21 (Bk.some hb1 (by omega)) (Bk.melt hb1)) ?_
  refine W.fin ?_
  refine E.next ?_
  refine C.seq ?_
  refine C.reg ?_
  refine W.y (y_move rfl) rfl ?_
  refine W.y (y_nilp rfl) rfl ?_
  refine W.y (y_field rfl fld85_0) rfl ?_
  refine W.y (y_arr rfl Try.underlying82 siz5 ) rfl ?_
  refine W.y (y_move rfl) rfl ?_
  refine W.y (y_copy rfl rfl (run_copyS Try.underlying24 siz5 hb2 (by omega) (by simp only [Array.size_setIfInBounds]; omega) (.inr (Nat.zero_le _)))) rfl ?_
  refine W.fin ?_
  refine E.next ?_
  refine C.seq ?_
  refine C.reg ?_
  refine W.y (y_move rfl) rfl ?_
  refine W.y (y_nilp rfl) rfl ?_
  refine W.y (y_field rfl fld85_1) rfl ?_
  refine W.y (y_arr rfl Try.underlying83 siz5 ) rfl ?_
  refine W.y (y_copy rfl (by kernel_rfl) (run_copyS (s := List.replicate 256 255) Try.underlying24 siz5 hb3 (by rw [List.length_replicate]; omega) (by rw [List.length_replicate, splice_size, Array.size_setIfInBounds]; omega) (.inr (Nat.zero_le _)))) rfl ?_
  refine W.fin ?_
  refine E.next ?_
  refine C.seq ?_
  refine C.seq ?_
  refine C.reg ?_
  refine W.y (y_assign rfl) rfl ?_
  refine W.fin ?_
  refine E.next ?_
  refine C.block ?_
  refine C.loop (σ := Nat) (fun i w' => i ≤ 64 ∧ (∃ cs, Bk w' w.heap.size cs 85 (0, 0) ∧ cs.size = 322 ∧ EncD 64 cs al (al.take i) 61 ∧ cs[321]? = some (.bool false)) ∧ Kp (fun _ => False) w w' ∧ w'.heap.size = w.heap.size + 1) (fun i => [(0, str al), (3, .pointer (some ⟨w.heap.size, 0, none⟩)), (4, .int .i64 (i : Int))]) (fun i => 64 - i) 0 ?_ ?_ ?_
  · exact ⟨by omega, ⟨_, hb4, by simp only [splice_size, Array.size_setIfInBounds]; exact hzs, encD_first hl (by omega), by rw [splice_get _ (by simp only [bv_length, List.length_replicate, splice_size, Array.size_setIfInBounds]; omega), if_neg (by simp only [bv_length, List.length_replicate]; omega), splice_get _ (by simp only [bv_length, Array.size_setIfInBounds]; omega), if_neg (by simp only [bv_length]; omega), Array.getElem?_setIfInBounds, if_neg (by omega)]; exact hz3⟩, hk4, by simp⟩
  · exact (Sub.cons rfl (Sub.cons rfl (Sub.cons rfl (Sub.nil _))))
  rintro i wi ⟨hi, ⟨cs, hb, hsz, he, hst⟩, hk, hs⟩
  show C _ _ _ _ [(0, str al), (3, .pointer (some ⟨w.heap.size, 0, none⟩)), (4, .int .i64 (i : Int))] _
  by_cases hlt : i < 64
  · obtain ⟨c, hc⟩ : ∃ c, al[i]? = some c := ⟨_, List.getElem?_eq_getElem (by omega)⟩
    have hno := hf.no i c hc
    have hc8 : c.toNat < 256 := c.toNat_lt
    have hdm := hf.dm_fresh hc
    refine C.seq ?_
    refine C.seq ?_
    refine C.reg ?_
    refine W.y (y_move rfl) rfl ?_
    refine W.y (y_move rfl) rfl ?_
    refine W.y (y_len' rfl Try.underlying9) rfl ?_
    refine W.y (y_lssT rfl rfl (by omega)) rfl ?_
    refine W.fin ?_
    refine E.next ?_
    refine C.yes rfl ?_
    refine C.skip ?_
    refine E.next ?_
    refine C.seq ?_
    refine C.block ?_
    refine C.seq ?_
    refine C.block ?_
    refine C.seq ?_
    refine C.reg ?_
    refine W.y (y_move rfl) rfl ?_
    refine W.y (y_move rfl) rfl ?_
    refine W.y (y_ixs' rfl rfl Try.underlying9 hc) rfl ?_
    refine W.y (y_eqlF rfl rfl (by omega)) rfl ?_
    refine W.y (y_move rfl) rfl ?_
    refine W.gy rfl rfl (y_move rfl) rfl ?_
    refine W.gy rfl rfl (y_move rfl) rfl ?_
    refine W.gy rfl rfl (y_ixs' rfl rfl Try.underlying9 hc) rfl ?_
    refine W.gy rfl rfl (y_eqlF rfl rfl (by omega)) rfl ?_
    refine W.y (y_pick rfl rfl) rfl ?_
    refine W.y (y_assign rfl) rfl ?_
    refine W.fin ?_
    refine E.next ?_
    refine C.no rfl ?_
    refine C.seq ?_
    refine C.still mixed (by kernel_rfl) ?_
    refine S.y (y_move rfl) rfl ?_
    refine S.y (y_move rfl) rfl ?_
    refine S.y (y_move rfl) rfl ?_
    refine S.y (y_ixs' rfl rfl Try.underlying9 hc) rfl ?_
    refine S.y (y_nilp rfl) rfl ?_
    refine S.y (y_field rfl fld85_1) rfl ?_
    refine S.y (y_ixa rfl rfl Try.underlying83 siz5 (by omega)) rfl ?_
    refine S.y (y_load rfl pl5 (Bk.at_ (Bk.drew hb) (he.dec c.toNat hc8))) rfl ?_
    refine S.y (y_neqF rfl rfl (by omega)) rfl ?_
    refine S.y (y_assign rfl) rfl ?_
    refine S.end_ ?_
    refine E.next ?_
    refine C.no rfl ?_
    refine C.skip ?_
    refine E.blockNormal ?_
    refine E.next ?_
    refine C.any mixed ?_
    refine AN.take 0 rfl (by kernel_rfl) (by kernel_rfl) (by kernel_rfl) (fun _ => y_move rfl) rfl ?_
    refine AN.take 1 rfl (by kernel_rfl) (by kernel_rfl) (by kernel_rfl) (fun _ => y_move rfl) rfl ?_
    refine AN.take 2 rfl (by kernel_rfl) (by kernel_rfl) (by kernel_rfl) (fun _ => y_move rfl) rfl ?_
    refine AN.take 3 rfl (by kernel_rfl) (by kernel_rfl) (by kernel_rfl) (fun _ => y_ixs' rfl rfl Try.underlying9 hc) rfl ?_
    refine AN.take 4 rfl (by kernel_rfl) (by kernel_rfl) (by kernel_rfl) (fun _ => y_move rfl) rfl ?_
    refine AN.take 5 rfl (by kernel_rfl) (by kernel_rfl) (by kernel_rfl) (fun _ => y_convN uk8 rfl Try.underlying3 Try.underlying5 (by omega)) rfl ?_
    refine AN.take 6 rfl (by kernel_rfl) (by kernel_rfl) (by kernel_rfl) (fun _ => y_nilp rfl) rfl ?_
    refine AN.take 7 rfl (by kernel_rfl) (by kernel_rfl) (by kernel_rfl) (fun _ => y_field rfl fld85_1) rfl ?_
    refine AN.take 8 rfl (by kernel_rfl) (by kernel_rfl) (by kernel_rfl) (fun _ => y_ixa rfl rfl Try.underlying83 siz5 (by omega)) rfl ?_
    refine AN.oneS 9 rfl (by kernel_rfl) (s_store rfl rfl rfl siz5 (Bk.some hb (by omega)) (Bk.melt hb)) ?_
    refine AN.done (by kernel_rfl) ?_
    refine E.blockNormal ?_
    refine E.next ?_
    refine C.reg ?_
    refine W.y (y_move rfl) rfl ?_
    refine W.y (y_add rfl rfl (wi64 (by omega) (by omega))) rfl ?_
    refine W.y (y_assign rfl) rfl ?_
    refine W.fin ?_
    refine E.again (i + 1) ⟨by omega, ⟨_, Bk.set hb _ _, by simp only [Array.size_setIfInBounds]; exact hsz, he.step hf hc, by rw [Array.getElem?_setIfInBounds, if_neg (by omega)]; exact hst⟩, Kp.set (Kp.drew (Kp.drew hk)) (.inr (Nat.le_refl _)) _, by simp only [World.size_setCell, World.size_drew]; exact hs⟩ (Sub.cons rfl (Sub.cons rfl (Sub.cons rfl (Sub.nil _)))) (by omega)
  · have hi2 : i = 64 := by omega
    rw [hi2, List.take_of_length_le (by omega)] at he
    refine C.seq ?_
    refine C.seq ?_
    refine C.reg ?_
    refine W.y (y_move rfl) rfl ?_
    refine W.y (y_move rfl) rfl ?_
    refine W.y (y_len' rfl Try.underlying9) rfl ?_
    refine W.y (y_lssF rfl rfl (by omega)) rfl ?_
    refine W.fin ?_
    refine E.next ?_
    refine C.no rfl ?_
    refine C.exit ?_
    refine E.thenExit ?_
    refine E.thenExit ?_
    refine E.blockOut ?_
    refine E.next ?_
    refine C.seq ?_
    refine C.reg ?_
    refine W.y (y_move rfl) rfl ?_
    refine W.y (y_assign rfl) rfl ?_
    refine W.fin ?_
    refine E.next ?_
    refine C.ret ?_
    exact E.ret1 rfl rfl ⟨rfl, ⟨cs, hb, hsz, he, hst⟩, hk, hs⟩
theorem withPadding64_ret {w : World} {al : List UInt8} {pad p : Int} {cs : Array Value} (hf : Fit 64 al pad) (he : EncC 64 cs al p) :
    Ret Try.prog 41 #[.agg cs, .int .i32 pad] w fun v w' => v = .pointer (some ⟨w.heap.size, 0, none⟩) ∧ Bk w' w.heap.size (cs.setIfInBounds 320 (.int .i32 pad)) 85 (0, 0) ∧ EncC 64 (cs.setIfInBounds 320 (.int .i32 pad)) al pad ∧ Kp (fun _ => False) w w' ∧ w'.heap.size = w.heap.size + 1 := by
  have h1 := hf.lo
  have h2 := hf.hi
  have h3 := hf.nl
  have hsz := he.size
  have hb1 := Bk.new w cs 85
  by_cases hp : pad = -1
  · refine ret_of Try.func41 rfl Try.ntmps41 (Nat.le_of_ble_eq_true rfl) ?_
    refine C.seq ?_
    refine C.reg ?_
    refine W.y (y_box rfl) rfl ?_
    refine W.y (y_assign rfl) rfl ?_
    refine W.fin ?_
    refine E.next ?_
    refine C.seq ?_
    refine C.block ?_
    refine C.seq ?_
    refine C.reg ?_
    refine W.y (y_move rfl) rfl ?_
    refine W.y (y_lssF rfl rfl (by omega)) rfl ?_
    refine W.y (y_move rfl) rfl ?_
    refine W.gy rfl rfl (y_move rfl) rfl ?_
    refine W.gy rfl rfl (y_eqlF rfl rfl (by omega)) rfl ?_
    refine W.y (y_pick rfl rfl) rfl ?_
    refine W.y (y_move rfl) rfl ?_
    refine W.gy rfl rfl (y_move rfl) rfl ?_
    refine W.gy rfl rfl (y_eqlF rfl rfl (by omega)) rfl ?_
    refine W.y (y_pick rfl rfl) rfl ?_
    refine W.y (y_move rfl) rfl ?_
    refine W.gy rfl rfl (y_move rfl) rfl ?_
    refine W.gy rfl rfl (y_gtrF rfl rfl (by omega)) rfl ?_
    refine W.y (y_pick rfl rfl) rfl ?_
    refine W.y (y_assign rfl) rfl ?_
    refine W.fin ?_
    refine E.next ?_
    refine C.no rfl ?_
    refine C.seq ?_
    refine C.reg ?_
    refine W.y (y_move rfl) rfl ?_
    refine W.y (y_neqF rfl rfl (by omega)) rfl ?_
    refine W.y (y_move rfl) rfl ?_
    refine W.gn rfl rfl rfl ?_
    refine W.gn rfl rfl rfl ?_
    refine W.gn rfl rfl rfl ?_
    refine W.gn rfl rfl rfl ?_
    refine W.gn rfl rfl rfl ?_
    refine W.gn rfl rfl rfl ?_
    refine W.y (y_pick rfl rfl) rfl ?_
    refine W.y (y_assign rfl) rfl ?_
    refine W.fin ?_
    refine E.next ?_
    refine C.no rfl ?_
    refine C.skip ?_
    refine E.blockNormal ?_
    refine E.next ?_
    refine C.seq ?_
    refine C.reg ?_
    refine W.y (y_move rfl) rfl ?_
    refine W.y (y_field rfl fld85_2) rfl ?_
    refine W.s (s_store rfl rfl rfl siz21 (Bk.some hb1 (by omega)) (Bk.melt hb1)) ?_
    refine W.fin ?_
    refine E.next ?_
    refine C.seq ?_
    refine C.reg ?_
    refine W.y (y_assign rfl) rfl ?_
    refine W.fin ?_
    refine E.next ?_
    refine C.ret ?_
    exact E.ret1 rfl rfl ⟨rfl, Bk.set hb1 _ _, he.padded, ((Kp.refl _ w).alloc _).set (.inr (Nat.le_refl _)) _, by simp⟩
  · have hdm := hf.dm_pad (by omega)
    refine ret_of Try.func41 rfl Try.ntmps41 (Nat.le_of_ble_eq_true rfl) ?_
    refine C.seq ?_
    refine C.reg ?_
    refine W.y (y_box rfl) rfl ?_
    refine W.y (y_assign rfl) rfl ?_
    refine W.fin ?_
    refine E.next ?_
    refine C.seq ?_
    refine C.block ?_
    refine C.seq ?_
    refine C.reg ?_
    refine W.y (y_move rfl) rfl ?_
    refine W.y (y_lssF rfl rfl (by omega)) rfl ?_
    refine W.y (y_move rfl) rfl ?_
    refine W.gy rfl rfl (y_move rfl) rfl ?_
    refine W.gy rfl rfl (y_eqlF rfl rfl (by omega)) rfl ?_
    refine W.y (y_pick rfl rfl) rfl ?_
    refine W.y (y_move rfl) rfl ?_
    refine W.gy rfl rfl (y_move rfl) rfl ?_
    refine W.gy rfl rfl (y_eqlF rfl rfl (by omega)) rfl ?_
    refine W.y (y_pick rfl rfl) rfl ?_
    refine W.y (y_move rfl) rfl ?_
    refine W.gy rfl rfl (y_move rfl) rfl ?_
    refine W.gy rfl rfl (y_gtrF rfl rfl (by omega)) rfl ?_
    refine W.y (y_pick rfl rfl) rfl ?_
    refine W.y (y_assign rfl) rfl ?_
    refine W.fin ?_
    refine E.next ?_
    refine C.no rfl ?_
    refine C.seq ?_
    refine C.reg ?_
    refine W.y (y_move rfl) rfl ?_
    refine W.y (y_neqT rfl rfl (by omega)) rfl ?_
    refine W.y (y_move rfl) rfl ?_
    refine W.gy rfl rfl (y_move rfl) rfl ?_
    refine W.gy rfl rfl (y_conv (r := ((pad.toNat : Nat) : Int)) rfl Try.underlying21 Try.underlying5 (pad_u8n (by omega) h2)) rfl ?_
    refine W.gy rfl rfl (y_field rfl fld85_1) rfl ?_
    refine W.gy rfl rfl (y_ixa rfl rfl Try.underlying83 siz5 (by omega)) rfl ?_
    refine W.gy rfl rfl (y_load rfl pl5 (Bk.at_ hb1 (he.dec pad.toNat (by omega)))) rfl ?_
    refine W.gy rfl rfl (y_neqF rfl rfl (by omega)) rfl ?_
    refine W.y (y_pick rfl rfl) rfl ?_
    refine W.y (y_assign rfl) rfl ?_
    refine W.fin ?_
    refine E.next ?_
    refine C.no rfl ?_
    refine C.skip ?_
    refine E.blockNormal ?_
    refine E.next ?_
    refine C.seq ?_
    refine C.reg ?_
    refine W.y (y_move rfl) rfl ?_
    refine W.y (y_field rfl fld85_2) rfl ?_
    refine W.s (s_store rfl rfl rfl siz21 (Bk.some hb1 (by omega)) (Bk.melt hb1)) ?_
    refine W.fin ?_
    refine E.next ?_
    refine C.seq ?_
    refine C.reg ?_
    refine W.y (y_assign rfl) rfl ?_
    refine W.fin ?_
    refine E.next ?_
    refine C.ret ?_
    exact E.ret1 rfl rfl ⟨rfl, Bk.set hb1 _ _, he.padded, ((Kp.refl _ w).alloc _).set (.inr (Nat.le_refl _)) _, by simp⟩
theorem strict64_ret {w : World} {cs : Array Value} (hs : cs.size = 322) :
    Ret Try.prog 42 #[.agg cs] w fun v w' => v = .pointer (some ⟨w.heap.size, 0, none⟩) ∧ Bk w' w.heap.size (cs.setIfInBounds 321 (.bool true)) 85 (0, 0) ∧ Kp (fun _ => False) w w' := by
  have hb1 := Bk.new w cs 85
  refine ret_of Try.func42 rfl Try.ntmps42 (Nat.le_of_ble_eq_true rfl) ?_
  refine C.seq ?_
  refine C.reg ?_
  refine W.y (y_box rfl) rfl ?_
  refine W.y (y_assign rfl) rfl ?_
  refine W.fin ?_
  refine E.next ?_
  refine C.seq ?_
  refine C.reg ?_
  refine W.y (y_field rfl fld85_3) rfl ?_
  refine W.s (s_store rfl rfl rfl siz4 (Bk.some hb1 (by omega)) (Bk.melt hb1)) ?_
  refine W.fin ?_
  refine E.next ?_
  refine C.seq ?_
  refine C.reg ?_
  refine W.y (y_assign rfl) rfl ?_
  refine W.fin ?_
  refine E.next ?_
  refine C.ret ?_
  exact E.ret1 rfl rfl ⟨rfl, Bk.set hb1 _ _, ((Kp.refl _ w).alloc _).set (.inr (Nat.le_refl _)) _⟩
theorem encoding64_ret {w : World} {al : List UInt8} {pad : Int} (hf : Fit 64 al pad) (st : Bool) :
    Ret Try.prog 34 #[str al, .int .i64 pad, .bool st] w fun v w' => ∃ g cs, v = .pointer (some ⟨g, 0, none⟩) ∧ w.heap.size ≤ g ∧ Bk w' g cs 85 (0, 0) ∧ EncC 64 cs al pad ∧ cs[321]? = some (.bool st) ∧ Kp (fun _ => False) w w' := by
  have h1 := hf.lo
  have h2 := hf.hi
  cases st
  · refine ret_of Try.func34 rfl Try.ntmps34 (Nat.le_of_ble_eq_true rfl) ?_
    refine C.seq ?_
    refine C.reg ?_
    refine W.y (y_assign rfl) rfl ?_
    refine W.fin ?_
    refine E.next ?_
    refine C.seq ?_
    refine C.reg ?_
    refine W.y (y_move rfl) rfl ?_
    refine W.call ent40 rfl (newEncoding64_ret hf) rfl ?_
    rintro _ w1 ⟨rfl, ⟨cs, hb, hsz, he, hst⟩, hk1, hs1⟩
    refine W.y (y_nilp rfl) rfl ?_
    refine W.y (y_loadStr rfl Try.underlying85 rfl (by rw [hsz]; kernel_rfl) hb) rfl ?_
    refine W.y (y_move rfl) rfl ?_
    refine W.y (y_conv (r := pad) rfl Try.underlying2 Try.underlying21 (wi32 (by omega) (by omega))) rfl ?_
    refine W.call ent41 rfl (withPadding64_ret hf he) rfl ?_
    rintro _ w2 ⟨rfl, hb2, he2, hk2, hs2⟩
    refine W.y (y_assign rfl) rfl ?_
    refine W.fin ?_
    refine E.next ?_
    refine C.seq ?_
    refine C.seq ?_
    refine C.reg ?_
    refine W.y (y_move rfl) rfl ?_
    refine W.fin ?_
    refine E.next ?_
    refine C.no rfl ?_
    refine C.skip ?_
    refine E.next ?_
    refine C.seq ?_
    refine C.reg ?_
    refine W.y (y_move rfl) rfl ?_
    refine W.y (y_assign rfl) rfl ?_
    refine W.fin ?_
    refine E.next ?_
    refine C.ret ?_
    exact E.ret1 rfl rfl ⟨_, _, rfl, by omega, hb2, he2, by rw [Array.getElem?_setIfInBounds, if_neg (by omega)]; exact hst, hk1.trans hk2⟩
  · refine ret_of Try.func34 rfl Try.ntmps34 (Nat.le_of_ble_eq_true rfl) ?_
    refine C.seq ?_
    refine C.reg ?_
    refine W.y (y_assign rfl) rfl ?_
    refine W.fin ?_
    refine E.next ?_
    refine C.seq ?_
    refine C.reg ?_
    refine W.y (y_move rfl) rfl ?_
    refine W.call ent40 rfl (newEncoding64_ret hf) rfl ?_
    rintro _ w1 ⟨rfl, ⟨cs, hb, hsz, he, hst⟩, hk1, hs1⟩
    refine W.y (y_nilp rfl) rfl ?_
    refine W.y (y_loadStr rfl Try.underlying85 rfl (by rw [hsz]; kernel_rfl) hb) rfl ?_
    refine W.y (y_move rfl) rfl ?_
    refine W.y (y_conv (r := pad) rfl Try.underlying2 Try.underlying21 (wi32 (by omega) (by omega))) rfl ?_
    refine W.call ent41 rfl (withPadding64_ret hf he) rfl ?_
    rintro _ w2 ⟨rfl, hb2, he2, hk2, hs2⟩
    refine W.y (y_assign rfl) rfl ?_
    refine W.fin ?_
    refine E.next ?_
    refine C.seq ?_
    refine C.seq ?_
    refine C.reg ?_
    refine W.y (y_move rfl) rfl ?_
    refine W.fin ?_
    refine E.next ?_
    refine C.yes rfl ?_
    refine C.seq ?_
    refine C.reg ?_
    refine W.y (y_move rfl) rfl ?_
    refine W.y (y_nilp rfl) rfl ?_
    refine W.y (y_loadStr rfl Try.underlying85 rfl (by rw [Array.size_setIfInBounds, hsz]; kernel_rfl) hb2) rfl ?_
    refine W.call ent42 rfl (strict64_ret (by rw [Array.size_setIfInBounds, hsz])) rfl ?_
    rintro _ w3 ⟨rfl, hb3, hk3⟩
    refine W.y (y_assign rfl) rfl ?_
    refine W.fin ?_
    refine E.next ?_
    refine C.ret ?_
    refine E.thenRet ?_
    exact E.ret1 rfl rfl ⟨_, _, rfl, by have := hk2.size; omega, hb3, he2.other (by omega) _, by rw [Array.getElem?_setIfInBounds, if_pos rfl, if_pos (by rw [Array.size_setIfInBounds, hsz]; omega)], (hk1.trans hk2).trans hk3⟩
end Go.Proofs.Ytmbglgepomeilaa
