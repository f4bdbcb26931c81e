/-
  Walks: EncodedLen, Encode.
-/
import Derived.Test.YtlbnglmfbnnhjaaTy
namespace Go.Proofs.Ytlbnglmfbnnhjaa
open Go.RowKit
theorem encodedLen32_ret {w : World} {ge : Nat} {cs : Array Value} {te : TypeId} {fz : Nat × Nat} {al : List UInt8} {pad : Int} {m : Nat} (hb : Bk w ge cs te fz) (he : EncC 32 cs al pad) (hm : m ≤ 140737488351232) :
    Ret Try.prog 43 #[.pointer (some ⟨ge, 0, none⟩), .int .i64 (m : Int)] w fun v w' => v = .int .i64 ((encLen32 pad m : Nat) : Int) ∧ w = w' := by
  refine ret_of Try.func43 rfl Try.ntmps43 (Nat.le_of_ble_eq_true rfl) ?_
  refine C.seq ?_
  refine C.reg ?_
  refine W.y (y_assign rfl) rfl ?_
  refine W.fin ?_
  refine E.next ?_
  refine C.seq ?_
  refine C.seq ?_
  refine C.reg ?_
  refine W.y (y_move rfl) rfl ?_
  refine W.y (y_nilp rfl) rfl ?_
  refine W.y (y_field rfl fld87_2) rfl ?_
  refine W.y (y_load rfl pl21 (hb.at_ he.pad_)) rfl ?_
  refine W.y (y_eql rfl rfl) rfl ?_
  refine W.fin ?_
  refine E.next ?_
  refine C.if_ rfl (fun h => ?_) (fun h => ?_)
  · refine C.seq ?_
    refine C.reg ?_
    refine W.y (y_move rfl) rfl ?_
    refine W.y (y_quo rfl rfl (by omega) (by omega) (by omega)) rfl ?_
    refine W.y (y_mul rfl rfl (wi64 (by omega) (by omega))) rfl ?_
    refine W.y (y_move rfl) rfl ?_
    refine W.y (y_rem rfl rfl (by omega) (by omega)) rfl ?_
    refine W.y (y_mul rfl rfl (wi64 (by omega) (by omega))) rfl ?_
    refine W.y (y_add rfl rfl (wi64 (by omega) (by omega))) rfl ?_
    refine W.y (y_quo rfl rfl (by omega) (by omega) (by omega)) rfl ?_
    refine W.y (y_add rfl rfl (wi64 (by omega) (by omega))) rfl ?_
    refine W.y (y_assign rfl) rfl ?_
    refine W.fin ?_
    refine E.next ?_
    refine C.ret ?_
    refine E.thenRet ?_
    exact E.ret1 rfl rfl ⟨congrArg (Value.int .i64) (by unfold encLen32; rw [if_pos h]; omega), rfl⟩
  · refine C.skip ?_
    refine E.next ?_
    refine C.seq ?_
    refine C.reg ?_
    refine W.y (y_move rfl) rfl ?_
    refine W.y (y_add rfl rfl (wi64 (by omega) (by omega))) rfl ?_
    refine W.y (y_quo rfl rfl (by omega) (by omega) (by omega)) rfl ?_
    refine W.y (y_mul rfl rfl (wi64 (by omega) (by omega))) rfl ?_
    refine W.y (y_assign rfl) rfl ?_
    refine W.fin ?_
    refine E.next ?_
    refine C.ret ?_
    exact E.ret1 rfl rfl ⟨congrArg (Value.int .i64) (by unfold encLen32; rw [if_neg h]; omega), rfl⟩
set_option maxRecDepth 4000 in
set_option maxHeartbeats 4000000 in
theorem encode32_ret {w : World} {ge g off m c' c sb so : Nat} {A : Option Addr} {cs ds : Array Value} {te td : TypeId} {fz : Nat × Nat} {al : List UInt8} {pad : Int} {src : List UInt8}
    (hE : Bk w ge cs te fz) (he : EncC 32 cs al pad) (hp0 : -1 ≤ pad) (hp1 : pad ≤ 255) (hD : Bk w g ds td (0, 0)) (hne : ge ≠ g) (hS : src.length = 0 ∨ (A = some ⟨sb, so, none⟩ ∧ Bs w sb so src)) (hc : src.length ≤ c)
    (hmc : m ≤ c') (hm : encLen32 pad src.length ≤ m) (ho : off + m ≤ ds.size) (hap : sb ≠ g ∨ so + src.length ≤ off ∨ off + m ≤ so) (hn : src.length ≤ 140737488351232) :
    Ret Try.prog 44 #[.pointer (some ⟨ge, 0, none⟩), .slice (some ⟨g, off, none⟩) m c', .slice A src.length c] w fun v w' => v = .tuple #[] ∧ Bk w' g (splice ds off (bv (Pl.text 5 8 al pad src))) td (0, 0) ∧ Kp (· = g) w w' ∧ w'.heap.size = w.heap.size := by
  by_cases h0 : src.length = 0
  · have e : src = [] := List.eq_nil_of_length_eq_zero h0
    have et : Pl.text 5 8 al pad src = [] := by rw [e, text_of_whole (by simp [Pl.nlet])]; rfl
    refine ret_of Try.func44 rfl Try.ntmps44 (Nat.le_of_ble_eq_true rfl) ?_
    refine C.seq ?_
    refine C.seq ?_
    refine C.reg ?_
    refine W.y (y_move rfl) rfl ?_
    refine W.y (y_len rfl Try.underlying24) rfl ?_
    refine W.y (y_eqlT rfl rfl (by omega)) rfl ?_
    refine W.fin ?_
    refine E.next ?_
    refine C.yes rfl ?_
    refine C.ret ?_
    refine E.thenRet ?_
    exact E.ret0 rfl ⟨rfl, by rw [et]; exact hD, Kp.refl _ _, rfl⟩
  obtain ⟨rfl, hB⟩ := hS.resolve_left h0
  refine ret_of Try.func44 rfl Try.ntmps44 (Nat.le_of_ble_eq_true rfl) ?_
  refine C.seq ?_
  refine C.seq ?_
  refine C.reg ?_
  refine W.y (y_move rfl) rfl ?_
  refine W.y (y_len rfl Try.underlying24) rfl ?_
  refine W.y (y_eqlF rfl rfl (by omega)) rfl ?_
  refine W.fin ?_
  refine E.next ?_
  refine C.no rfl ?_
  refine C.skip ?_
  refine E.next ?_
  refine C.seq ?_
  refine C.reg ?_
  refine W.y (y_move rfl) rfl ?_
  refine W.y (y_nilp rfl) rfl ?_
  refine W.y (y_field rfl fld87_0) rfl ?_
  refine W.y (y_loadRow rfl Try.underlying84 siz84 hE (by have := he.size; omega)) rfl ?_
  refine W.fin ?_
  refine E.next ?_
  refine C.seq ?_
  refine C.block ?_
  refine C.loop (σ := Nat × Option Addr × Option Addr) (fun (k, D, A) w' => 5 * k ≤ src.length ∧ (8 * k < c' → D = some ⟨g, off + 8 * k, none⟩) ∧ (5 * k < c → A = some ⟨sb, so + 5 * k, none⟩) ∧ Bk w' g (splice ds off (bv (Pl.letters 5 al (src.take (5 * k))))) td (0, 0) ∧ Kp (· = g) w w' ∧ w'.heap.size = w.heap.size) (fun (k, D, A) => [(0, .pointer (some ⟨ge, 0, none⟩)), (1, .slice D (m - 8 * k) (c' - 8 * k)), (2, .slice A (src.length - 5 * k) (c - 5 * k))]) (fun (k, _, _) => src.length - 5 * k) (0, some ⟨g, off, none⟩, some ⟨sb, so, none⟩) ?_ ?_ ?_
  · exact ⟨by omega, fun _ => rfl, fun _ => rfl, by simpa [Pl.letters, Pl.nums, Pl.nlet, bv, splice] using hD, Kp.refl _ _, rfl⟩
  · exact (Sub.cons rfl (Sub.cons rfl (Sub.cons rfl (Sub.nil _))))
  rintro ⟨k, D, A⟩ wr ⟨hk, hDk, hAk, hR, hK, hz⟩
  show C _ _ _ _ [(0, .pointer (some ⟨ge, 0, none⟩)), (1, .slice D (m - 8 * k) (c' - 8 * k)), (2, .slice A (src.length - 5 * k) (c - 5 * k))] _
  have hlk : (Pl.letters 5 al (src.take (5 * k))).length = 8 * k := letters_len32 (by rw [List.length_take]; omega)
  have hlb : (bv (Pl.letters 5 al (src.take (5 * k)))).length = 8 * k := by rw [bv_length, hlk]
  have hl8 : 8 * k ≤ encLen32 pad src.length := by unfold encLen32; split <;> omega
  have hEr : Bk wr ge cs te fz := hE.kept hK hne
  have hBr : Bs wr sb so src := hB.splice hD hR hK (by omega) (by omega)
  by_cases h5 : 5 ≤ src.length - 5 * k
  · have hl : 8 * k + 8 ≤ encLen32 pad src.length := by unfold encLen32; split <;> omega
    obtain rfl := hDk (by omega)
    obtain rfl := hAk (by omega)
    obtain ⟨b0, e0⟩ : ∃ b, src[5 * k]? = some b := ⟨_, List.getElem?_eq_getElem (by omega)⟩
    have t0 : b0.toNat < 256 := b0.toNat_lt
    have q0 : wr.cell? ⟨sb, so + 5 * k, none⟩ = some (u8 b0) := hBr (5 * k) b0 e0
    obtain ⟨b1, e1⟩ : ∃ b, src[5 * k + 1]? = some b := ⟨_, List.getElem?_eq_getElem (by omega)⟩
    have t1 : b1.toNat < 256 := b1.toNat_lt
    have q1 : wr.cell? ⟨sb, so + 5 * k + 1, none⟩ = some (u8 b1) := by have := hBr (5 * k + 1) b1 e1; rwa [← Nat.add_assoc] at this
    obtain ⟨b2, e2⟩ : ∃ b, src[5 * k + 2]? = some b := ⟨_, List.getElem?_eq_getElem (by omega)⟩
    have t2 : b2.toNat < 256 := b2.toNat_lt
    have q2 : wr.cell? ⟨sb, so + 5 * k + 2, none⟩ = some (u8 b2) := by have := hBr (5 * k + 2) b2 e2; rwa [← Nat.add_assoc] at this
    obtain ⟨b3, e3⟩ : ∃ b, src[5 * k + 3]? = some b := ⟨_, List.getElem?_eq_getElem (by omega)⟩
    have t3 : b3.toNat < 256 := b3.toNat_lt
    have q3 : wr.cell? ⟨sb, so + 5 * k + 3, none⟩ = some (u8 b3) := by have := hBr (5 * k + 3) b3 e3; rwa [← Nat.add_assoc] at this
    obtain ⟨b4, e4⟩ : ∃ b, src[5 * k + 4]? = some b := ⟨_, List.getElem?_eq_getElem (by omega)⟩
    have t4 : b4.toNat < 256 := b4.toNat_lt
    have q4 : wr.cell? ⟨sb, so + 5 * k + 4, none⟩ = some (u8 b4) := by have := hBr (5 * k + 4) b4 e4; rwa [← Nat.add_assoc] at this
    have hE1 : Bk wr.drew ge cs te fz := hEr.drew
    have hR1 := hR.drew
    refine C.seq ?_
    refine C.seq ?_
    refine C.reg ?_
    refine W.y (y_move rfl) rfl ?_
    refine W.y (y_len rfl Try.underlying24) rfl ?_
    refine W.y (y_geqT rfl rfl (by omega)) rfl ?_
    refine W.fin ?_
    refine E.next ?_
    refine C.yes rfl ?_
    refine C.skip ?_
    refine E.next ?_
    refine C.block ?_
    refine C.seq ?_
    refine C.still mixed (by kernel_rfl) ?_
    refine S.y (y_move rfl) rfl ?_
    refine S.y (y_ixn (i := 0) rfl rfl Try.underlying24 siz5 (by omega)) rfl ?_
    refine S.y (y_load rfl pl5 q0) rfl ?_
    refine S.y (y_convN uk32 rfl Try.underlying5 Try.underlying88 (by omega)) rfl ?_
    refine S.y (y_shl uk32 (s := 24) rfl rfl (by omega) (by omega)) rfl ?_
    refine S.y (y_move rfl) rfl ?_
    refine S.y (y_ixn (i := 1) rfl rfl Try.underlying24 siz5 (by omega)) rfl ?_
    refine S.y (y_load rfl pl5 q1) rfl ?_
    refine S.y (y_convN uk32 rfl Try.underlying5 Try.underlying88 (by omega)) rfl ?_
    refine S.y (y_shl uk32 (s := 16) rfl rfl (by omega) (by omega)) rfl ?_
    refine S.y (y_join uk32 24 rfl rfl (by omega) (by omega) (by omega) (by omega)) rfl ?_
    refine S.y (y_move rfl) rfl ?_
    refine S.y (y_ixn (i := 2) rfl rfl Try.underlying24 siz5 (by omega)) rfl ?_
    refine S.y (y_load rfl pl5 q2) rfl ?_
    refine S.y (y_convN uk32 rfl Try.underlying5 Try.underlying88 (by omega)) rfl ?_
    refine S.y (y_shl uk32 (s := 8) rfl rfl (by omega) (by omega)) rfl ?_
    refine S.y (y_join uk32 16 rfl rfl (by omega) (by omega) (by omega) (by omega)) rfl ?_
    refine S.y (y_move rfl) rfl ?_
    refine S.y (y_ixn (i := 3) rfl rfl Try.underlying24 siz5 (by omega)) rfl ?_
    refine S.y (y_load rfl pl5 q3) rfl ?_
    refine S.y (y_convN uk32 rfl Try.underlying5 Try.underlying88 (by omega)) rfl ?_
    refine S.y (y_join uk32 8 rfl rfl (by omega) (by omega) (by omega) (by omega)) rfl ?_
    refine S.y (y_assign rfl) rfl ?_
    refine S.end_ ?_
    refine E.next ?_
    refine C.seq ?_
    refine C.reg ?_
    refine W.y (y_move rfl) rfl ?_
    refine W.y (y_shlM uk32 (s := 8) rfl rfl (by omega)) rfl ?_
    refine W.y (y_move rfl) rfl ?_
    refine W.y (y_ixn (i := 4) rfl rfl Try.underlying24 siz5 (by omega)) rfl ?_
    refine W.y (y_load rfl pl5 q4) rfl ?_
    refine W.y (y_convN uk32 rfl Try.underlying5 Try.underlying88 (by omega)) rfl ?_
    refine W.y (y_join uk32 8 rfl rfl (by omega) (by omega) (by omega) (by omega)) rfl ?_
    refine W.y (y_assign rfl) rfl ?_
    refine W.fin ?_
    refine E.next ?_
    refine C.seq ?_
    refine C.reg ?_
    refine W.y (y_move rfl) rfl ?_
    refine W.y (y_ixn (i := 7) rfl rfl Try.underlying24 siz5 (by omega)) rfl ?_
    refine W.y (y_load rfl pl5 (Bk.some hR1 (by rw [splice_size]; omega))) rfl ?_
    refine W.fin ?_
    refine E.next ?_
    refine C.seq ?_
    refine C.reg ?_
    refine W.y (y_move rfl) rfl ?_
    refine W.y (y_move rfl) rfl ?_
    refine W.y (y_move rfl) rfl ?_
    refine W.y (y_shr uk32 (s := 27) rfl rfl (by omega)) rfl ?_
    refine W.y (y_mask uk32 5 (b := 31) rfl rfl rfl (by omega) (by omega)) rfl ?_
    refine W.y (y_nilp rfl) rfl ?_
    refine W.y (y_field rfl fld87_0) rfl ?_
    refine W.y (y_ixa rfl rfl Try.underlying84 siz5 (by omega)) rfl ?_
    refine W.y (y_load rfl pl5 (Bk.at_ hE1 (he.letter0 (by omega)))) rfl ?_
    refine W.y (y_ixn (i := 0) rfl rfl Try.underlying24 siz5 (by omega)) rfl ?_
    refine W.s (s_store rfl rfl rfl siz5 (Bk.some hR1 (by rw [splice_size]; omega)) (Bk.melt hR1)) ?_
    refine W.fin ?_
    refine E.next ?_
    refine C.seq ?_
    refine C.reg ?_
    refine W.y (y_move rfl) rfl ?_
    refine W.y (y_move rfl) rfl ?_
    refine W.y (y_move rfl) rfl ?_
    refine W.y (y_shr uk32 (s := 22) rfl rfl (by omega)) rfl ?_
    refine W.y (y_mask uk32 5 (b := 31) rfl rfl rfl (by omega) (by omega)) rfl ?_
    refine W.y (y_nilp rfl) rfl ?_
    refine W.y (y_field rfl fld87_0) rfl ?_
    refine W.y (y_ixa rfl rfl Try.underlying84 siz5 (by omega)) rfl ?_
    refine W.y (y_load rfl pl5 (Bk.at_ (Bk.ne hE1 hne _) (he.letter0 (by omega)))) rfl ?_
    refine W.y (y_ixn (i := 1) rfl rfl Try.underlying24 siz5 (by omega)) rfl ?_
    refine W.s (s_store rfl rfl rfl siz5 (Bk.some (Bk.set hR1 _ _) (by simp only [Array.size_setIfInBounds, splice_size]; omega)) (Bk.melt (Bk.set hR1 _ _))) ?_
    refine W.fin ?_
    refine E.next ?_
    refine C.seq ?_
    refine C.reg ?_
    refine W.y (y_move rfl) rfl ?_
    refine W.y (y_move rfl) rfl ?_
    refine W.y (y_move rfl) rfl ?_
    refine W.y (y_shr uk32 (s := 17) rfl rfl (by omega)) rfl ?_
    refine W.y (y_mask uk32 5 (b := 31) rfl rfl rfl (by omega) (by omega)) rfl ?_
    refine W.y (y_nilp rfl) rfl ?_
    refine W.y (y_field rfl fld87_0) rfl ?_
    refine W.y (y_ixa rfl rfl Try.underlying84 siz5 (by omega)) rfl ?_
    refine W.y (y_load rfl pl5 (Bk.at_ (Bk.ne (Bk.ne hE1 hne _) hne _) (he.letter0 (by omega)))) rfl ?_
    refine W.y (y_ixn (i := 2) rfl rfl Try.underlying24 siz5 (by omega)) rfl ?_
    refine W.s (s_store rfl rfl rfl siz5 (Bk.some (Bk.set (Bk.set hR1 _ _) _ _) (by simp only [Array.size_setIfInBounds, splice_size]; omega)) (Bk.melt (Bk.set (Bk.set hR1 _ _) _ _))) ?_
    refine W.fin ?_
    refine E.next ?_
    refine C.seq ?_
    refine C.reg ?_
    refine W.y (y_move rfl) rfl ?_
    refine W.y (y_move rfl) rfl ?_
    refine W.y (y_move rfl) rfl ?_
    refine W.y (y_shr uk32 (s := 12) rfl rfl (by omega)) rfl ?_
    refine W.y (y_mask uk32 5 (b := 31) rfl rfl rfl (by omega) (by omega)) rfl ?_
    refine W.y (y_nilp rfl) rfl ?_
    refine W.y (y_field rfl fld87_0) rfl ?_
    refine W.y (y_ixa rfl rfl Try.underlying84 siz5 (by omega)) rfl ?_
    refine W.y (y_load rfl pl5 (Bk.at_ (Bk.ne (Bk.ne (Bk.ne hE1 hne _) hne _) hne _) (he.letter0 (by omega)))) rfl ?_
    refine W.y (y_ixn (i := 3) rfl rfl Try.underlying24 siz5 (by omega)) rfl ?_
    refine W.s (s_store rfl rfl rfl siz5 (Bk.some (Bk.set (Bk.set (Bk.set hR1 _ _) _ _) _ _) (by simp only [Array.size_setIfInBounds, splice_size]; omega)) (Bk.melt (Bk.set (Bk.set (Bk.set hR1 _ _) _ _) _ _))) ?_
    refine W.fin ?_
    refine E.next ?_
    refine C.seq ?_
    refine C.reg ?_
    refine W.y (y_move rfl) rfl ?_
    refine W.y (y_move rfl) rfl ?_
    refine W.y (y_move rfl) rfl ?_
    refine W.y (y_shr uk32 (s := 7) rfl rfl (by omega)) rfl ?_
    refine W.y (y_mask uk32 5 (b := 31) rfl rfl rfl (by omega) (by omega)) rfl ?_
    refine W.y (y_nilp rfl) rfl ?_
    refine W.y (y_field rfl fld87_0) rfl ?_
    refine W.y (y_ixa rfl rfl Try.underlying84 siz5 (by omega)) rfl ?_
    refine W.y (y_load rfl pl5 (Bk.at_ (Bk.ne (Bk.ne (Bk.ne (Bk.ne hE1 hne _) hne _) hne _) hne _) (he.letter0 (by omega)))) rfl ?_
    refine W.y (y_ixn (i := 4) rfl rfl Try.underlying24 siz5 (by omega)) rfl ?_
    refine W.s (s_store rfl rfl rfl siz5 (Bk.some (Bk.set (Bk.set (Bk.set (Bk.set hR1 _ _) _ _) _ _) _ _) (by simp only [Array.size_setIfInBounds, splice_size]; omega)) (Bk.melt (Bk.set (Bk.set (Bk.set (Bk.set hR1 _ _) _ _) _ _) _ _))) ?_
    refine W.fin ?_
    refine E.next ?_
    refine C.seq ?_
    refine C.reg ?_
    refine W.y (y_move rfl) rfl ?_
    refine W.y (y_move rfl) rfl ?_
    refine W.y (y_move rfl) rfl ?_
    refine W.y (y_shr uk32 (s := 2) rfl rfl (by omega)) rfl ?_
    refine W.y (y_mask uk32 5 (b := 31) rfl rfl rfl (by omega) (by omega)) rfl ?_
    refine W.y (y_nilp rfl) rfl ?_
    refine W.y (y_field rfl fld87_0) rfl ?_
    refine W.y (y_ixa rfl rfl Try.underlying84 siz5 (by omega)) rfl ?_
    refine W.y (y_load rfl pl5 (Bk.at_ (Bk.ne (Bk.ne (Bk.ne (Bk.ne (Bk.ne hE1 hne _) hne _) hne _) hne _) hne _) (he.letter0 (by omega)))) rfl ?_
    refine W.y (y_ixn (i := 5) rfl rfl Try.underlying24 siz5 (by omega)) rfl ?_
    refine W.s (s_store rfl rfl rfl siz5 (Bk.some (Bk.set (Bk.set (Bk.set (Bk.set (Bk.set hR1 _ _) _ _) _ _) _ _) _ _) (by simp only [Array.size_setIfInBounds, splice_size]; omega)) (Bk.melt (Bk.set (Bk.set (Bk.set (Bk.set (Bk.set hR1 _ _) _ _) _ _) _ _) _ _))) ?_
    refine W.fin ?_
    refine E.next ?_
    refine C.seq ?_
    refine C.reg ?_
    refine W.y (y_move rfl) rfl ?_
    refine W.y (y_move rfl) rfl ?_
    refine W.y (y_move rfl) rfl ?_
    refine W.y (y_shr uk32 (s := 5) rfl rfl (by omega)) rfl ?_
    refine W.y (y_mask uk32 5 (b := 31) rfl rfl rfl (by omega) (by omega)) rfl ?_
    refine W.y (y_nilp rfl) rfl ?_
    refine W.y (y_field rfl fld87_0) rfl ?_
    refine W.y (y_ixa rfl rfl Try.underlying84 siz5 (by omega)) rfl ?_
    refine W.y (y_load rfl pl5 (Bk.at_ (Bk.ne (Bk.ne (Bk.ne (Bk.ne (Bk.ne (Bk.ne hE1 hne _) hne _) hne _) hne _) hne _) hne _) (he.letter0 (by omega)))) rfl ?_
    refine W.y (y_ixn (i := 6) rfl rfl Try.underlying24 siz5 (by omega)) rfl ?_
    refine W.s (s_store rfl rfl rfl siz5 (Bk.some (Bk.set (Bk.set (Bk.set (Bk.set (Bk.set (Bk.set hR1 _ _) _ _) _ _) _ _) _ _) _ _) (by simp only [Array.size_setIfInBounds, splice_size]; omega)) (Bk.melt (Bk.set (Bk.set (Bk.set (Bk.set (Bk.set (Bk.set hR1 _ _) _ _) _ _) _ _) _ _) _ _))) ?_
    refine W.fin ?_
    refine E.next ?_
    refine C.seq ?_
    refine C.reg ?_
    refine W.y (y_move rfl) rfl ?_
    refine W.y (y_move rfl) rfl ?_
    refine W.y (y_move rfl) rfl ?_
    refine W.y (y_mask uk32 5 (b := 31) rfl rfl rfl (by omega) (by omega)) rfl ?_
    refine W.y (y_nilp rfl) rfl ?_
    refine W.y (y_field rfl fld87_0) rfl ?_
    refine W.y (y_ixa rfl rfl Try.underlying84 siz5 (by omega)) rfl ?_
    refine W.y (y_load rfl pl5 (Bk.at_ (Bk.ne (Bk.ne (Bk.ne (Bk.ne (Bk.ne (Bk.ne (Bk.ne hE1 hne _) hne _) hne _) hne _) hne _) hne _) hne _) (he.letter0 (by omega)))) rfl ?_
    refine W.y (y_ixn (i := 7) rfl rfl Try.underlying24 siz5 (by omega)) rfl ?_
    refine W.s (s_store rfl rfl rfl siz5 (Bk.some (Bk.set (Bk.set (Bk.set (Bk.set (Bk.set (Bk.set (Bk.set hR1 _ _) _ _) _ _) _ _) _ _) _ _) _ _) (by simp only [Array.size_setIfInBounds, splice_size]; omega)) (Bk.melt (Bk.set (Bk.set (Bk.set (Bk.set (Bk.set (Bk.set (Bk.set hR1 _ _) _ _) _ _) _ _) _ _) _ _) _ _))) ?_
    refine W.fin ?_
    refine E.next ?_
    refine C.seq ?_
    refine C.reg ?_
    refine W.y (y_move rfl) rfl ?_
    refine W.y (y_cutl (i := 5) rfl rfl Try.underlying24 siz5 (by omega)) rfl ?_
    refine W.y (y_assign rfl) rfl ?_
    refine W.fin ?_
    refine E.next ?_
    refine C.reg ?_
    refine W.y (y_move rfl) rfl ?_
    refine W.y (y_cutl (i := 8) rfl rfl Try.underlying24 siz5 (by omega)) rfl ?_
    refine W.y (y_assign rfl) rfl ?_
    refine W.fin ?_
    refine E.blockNormal ?_
    refine E.again (k + 1, (if c' - 8 * k = 8 then some ⟨g, off + 8 * k, none⟩ else (some ⟨g, off + 8 * k, none⟩ : Option Addr).map (·.add 8)), (if c - 5 * k = 5 then some ⟨sb, so + 5 * k, none⟩ else (some ⟨sb, so + 5 * k, none⟩ : Option Addr).map (·.add 5))) ⟨by omega, fun h => cut_addr (j := off + 8 * (k + 1)) (by omega) (by omega), fun h => cut_addr (j := so + 5 * (k + 1)) (by omega) (by omega), ?_, ?_, ?_⟩ (Sub.cons rfl (Sub.cons ?_ (Sub.cons ?_ (Sub.nil _)))) ?_
    · rw [letters_take32 al e0 e1 e2 e3 e4, bv_append, splice_append, hlb, group32 al b0 b1 b2 b3 b4 rfl rfl]
      exact Bk.set (Bk.set (Bk.set (Bk.set (Bk.set (Bk.set (Bk.set (Bk.set hR1 _ _) _ _) _ _) _ _) _ _) _ _) _ _) _ _
    · exact Kp.set (Kp.set (Kp.set (Kp.set (Kp.set (Kp.set (Kp.set (Kp.set (Kp.drew hK) (.inl rfl) _) (.inl rfl) _) (.inl rfl) _) (.inl rfl) _) (.inl rfl) _) (.inl rfl) _) (.inl rfl) _) (.inl rfl) _
    · simp only [World.size_setCell, World.size_drew]; exact hz
    · rw [show m - 8 * (k + 1) = m - 8 * k - 8 by omega, show c' - 8 * (k + 1) = c' - 8 * k - 8 by omega]; rfl
    · rw [show src.length - 5 * (k + 1) = src.length - 5 * k - 5 by omega, show c - 5 * (k + 1) = c - 5 * k - 5 by omega]; rfl
    · show src.length - 5 * (k + 1) < src.length - 5 * k; omega
  · by_cases hr : src.length = 5 * k
    · have et : Pl.text 5 8 al pad src = Pl.letters 5 al (src.take (5 * k)) := by rw [text_of_whole (by rw [hr, Pl.nlet_whole (k := 8 * k) (by omega) (by omega)]; omega), List.take_of_length_le (by omega)]
      refine C.seq ?_
      refine C.seq ?_
      refine C.reg ?_
      refine W.y (y_move rfl) rfl ?_
      refine W.y (y_len rfl Try.underlying24) rfl ?_
      refine W.y (y_geqF rfl rfl (by omega)) rfl ?_
      refine W.fin ?_
      refine E.next ?_
      refine C.no rfl ?_
      refine C.exit ?_
      refine E.thenExit ?_
      refine E.thenExit ?_
      refine E.blockOut ?_
      refine E.next ?_
      refine C.seq ?_
      refine C.seq ?_
      refine C.reg ?_
      refine W.y (y_move rfl) rfl ?_
      refine W.y (y_len rfl Try.underlying24) rfl ?_
      refine W.y (y_eqlT rfl rfl (by omega)) rfl ?_
      refine W.fin ?_
      refine E.next ?_
      refine C.yes rfl ?_
      refine C.ret ?_
      refine E.thenRet ?_
      exact E.ret0 rfl ⟨rfl, by rw [et]; exact hR, hK, hz⟩
    · have hl : 8 * k + ((src.length - 5 * k) * 8 / 5 + 1) ≤ encLen32 pad src.length := by unfold encLen32; split <;> omega
      obtain rfl := hDk (by omega)
      obtain rfl := hAk (by omega)
      refine C.seq ?_
      refine C.seq ?_
      refine C.reg ?_
      refine W.y (y_move rfl) rfl ?_
      refine W.y (y_len rfl Try.underlying24) rfl ?_
      refine W.y (y_geqF rfl rfl (by omega)) rfl ?_
      refine W.fin ?_
      refine E.next ?_
      refine C.no rfl ?_
      refine C.exit ?_
      refine E.thenExit ?_
      refine E.thenExit ?_
      refine E.blockOut ?_
      refine E.next ?_
      refine C.seq ?_
      refine C.seq ?_
      refine C.reg ?_
      refine W.y (y_move rfl) rfl ?_
      refine W.y (y_len rfl Try.underlying24) rfl ?_
      refine W.y (y_eqlF rfl rfl (by omega)) rfl ?_
      refine W.fin ?_
      refine E.next ?_
      refine C.no rfl ?_
      refine C.skip ?_
      refine E.next ?_
      refine C.seq ?_
      refine C.reg ?_
      refine W.y (y_assign rfl) rfl ?_
      refine W.fin ?_
      refine E.next ?_
      refine C.mid (σ := Unit) (fun _ w' => Bk w' g (splice ds off (bv (Pl.letters 5 al src))) td (0, 0) ∧ Kp (· = g) w w' ∧ w'.heap.size = w.heap.size) (fun _ => [(0, .pointer (some ⟨ge, 0, none⟩)), (1, .slice (some ⟨g, off + 8 * k, none⟩) (m - 8 * k) (c' - 8 * k)), (2, .slice (some ⟨sb, so + 5 * k, none⟩) (src.length - 5 * k) (c - 5 * k))]) ?_ ?_
      · have hr4 : src.length = 5 * k + 1 ∨ src.length = 5 * k + 2 ∨ src.length = 5 * k + 3 ∨ src.length = 5 * k + 4 := by omega
        rcases hr4 with hr4 | hr4 | hr4 | hr4
        · have et := letters_tail (bits := 5) (k := 8 * k) (by omega) al (src := src) (m := 5 * k) (by omega) (by omega)
          obtain ⟨b0, e0⟩ : ∃ b, src[5 * k]? = some b := ⟨_, List.getElem?_eq_getElem (by omega)⟩
          have t0 : b0.toNat < 256 := b0.toNat_lt
          have q0 : wr.cell? ⟨sb, so + 5 * k, none⟩ = some (u8 b0) := hBr (5 * k) b0 e0
          rw [drop1 hr4 e0] at et
          refine C.seq ?_
          refine C.reg ?_
          refine W.y (y_move rfl) rfl ?_
          refine W.y (y_len rfl Try.underlying24) rfl ?_
          refine W.fin ?_
          refine E.next ?_
          refine C.block ?_
          refine C.seq ?_
          refine C.block ?_
          refine C.seq ?_
          refine C.block ?_
          refine C.seq ?_
          refine C.block ?_
          refine C.seq ?_
          refine C.block ?_
          refine C.seq ?_
          refine C.seq ?_
          refine C.seq ?_
          refine C.reg ?_
          refine W.y (y_eqlF rfl rfl (by omega)) rfl ?_
          refine W.y (y_assign rfl) rfl ?_
          refine W.fin ?_
          refine E.next ?_
          refine C.no rfl ?_
          refine C.skip ?_
          refine E.next ?_
          refine C.seq ?_
          refine C.seq ?_
          refine C.reg ?_
          refine W.y (y_eqlF rfl rfl (by omega)) rfl ?_
          refine W.y (y_assign rfl) rfl ?_
          refine W.fin ?_
          refine E.next ?_
          refine C.no rfl ?_
          refine C.skip ?_
          refine E.next ?_
          refine C.seq ?_
          refine C.seq ?_
          refine C.reg ?_
          refine W.y (y_eqlF rfl rfl (by omega)) rfl ?_
          refine W.y (y_assign rfl) rfl ?_
          refine W.fin ?_
          refine E.next ?_
          refine C.no rfl ?_
          refine C.skip ?_
          refine E.next ?_
          refine C.seq ?_
          refine C.reg ?_
          refine W.y (y_eqlT rfl rfl (by omega)) rfl ?_
          refine W.y (y_assign rfl) rfl ?_
          refine W.fin ?_
          refine E.next ?_
          refine C.yes rfl ?_
          refine C.exit ?_
          refine E.thenExit ?_
          refine E.blockFar rfl ?_
          refine E.thenExit ?_
          refine E.blockFar rfl ?_
          refine E.thenExit ?_
          refine E.blockFar rfl ?_
          refine E.thenExit ?_
          refine E.blockOut ?_
          refine E.next ?_
          refine C.seq ?_
          refine C.seq ?_
          refine C.reg ?_
          refine W.y (y_move rfl) rfl ?_
          refine W.y (y_move rfl) rfl ?_
          refine W.y (y_ixn (i := 0) rfl rfl Try.underlying24 siz5 (by omega)) rfl ?_
          refine W.y (y_load rfl pl5 q0) rfl ?_
          refine W.y (y_convN uk32 rfl Try.underlying5 Try.underlying88 (by omega)) rfl ?_
          refine W.y (y_shl uk32 (s := 24) rfl rfl (by omega) (by omega)) rfl ?_
          refine W.y (y_join2 uk32 (a := 0) 24 rfl rfl (by omega) (by omega) (by omega) (by omega)) rfl ?_
          refine W.y (y_assign rfl) rfl ?_
          refine W.fin ?_
          refine E.next ?_
          refine C.seq ?_
          refine C.reg ?_
          refine W.y (y_move rfl) rfl ?_
          refine W.y (y_move rfl) rfl ?_
          refine W.y (y_move rfl) rfl ?_
          refine W.y (y_shr uk32 (s := 22) rfl rfl (by omega)) rfl ?_
          refine W.y (y_mask uk32 5 (b := 31) rfl rfl rfl (by omega) (by omega)) rfl ?_
          refine W.y (y_nilp rfl) rfl ?_
          refine W.y (y_field rfl fld87_0) rfl ?_
          refine W.y (y_ixa rfl rfl Try.underlying84 siz5 (by omega)) rfl ?_
          refine W.y (y_load rfl pl5 (Bk.at_ hEr (he.letter0 (by omega)))) rfl ?_
          refine W.y (y_ixn (i := 1) rfl rfl Try.underlying24 siz5 (by omega)) rfl ?_
          refine W.s (s_store rfl rfl rfl siz5 (Bk.some hR (by rw [splice_size]; omega)) (Bk.melt hR)) ?_
          refine W.fin ?_
          refine E.next ?_
          refine C.reg ?_
          refine W.y (y_move rfl) rfl ?_
          refine W.y (y_move rfl) rfl ?_
          refine W.y (y_move rfl) rfl ?_
          refine W.y (y_shr uk32 (s := 27) rfl rfl (by omega)) rfl ?_
          refine W.y (y_mask uk32 5 (b := 31) rfl rfl rfl (by omega) (by omega)) rfl ?_
          refine W.y (y_nilp rfl) rfl ?_
          refine W.y (y_field rfl fld87_0) rfl ?_
          refine W.y (y_ixa rfl rfl Try.underlying84 siz5 (by omega)) rfl ?_
          refine W.y (y_load rfl pl5 (Bk.at_ (Bk.ne hEr hne _) (he.letter0 (by omega)))) rfl ?_
          refine W.y (y_ixn (i := 0) rfl rfl Try.underlying24 siz5 (by omega)) rfl ?_
          refine W.s (s_store rfl rfl rfl siz5 (Bk.some (Bk.set hR _ _) (by simp only [Array.size_setIfInBounds, splice_size]; omega)) (Bk.melt (Bk.set hR _ _))) ?_
          refine W.fin ?_
          refine E.next ?_
          refine C.exit ?_
          refine E.blockOut ?_
          refine E.mid () ⟨?_, ?_, ?_⟩ (Sub.cons rfl (Sub.cons rfl (Sub.cons rfl (Sub.nil _))))
          · rw [et, bv_append, splice_append, hlb, tail32_1, ← rev2]
            exact Bk.set (Bk.set hR _ _) _ _
          · exact Kp.set (Kp.set hK (.inl rfl) _) (.inl rfl) _
          · simp only [World.size_setCell]; exact hz
        · have et := letters_tail (bits := 5) (k := 8 * k) (by omega) al (src := src) (m := 5 * k) (by omega) (by omega)
          obtain ⟨b0, e0⟩ : ∃ b, src[5 * k]? = some b := ⟨_, List.getElem?_eq_getElem (by omega)⟩
          have t0 : b0.toNat < 256 := b0.toNat_lt
          have q0 : wr.cell? ⟨sb, so + 5 * k, none⟩ = some (u8 b0) := hBr (5 * k) b0 e0
          obtain ⟨b1, e1⟩ : ∃ b, src[5 * k + 1]? = some b := ⟨_, List.getElem?_eq_getElem (by omega)⟩
          have t1 : b1.toNat < 256 := b1.toNat_lt
          have q1 : wr.cell? ⟨sb, so + 5 * k + 1, none⟩ = some (u8 b1) := by have := hBr (5 * k + 1) b1 e1; rwa [← Nat.add_assoc] at this
          rw [drop2 hr4 e0 e1] at et
          refine C.seq ?_
          refine C.reg ?_
          refine W.y (y_move rfl) rfl ?_
          refine W.y (y_len rfl Try.underlying24) rfl ?_
          refine W.fin ?_
          refine E.next ?_
          refine C.block ?_
          refine C.seq ?_
          refine C.block ?_
          refine C.seq ?_
          refine C.block ?_
          refine C.seq ?_
          refine C.block ?_
          refine C.seq ?_
          refine C.block ?_
          refine C.seq ?_
          refine C.seq ?_
          refine C.seq ?_
          refine C.reg ?_
          refine W.y (y_eqlF rfl rfl (by omega)) rfl ?_
          refine W.y (y_assign rfl) rfl ?_
          refine W.fin ?_
          refine E.next ?_
          refine C.no rfl ?_
          refine C.skip ?_
          refine E.next ?_
          refine C.seq ?_
          refine C.seq ?_
          refine C.reg ?_
          refine W.y (y_eqlF rfl rfl (by omega)) rfl ?_
          refine W.y (y_assign rfl) rfl ?_
          refine W.fin ?_
          refine E.next ?_
          refine C.no rfl ?_
          refine C.skip ?_
          refine E.next ?_
          refine C.seq ?_
          refine C.seq ?_
          refine C.reg ?_
          refine W.y (y_eqlT rfl rfl (by omega)) rfl ?_
          refine W.y (y_assign rfl) rfl ?_
          refine W.fin ?_
          refine E.next ?_
          refine C.yes rfl ?_
          refine C.exit ?_
          refine E.thenExit ?_
          refine E.thenExit ?_
          refine E.blockFar rfl ?_
          refine E.thenExit ?_
          refine E.blockFar rfl ?_
          refine E.thenExit ?_
          refine E.blockOut ?_
          refine E.next ?_
          refine C.seq ?_
          refine C.reg ?_
          refine W.y (y_move rfl) rfl ?_
          refine W.y (y_move rfl) rfl ?_
          refine W.y (y_ixn (i := 1) rfl rfl Try.underlying24 siz5 (by omega)) rfl ?_
          refine W.y (y_load rfl pl5 q1) rfl ?_
          refine W.y (y_convN uk32 rfl Try.underlying5 Try.underlying88 (by omega)) rfl ?_
          refine W.y (y_shl uk32 (s := 16) rfl rfl (by omega) (by omega)) rfl ?_
          refine W.y (y_join2 uk32 (a := 0) 16 rfl rfl (by omega) (by omega) (by omega) (by omega)) rfl ?_
          refine W.y (y_assign rfl) rfl ?_
          refine W.fin ?_
          refine E.next ?_
          refine C.seq ?_
          refine C.reg ?_
          refine W.y (y_move rfl) rfl ?_
          refine W.y (y_move rfl) rfl ?_
          refine W.y (y_move rfl) rfl ?_
          refine W.y (y_shr uk32 (s := 12) rfl rfl (by omega)) rfl ?_
          refine W.y (y_mask uk32 5 (b := 31) rfl rfl rfl (by omega) (by omega)) rfl ?_
          refine W.y (y_nilp rfl) rfl ?_
          refine W.y (y_field rfl fld87_0) rfl ?_
          refine W.y (y_ixa rfl rfl Try.underlying84 siz5 (by omega)) rfl ?_
          refine W.y (y_load rfl pl5 (Bk.at_ hEr (he.letter0 (by omega)))) rfl ?_
          refine W.y (y_ixn (i := 3) rfl rfl Try.underlying24 siz5 (by omega)) rfl ?_
          refine W.s (s_store rfl rfl rfl siz5 (Bk.some hR (by rw [splice_size]; omega)) (Bk.melt hR)) ?_
          refine W.fin ?_
          refine E.next ?_
          refine C.reg ?_
          refine W.y (y_move rfl) rfl ?_
          refine W.y (y_move rfl) rfl ?_
          refine W.y (y_move rfl) rfl ?_
          refine W.y (y_shr uk32 (s := 17) rfl rfl (by omega)) rfl ?_
          refine W.y (y_mask uk32 5 (b := 31) rfl rfl rfl (by omega) (by omega)) rfl ?_
          refine W.y (y_nilp rfl) rfl ?_
          refine W.y (y_field rfl fld87_0) rfl ?_
          refine W.y (y_ixa rfl rfl Try.underlying84 siz5 (by omega)) rfl ?_
          refine W.y (y_load rfl pl5 (Bk.at_ (Bk.ne hEr hne _) (he.letter0 (by omega)))) rfl ?_
          refine W.y (y_ixn (i := 2) rfl rfl Try.underlying24 siz5 (by omega)) rfl ?_
          refine W.s (s_store rfl rfl rfl siz5 (Bk.some (Bk.set hR _ _) (by simp only [Array.size_setIfInBounds, splice_size]; omega)) (Bk.melt (Bk.set hR _ _))) ?_
          refine W.fin ?_
          refine E.blockNormal ?_
          refine E.next ?_
          refine C.seq ?_
          refine C.seq ?_
          refine C.reg ?_
          refine W.y (y_move rfl) rfl ?_
          refine W.y (y_move rfl) rfl ?_
          refine W.y (y_ixn (i := 0) rfl rfl Try.underlying24 siz5 (by omega)) rfl ?_
          refine W.y (y_load rfl pl5 ((World.cell?_setCell_other _ _ _ _ (far_addr (by omega))).trans ((World.cell?_setCell_other _ _ _ _ (far_addr (by omega))).trans q0))) rfl ?_
          refine W.y (y_convN uk32 rfl Try.underlying5 Try.underlying88 (by omega)) rfl ?_
          refine W.y (y_shl uk32 (s := 24) rfl rfl (by omega) (by omega)) rfl ?_
          refine W.y (y_join2 uk32 24 rfl rfl (by omega) (by omega) (by omega) (by omega)) rfl ?_
          refine W.y (y_assign rfl) rfl ?_
          refine W.fin ?_
          refine E.next ?_
          refine C.seq ?_
          refine C.reg ?_
          refine W.y (y_move rfl) rfl ?_
          refine W.y (y_move rfl) rfl ?_
          refine W.y (y_move rfl) rfl ?_
          refine W.y (y_shr uk32 (s := 22) rfl rfl (by omega)) rfl ?_
          refine W.y (y_mask uk32 5 (b := 31) rfl rfl rfl (by omega) (by omega)) rfl ?_
          refine W.y (y_nilp rfl) rfl ?_
          refine W.y (y_field rfl fld87_0) rfl ?_
          refine W.y (y_ixa rfl rfl Try.underlying84 siz5 (by omega)) rfl ?_
          refine W.y (y_load rfl pl5 (Bk.at_ (Bk.ne (Bk.ne hEr hne _) hne _) (he.letter0 (by omega)))) rfl ?_
          refine W.y (y_ixn (i := 1) rfl rfl Try.underlying24 siz5 (by omega)) rfl ?_
          refine W.s (s_store rfl rfl rfl siz5 (Bk.some (Bk.set (Bk.set hR _ _) _ _) (by simp only [Array.size_setIfInBounds, splice_size]; omega)) (Bk.melt (Bk.set (Bk.set hR _ _) _ _))) ?_
          refine W.fin ?_
          refine E.next ?_
          refine C.reg ?_
          refine W.y (y_move rfl) rfl ?_
          refine W.y (y_move rfl) rfl ?_
          refine W.y (y_move rfl) rfl ?_
          refine W.y (y_shr uk32 (s := 27) rfl rfl (by omega)) rfl ?_
          refine W.y (y_mask uk32 5 (b := 31) rfl rfl rfl (by omega) (by omega)) rfl ?_
          refine W.y (y_nilp rfl) rfl ?_
          refine W.y (y_field rfl fld87_0) rfl ?_
          refine W.y (y_ixa rfl rfl Try.underlying84 siz5 (by omega)) rfl ?_
          refine W.y (y_load rfl pl5 (Bk.at_ (Bk.ne (Bk.ne (Bk.ne hEr hne _) hne _) hne _) (he.letter0 (by omega)))) rfl ?_
          refine W.y (y_ixn (i := 0) rfl rfl Try.underlying24 siz5 (by omega)) rfl ?_
          refine W.s (s_store rfl rfl rfl siz5 (Bk.some (Bk.set (Bk.set (Bk.set hR _ _) _ _) _ _) (by simp only [Array.size_setIfInBounds, splice_size]; omega)) (Bk.melt (Bk.set (Bk.set (Bk.set hR _ _) _ _) _ _))) ?_
          refine W.fin ?_
          refine E.next ?_
          refine C.exit ?_
          refine E.blockOut ?_
          refine E.mid () ⟨?_, ?_, ?_⟩ (Sub.cons rfl (Sub.cons rfl (Sub.cons rfl (Sub.nil _))))
          · rw [et, bv_append, splice_append, hlb, tail32_2, ← rev4]
            exact Bk.set (Bk.set (Bk.set (Bk.set hR _ _) _ _) _ _) _ _
          · exact Kp.set (Kp.set (Kp.set (Kp.set hK (.inl rfl) _) (.inl rfl) _) (.inl rfl) _) (.inl rfl) _
          · simp only [World.size_setCell]; exact hz
        · have et := letters_tail (bits := 5) (k := 8 * k) (by omega) al (src := src) (m := 5 * k) (by omega) (by omega)
          obtain ⟨b0, e0⟩ : ∃ b, src[5 * k]? = some b := ⟨_, List.getElem?_eq_getElem (by omega)⟩
          have t0 : b0.toNat < 256 := b0.toNat_lt
          have q0 : wr.cell? ⟨sb, so + 5 * k, none⟩ = some (u8 b0) := hBr (5 * k) b0 e0
          obtain ⟨b1, e1⟩ : ∃ b, src[5 * k + 1]? = some b := ⟨_, List.getElem?_eq_getElem (by omega)⟩
          have t1 : b1.toNat < 256 := b1.toNat_lt
          have q1 : wr.cell? ⟨sb, so + 5 * k + 1, none⟩ = some (u8 b1) := by have := hBr (5 * k + 1) b1 e1; rwa [← Nat.add_assoc] at this
          obtain ⟨b2, e2⟩ : ∃ b, src[5 * k + 2]? = some b := ⟨_, List.getElem?_eq_getElem (by omega)⟩
          have t2 : b2.toNat < 256 := b2.toNat_lt
          have q2 : wr.cell? ⟨sb, so + 5 * k + 2, none⟩ = some (u8 b2) := by have := hBr (5 * k + 2) b2 e2; rwa [← Nat.add_assoc] at this
          rw [drop3 hr4 e0 e1 e2] at et
          refine C.seq ?_
          refine C.reg ?_
          refine W.y (y_move rfl) rfl ?_
          refine W.y (y_len rfl Try.underlying24) rfl ?_
          refine W.fin ?_
          refine E.next ?_
          refine C.block ?_
          refine C.seq ?_
          refine C.block ?_
          refine C.seq ?_
          refine C.block ?_
          refine C.seq ?_
          refine C.block ?_
          refine C.seq ?_
          refine C.block ?_
          refine C.seq ?_
          refine C.seq ?_
          refine C.seq ?_
          refine C.reg ?_
          refine W.y (y_eqlF rfl rfl (by omega)) rfl ?_
          refine W.y (y_assign rfl) rfl ?_
          refine W.fin ?_
          refine E.next ?_
          refine C.no rfl ?_
          refine C.skip ?_
          refine E.next ?_
          refine C.seq ?_
          refine C.seq ?_
          refine C.reg ?_
          refine W.y (y_eqlT rfl rfl (by omega)) rfl ?_
          refine W.y (y_assign rfl) rfl ?_
          refine W.fin ?_
          refine E.next ?_
          refine C.yes rfl ?_
          refine C.exit ?_
          refine E.thenExit ?_
          refine E.thenExit ?_
          refine E.blockFar rfl ?_
          refine E.thenExit ?_
          refine E.blockOut ?_
          refine E.next ?_
          refine C.seq ?_
          refine C.reg ?_
          refine W.y (y_move rfl) rfl ?_
          refine W.y (y_move rfl) rfl ?_
          refine W.y (y_ixn (i := 2) rfl rfl Try.underlying24 siz5 (by omega)) rfl ?_
          refine W.y (y_load rfl pl5 q2) rfl ?_
          refine W.y (y_convN uk32 rfl Try.underlying5 Try.underlying88 (by omega)) rfl ?_
          refine W.y (y_shl uk32 (s := 8) rfl rfl (by omega) (by omega)) rfl ?_
          refine W.y (y_join2 uk32 (a := 0) 8 rfl rfl (by omega) (by omega) (by omega) (by omega)) rfl ?_
          refine W.y (y_assign rfl) rfl ?_
          refine W.fin ?_
          refine E.next ?_
          refine C.reg ?_
          refine W.y (y_move rfl) rfl ?_
          refine W.y (y_move rfl) rfl ?_
          refine W.y (y_move rfl) rfl ?_
          refine W.y (y_shr uk32 (s := 7) rfl rfl (by omega)) rfl ?_
          refine W.y (y_mask uk32 5 (b := 31) rfl rfl rfl (by omega) (by omega)) rfl ?_
          refine W.y (y_nilp rfl) rfl ?_
          refine W.y (y_field rfl fld87_0) rfl ?_
          refine W.y (y_ixa rfl rfl Try.underlying84 siz5 (by omega)) rfl ?_
          refine W.y (y_load rfl pl5 (Bk.at_ hEr (he.letter0 (by omega)))) rfl ?_
          refine W.y (y_ixn (i := 4) rfl rfl Try.underlying24 siz5 (by omega)) rfl ?_
          refine W.s (s_store rfl rfl rfl siz5 (Bk.some hR (by rw [splice_size]; omega)) (Bk.melt hR)) ?_
          refine W.fin ?_
          refine E.blockNormal ?_
          refine E.next ?_
          refine C.seq ?_
          refine C.reg ?_
          refine W.y (y_move rfl) rfl ?_
          refine W.y (y_move rfl) rfl ?_
          refine W.y (y_ixn (i := 1) rfl rfl Try.underlying24 siz5 (by omega)) rfl ?_
          refine W.y (y_load rfl pl5 ((World.cell?_setCell_other _ _ _ _ (far_addr (by omega))).trans q1)) rfl ?_
          refine W.y (y_convN uk32 rfl Try.underlying5 Try.underlying88 (by omega)) rfl ?_
          refine W.y (y_shl uk32 (s := 16) rfl rfl (by omega) (by omega)) rfl ?_
          refine W.y (y_join2 uk32 16 rfl rfl (by omega) (by omega) (by omega) (by omega)) rfl ?_
          refine W.y (y_assign rfl) rfl ?_
          refine W.fin ?_
          refine E.next ?_
          refine C.seq ?_
          refine C.reg ?_
          refine W.y (y_move rfl) rfl ?_
          refine W.y (y_move rfl) rfl ?_
          refine W.y (y_move rfl) rfl ?_
          refine W.y (y_shr uk32 (s := 12) rfl rfl (by omega)) rfl ?_
          refine W.y (y_mask uk32 5 (b := 31) rfl rfl rfl (by omega) (by omega)) rfl ?_
          refine W.y (y_nilp rfl) rfl ?_
          refine W.y (y_field rfl fld87_0) rfl ?_
          refine W.y (y_ixa rfl rfl Try.underlying84 siz5 (by omega)) rfl ?_
          refine W.y (y_load rfl pl5 (Bk.at_ (Bk.ne hEr hne _) (he.letter0 (by omega)))) rfl ?_
          refine W.y (y_ixn (i := 3) rfl rfl Try.underlying24 siz5 (by omega)) rfl ?_
          refine W.s (s_store rfl rfl rfl siz5 (Bk.some (Bk.set hR _ _) (by simp only [Array.size_setIfInBounds, splice_size]; omega)) (Bk.melt (Bk.set hR _ _))) ?_
          refine W.fin ?_
          refine E.next ?_
          refine C.reg ?_
          refine W.y (y_move rfl) rfl ?_
          refine W.y (y_move rfl) rfl ?_
          refine W.y (y_move rfl) rfl ?_
          refine W.y (y_shr uk32 (s := 17) rfl rfl (by omega)) rfl ?_
          refine W.y (y_mask uk32 5 (b := 31) rfl rfl rfl (by omega) (by omega)) rfl ?_
          refine W.y (y_nilp rfl) rfl ?_
          refine W.y (y_field rfl fld87_0) rfl ?_
          refine W.y (y_ixa rfl rfl Try.underlying84 siz5 (by omega)) rfl ?_
          refine W.y (y_load rfl pl5 (Bk.at_ (Bk.ne (Bk.ne hEr hne _) hne _) (he.letter0 (by omega)))) rfl ?_
          refine W.y (y_ixn (i := 2) rfl rfl Try.underlying24 siz5 (by omega)) rfl ?_
          refine W.s (s_store rfl rfl rfl siz5 (Bk.some (Bk.set (Bk.set hR _ _) _ _) (by simp only [Array.size_setIfInBounds, splice_size]; omega)) (Bk.melt (Bk.set (Bk.set hR _ _) _ _))) ?_
          refine W.fin ?_
          refine E.blockNormal ?_
          refine E.next ?_
          refine C.seq ?_
          refine C.seq ?_
          refine C.reg ?_
          refine W.y (y_move rfl) rfl ?_
          refine W.y (y_move rfl) rfl ?_
          refine W.y (y_ixn (i := 0) rfl rfl Try.underlying24 siz5 (by omega)) rfl ?_
          refine W.y (y_load rfl pl5 ((World.cell?_setCell_other _ _ _ _ (far_addr (by omega))).trans ((World.cell?_setCell_other _ _ _ _ (far_addr (by omega))).trans ((World.cell?_setCell_other _ _ _ _ (far_addr (by omega))).trans q0)))) rfl ?_
          refine W.y (y_convN uk32 rfl Try.underlying5 Try.underlying88 (by omega)) rfl ?_
          refine W.y (y_shl uk32 (s := 24) rfl rfl (by omega) (by omega)) rfl ?_
          refine W.y (y_join2 uk32 24 rfl rfl (by omega) (by omega) (by omega) (by omega)) rfl ?_
          refine W.y (y_assign rfl) rfl ?_
          refine W.fin ?_
          refine E.next ?_
          refine C.seq ?_
          refine C.reg ?_
          refine W.y (y_move rfl) rfl ?_
          refine W.y (y_move rfl) rfl ?_
          refine W.y (y_move rfl) rfl ?_
          refine W.y (y_shr uk32 (s := 22) rfl rfl (by omega)) rfl ?_
          refine W.y (y_mask uk32 5 (b := 31) rfl rfl rfl (by omega) (by omega)) rfl ?_
          refine W.y (y_nilp rfl) rfl ?_
          refine W.y (y_field rfl fld87_0) rfl ?_
          refine W.y (y_ixa rfl rfl Try.underlying84 siz5 (by omega)) rfl ?_
          refine W.y (y_load rfl pl5 (Bk.at_ (Bk.ne (Bk.ne (Bk.ne hEr hne _) hne _) hne _) (he.letter0 (by omega)))) rfl ?_
          refine W.y (y_ixn (i := 1) rfl rfl Try.underlying24 siz5 (by omega)) rfl ?_
          refine W.s (s_store rfl rfl rfl siz5 (Bk.some (Bk.set (Bk.set (Bk.set hR _ _) _ _) _ _) (by simp only [Array.size_setIfInBounds, splice_size]; omega)) (Bk.melt (Bk.set (Bk.set (Bk.set hR _ _) _ _) _ _))) ?_
          refine W.fin ?_
          refine E.next ?_
          refine C.reg ?_
          refine W.y (y_move rfl) rfl ?_
          refine W.y (y_move rfl) rfl ?_
          refine W.y (y_move rfl) rfl ?_
          refine W.y (y_shr uk32 (s := 27) rfl rfl (by omega)) rfl ?_
          refine W.y (y_mask uk32 5 (b := 31) rfl rfl rfl (by omega) (by omega)) rfl ?_
          refine W.y (y_nilp rfl) rfl ?_
          refine W.y (y_field rfl fld87_0) rfl ?_
          refine W.y (y_ixa rfl rfl Try.underlying84 siz5 (by omega)) rfl ?_
          refine W.y (y_load rfl pl5 (Bk.at_ (Bk.ne (Bk.ne (Bk.ne (Bk.ne hEr hne _) hne _) hne _) hne _) (he.letter0 (by omega)))) rfl ?_
          refine W.y (y_ixn (i := 0) rfl rfl Try.underlying24 siz5 (by omega)) rfl ?_
          refine W.s (s_store rfl rfl rfl siz5 (Bk.some (Bk.set (Bk.set (Bk.set (Bk.set hR _ _) _ _) _ _) _ _) (by simp only [Array.size_setIfInBounds, splice_size]; omega)) (Bk.melt (Bk.set (Bk.set (Bk.set (Bk.set hR _ _) _ _) _ _) _ _))) ?_
          refine W.fin ?_
          refine E.next ?_
          refine C.exit ?_
          refine E.blockOut ?_
          refine E.mid () ⟨?_, ?_, ?_⟩ (Sub.cons rfl (Sub.cons rfl (Sub.cons rfl (Sub.nil _))))
          · rw [et, bv_append, splice_append, hlb, tail32_3, ← rev5]
            exact Bk.set (Bk.set (Bk.set (Bk.set (Bk.set hR _ _) _ _) _ _) _ _) _ _
          · exact Kp.set (Kp.set (Kp.set (Kp.set (Kp.set hK (.inl rfl) _) (.inl rfl) _) (.inl rfl) _) (.inl rfl) _) (.inl rfl) _
          · simp only [World.size_setCell]; exact hz
        · have et := letters_tail (bits := 5) (k := 8 * k) (by omega) al (src := src) (m := 5 * k) (by omega) (by omega)
          obtain ⟨b0, e0⟩ : ∃ b, src[5 * k]? = some b := ⟨_, List.getElem?_eq_getElem (by omega)⟩
          have t0 : b0.toNat < 256 := b0.toNat_lt
          have q0 : wr.cell? ⟨sb, so + 5 * k, none⟩ = some (u8 b0) := hBr (5 * k) b0 e0
          obtain ⟨b1, e1⟩ : ∃ b, src[5 * k + 1]? = some b := ⟨_, List.getElem?_eq_getElem (by omega)⟩
          have t1 : b1.toNat < 256 := b1.toNat_lt
          have q1 : wr.cell? ⟨sb, so + 5 * k + 1, none⟩ = some (u8 b1) := by have := hBr (5 * k + 1) b1 e1; rwa [← Nat.add_assoc] at this
          obtain ⟨b2, e2⟩ : ∃ b, src[5 * k + 2]? = some b := ⟨_, List.getElem?_eq_getElem (by omega)⟩
          have t2 : b2.toNat < 256 := b2.toNat_lt
          have q2 : wr.cell? ⟨sb, so + 5 * k + 2, none⟩ = some (u8 b2) := by have := hBr (5 * k + 2) b2 e2; rwa [← Nat.add_assoc] at this
          obtain ⟨b3, e3⟩ : ∃ b, src[5 * k + 3]? = some b := ⟨_, List.getElem?_eq_getElem (by omega)⟩
          have t3 : b3.toNat < 256 := b3.toNat_lt
          have q3 : wr.cell? ⟨sb, so + 5 * k + 3, none⟩ = some (u8 b3) := by have := hBr (5 * k + 3) b3 e3; rwa [← Nat.add_assoc] at this
          rw [drop4 hr4 e0 e1 e2 e3] at et
          refine C.seq ?_
          refine C.reg ?_
          refine W.y (y_move rfl) rfl ?_
          refine W.y (y_len rfl Try.underlying24) rfl ?_
          refine W.fin ?_
          refine E.next ?_
          refine C.block ?_
          refine C.seq ?_
          refine C.block ?_
          refine C.seq ?_
          refine C.block ?_
          refine C.seq ?_
          refine C.block ?_
          refine C.seq ?_
          refine C.block ?_
          refine C.seq ?_
          refine C.seq ?_
          refine C.seq ?_
          refine C.reg ?_
          refine W.y (y_eqlT rfl rfl (by omega)) rfl ?_
          refine W.y (y_assign rfl) rfl ?_
          refine W.fin ?_
          refine E.next ?_
          refine C.yes rfl ?_
          refine C.exit ?_
          refine E.thenExit ?_
          refine E.thenExit ?_
          refine E.blockOut ?_
          refine E.next ?_
          refine C.seq ?_
          refine C.reg ?_
          refine W.y (y_move rfl) rfl ?_
          refine W.y (y_move rfl) rfl ?_
          refine W.y (y_ixn (i := 3) rfl rfl Try.underlying24 siz5 (by omega)) rfl ?_
          refine W.y (y_load rfl pl5 q3) rfl ?_
          refine W.y (y_convN uk32 rfl Try.underlying5 Try.underlying88 (by omega)) rfl ?_
          refine W.y (y_join2 uk32 (a := 0) 0 rfl rfl (by omega) (by omega) (by omega) (by omega)) rfl ?_
          refine W.y (y_assign rfl) rfl ?_
          refine W.fin ?_
          refine E.next ?_
          refine C.seq ?_
          refine C.reg ?_
          refine W.y (y_move rfl) rfl ?_
          refine W.y (y_move rfl) rfl ?_
          refine W.y (y_move rfl) rfl ?_
          refine W.y (y_shl uk32 (s := 3) rfl rfl (by omega) (by omega)) rfl ?_
          refine W.y (y_mask uk32 5 (b := 31) rfl rfl rfl (by omega) (by omega)) rfl ?_
          refine W.y (y_nilp rfl) rfl ?_
          refine W.y (y_field rfl fld87_0) rfl ?_
          refine W.y (y_ixa rfl rfl Try.underlying84 siz5 (by omega)) rfl ?_
          refine W.y (y_load rfl pl5 (Bk.at_ hEr (he.letter0 (by omega)))) rfl ?_
          refine W.y (y_ixn (i := 6) rfl rfl Try.underlying24 siz5 (by omega)) rfl ?_
          refine W.s (s_store rfl rfl rfl siz5 (Bk.some hR (by rw [splice_size]; omega)) (Bk.melt hR)) ?_
          refine W.fin ?_
          refine E.next ?_
          refine C.reg ?_
          refine W.y (y_move rfl) rfl ?_
          refine W.y (y_move rfl) rfl ?_
          refine W.y (y_move rfl) rfl ?_
          refine W.y (y_shr uk32 (s := 2) rfl rfl (by omega)) rfl ?_
          refine W.y (y_mask uk32 5 (b := 31) rfl rfl rfl (by omega) (by omega)) rfl ?_
          refine W.y (y_nilp rfl) rfl ?_
          refine W.y (y_field rfl fld87_0) rfl ?_
          refine W.y (y_ixa rfl rfl Try.underlying84 siz5 (by omega)) rfl ?_
          refine W.y (y_load rfl pl5 (Bk.at_ (Bk.ne hEr hne _) (he.letter0 (by omega)))) rfl ?_
          refine W.y (y_ixn (i := 5) rfl rfl Try.underlying24 siz5 (by omega)) rfl ?_
          refine W.s (s_store rfl rfl rfl siz5 (Bk.some (Bk.set hR _ _) (by simp only [Array.size_setIfInBounds, splice_size]; omega)) (Bk.melt (Bk.set hR _ _))) ?_
          refine W.fin ?_
          refine E.blockNormal ?_
          refine E.next ?_
          refine C.seq ?_
          refine C.reg ?_
          refine W.y (y_move rfl) rfl ?_
          refine W.y (y_move rfl) rfl ?_
          refine W.y (y_ixn (i := 2) rfl rfl Try.underlying24 siz5 (by omega)) rfl ?_
          refine W.y (y_load rfl pl5 ((World.cell?_setCell_other _ _ _ _ (far_addr (by omega))).trans ((World.cell?_setCell_other _ _ _ _ (far_addr (by omega))).trans q2))) rfl ?_
          refine W.y (y_convN uk32 rfl Try.underlying5 Try.underlying88 (by omega)) rfl ?_
          refine W.y (y_shl uk32 (s := 8) rfl rfl (by omega) (by omega)) rfl ?_
          refine W.y (y_join2 uk32 8 rfl rfl (by omega) (by omega) (by omega) (by omega)) rfl ?_
          refine W.y (y_assign rfl) rfl ?_
          refine W.fin ?_
          refine E.next ?_
          refine C.reg ?_
          refine W.y (y_move rfl) rfl ?_
          refine W.y (y_move rfl) rfl ?_
          refine W.y (y_move rfl) rfl ?_
          refine W.y (y_shr uk32 (s := 7) rfl rfl (by omega)) rfl ?_
          refine W.y (y_mask uk32 5 (b := 31) rfl rfl rfl (by omega) (by omega)) rfl ?_
          refine W.y (y_nilp rfl) rfl ?_
          refine W.y (y_field rfl fld87_0) rfl ?_
          refine W.y (y_ixa rfl rfl Try.underlying84 siz5 (by omega)) rfl ?_
          refine W.y (y_load rfl pl5 (Bk.at_ (Bk.ne (Bk.ne hEr hne _) hne _) (he.letter0 (by omega)))) rfl ?_
          refine W.y (y_ixn (i := 4) rfl rfl Try.underlying24 siz5 (by omega)) rfl ?_
          refine W.s (s_store rfl rfl rfl siz5 (Bk.some (Bk.set (Bk.set hR _ _) _ _) (by simp only [Array.size_setIfInBounds, splice_size]; omega)) (Bk.melt (Bk.set (Bk.set hR _ _) _ _))) ?_
          refine W.fin ?_
          refine E.blockNormal ?_
          refine E.next ?_
          refine C.seq ?_
          refine C.reg ?_
          refine W.y (y_move rfl) rfl ?_
          refine W.y (y_move rfl) rfl ?_
          refine W.y (y_ixn (i := 1) rfl rfl Try.underlying24 siz5 (by omega)) rfl ?_
          refine W.y (y_load rfl pl5 ((World.cell?_setCell_other _ _ _ _ (far_addr (by omega))).trans ((World.cell?_setCell_other _ _ _ _ (far_addr (by omega))).trans ((World.cell?_setCell_other _ _ _ _ (far_addr (by omega))).trans q1)))) rfl ?_
          refine W.y (y_convN uk32 rfl Try.underlying5 Try.underlying88 (by omega)) rfl ?_
          refine W.y (y_shl uk32 (s := 16) rfl rfl (by omega) (by omega)) rfl ?_
          refine W.y (y_join2 uk32 16 rfl rfl (by omega) (by omega) (by omega) (by omega)) rfl ?_
          refine W.y (y_assign rfl) rfl ?_
          refine W.fin ?_
          refine E.next ?_
          refine C.seq ?_
          refine C.reg ?_
          refine W.y (y_move rfl) rfl ?_
          refine W.y (y_move rfl) rfl ?_
          refine W.y (y_move rfl) rfl ?_
          refine W.y (y_shr uk32 (s := 12) rfl rfl (by omega)) rfl ?_
          refine W.y (y_mask uk32 5 (b := 31) rfl rfl rfl (by omega) (by omega)) rfl ?_
          refine W.y (y_nilp rfl) rfl ?_
          refine W.y (y_field rfl fld87_0) rfl ?_
          refine W.y (y_ixa rfl rfl Try.underlying84 siz5 (by omega)) rfl ?_
          refine W.y (y_load rfl pl5 (Bk.at_ (Bk.ne (Bk.ne (Bk.ne hEr hne _) hne _) hne _) (he.letter0 (by omega)))) rfl ?_
          refine W.y (y_ixn (i := 3) rfl rfl Try.underlying24 siz5 (by omega)) rfl ?_
          refine W.s (s_store rfl rfl rfl siz5 (Bk.some (Bk.set (Bk.set (Bk.set hR _ _) _ _) _ _) (by simp only [Array.size_setIfInBounds, splice_size]; omega)) (Bk.melt (Bk.set (Bk.set (Bk.set hR _ _) _ _) _ _))) ?_
          refine W.fin ?_
          refine E.next ?_
          refine C.reg ?_
          refine W.y (y_move rfl) rfl ?_
          refine W.y (y_move rfl) rfl ?_
          refine W.y (y_move rfl) rfl ?_
          refine W.y (y_shr uk32 (s := 17) rfl rfl (by omega)) rfl ?_
          refine W.y (y_mask uk32 5 (b := 31) rfl rfl rfl (by omega) (by omega)) rfl ?_
          refine W.y (y_nilp rfl) rfl ?_
          refine W.y (y_field rfl fld87_0) rfl ?_
          refine W.y (y_ixa rfl rfl Try.underlying84 siz5 (by omega)) rfl ?_
          refine W.y (y_load rfl pl5 (Bk.at_ (Bk.ne (Bk.ne (Bk.ne (Bk.ne hEr hne _) hne _) hne _) hne _) (he.letter0 (by omega)))) rfl ?_
          refine W.y (y_ixn (i := 2) rfl rfl Try.underlying24 siz5 (by omega)) rfl ?_
          refine W.s (s_store rfl rfl rfl siz5 (Bk.some (Bk.set (Bk.set (Bk.set (Bk.set hR _ _) _ _) _ _) _ _) (by simp only [Array.size_setIfInBounds, splice_size]; omega)) (Bk.melt (Bk.set (Bk.set (Bk.set (Bk.set hR _ _) _ _) _ _) _ _))) ?_
          refine W.fin ?_
          refine E.blockNormal ?_
          refine E.next ?_
          refine C.seq ?_
          refine C.seq ?_
          refine C.reg ?_
          refine W.y (y_move rfl) rfl ?_
          refine W.y (y_move rfl) rfl ?_
          refine W.y (y_ixn (i := 0) rfl rfl Try.underlying24 siz5 (by omega)) rfl ?_
          refine W.y (y_load rfl pl5 ((World.cell?_setCell_other _ _ _ _ (far_addr (by omega))).trans ((World.cell?_setCell_other _ _ _ _ (far_addr (by omega))).trans ((World.cell?_setCell_other _ _ _ _ (far_addr (by omega))).trans ((World.cell?_setCell_other _ _ _ _ (far_addr (by omega))).trans ((World.cell?_setCell_other _ _ _ _ (far_addr (by omega))).trans q0)))))) rfl ?_
          refine W.y (y_convN uk32 rfl Try.underlying5 Try.underlying88 (by omega)) rfl ?_
          refine W.y (y_shl uk32 (s := 24) rfl rfl (by omega) (by omega)) rfl ?_
          refine W.y (y_join2 uk32 24 rfl rfl (by omega) (by omega) (by omega) (by omega)) rfl ?_
          refine W.y (y_assign rfl) rfl ?_
          refine W.fin ?_
          refine E.next ?_
          refine C.seq ?_
          refine C.reg ?_
          refine W.y (y_move rfl) rfl ?_
          refine W.y (y_move rfl) rfl ?_
          refine W.y (y_move rfl) rfl ?_
          refine W.y (y_shr uk32 (s := 22) rfl rfl (by omega)) rfl ?_
          refine W.y (y_mask uk32 5 (b := 31) rfl rfl rfl (by omega) (by omega)) rfl ?_
          refine W.y (y_nilp rfl) rfl ?_
          refine W.y (y_field rfl fld87_0) rfl ?_
          refine W.y (y_ixa rfl rfl Try.underlying84 siz5 (by omega)) rfl ?_
          refine W.y (y_load rfl pl5 (Bk.at_ (Bk.ne (Bk.ne (Bk.ne (Bk.ne (Bk.ne hEr hne _) hne _) hne _) hne _) hne _) (he.letter0 (by omega)))) rfl ?_
          refine W.y (y_ixn (i := 1) rfl rfl Try.underlying24 siz5 (by omega)) rfl ?_
          refine W.s (s_store rfl rfl rfl siz5 (Bk.some (Bk.set (Bk.set (Bk.set (Bk.set (Bk.set hR _ _) _ _) _ _) _ _) _ _) (by simp only [Array.size_setIfInBounds, splice_size]; omega)) (Bk.melt (Bk.set (Bk.set (Bk.set (Bk.set (Bk.set hR _ _) _ _) _ _) _ _) _ _))) ?_
          refine W.fin ?_
          refine E.next ?_
          refine C.reg ?_
          refine W.y (y_move rfl) rfl ?_
          refine W.y (y_move rfl) rfl ?_
          refine W.y (y_move rfl) rfl ?_
          refine W.y (y_shr uk32 (s := 27) rfl rfl (by omega)) rfl ?_
          refine W.y (y_mask uk32 5 (b := 31) rfl rfl rfl (by omega) (by omega)) rfl ?_
          refine W.y (y_nilp rfl) rfl ?_
          refine W.y (y_field rfl fld87_0) rfl ?_
          refine W.y (y_ixa rfl rfl Try.underlying84 siz5 (by omega)) rfl ?_
          refine W.y (y_load rfl pl5 (Bk.at_ (Bk.ne (Bk.ne (Bk.ne (Bk.ne (Bk.ne (Bk.ne hEr hne _) hne _) hne _) hne _) hne _) hne _) (he.letter0 (by omega)))) rfl ?_
          refine W.y (y_ixn (i := 0) rfl rfl Try.underlying24 siz5 (by omega)) rfl ?_
          refine W.s (s_store rfl rfl rfl siz5 (Bk.some (Bk.set (Bk.set (Bk.set (Bk.set (Bk.set (Bk.set hR _ _) _ _) _ _) _ _) _ _) _ _) (by simp only [Array.size_setIfInBounds, splice_size]; omega)) (Bk.melt (Bk.set (Bk.set (Bk.set (Bk.set (Bk.set (Bk.set hR _ _) _ _) _ _) _ _) _ _) _ _))) ?_
          refine W.fin ?_
          refine E.next ?_
          refine C.exit ?_
          refine E.blockOut ?_
          refine E.mid () ⟨?_, ?_, ?_⟩ (Sub.cons rfl (Sub.cons rfl (Sub.cons rfl (Sub.nil _))))
          · rw [et, bv_append, splice_append, hlb, tail32_4, ← rev7]
            exact Bk.set (Bk.set (Bk.set (Bk.set (Bk.set (Bk.set (Bk.set hR _ _) _ _) _ _) _ _) _ _) _ _) _ _
          · exact Kp.set (Kp.set (Kp.set (Kp.set (Kp.set (Kp.set (Kp.set hK (.inl rfl) _) (.inl rfl) _) (.inl rfl) _) (.inl rfl) _) (.inl rfl) _) (.inl rfl) _) (.inl rfl) _
          · simp only [World.size_setCell]; exact hz
      rintro _ wm ⟨hRm, hKm, hzm⟩
      show C _ _ _ _ [(0, .pointer (some ⟨ge, 0, none⟩)), (1, .slice (some ⟨g, off + 8 * k, none⟩) (m - 8 * k) (c' - 8 * k)), (2, .slice (some ⟨sb, so + 5 * k, none⟩) (src.length - 5 * k) (c - 5 * k))] _
      have hEm : Bk wm ge cs te fz := hE.kept hKm hne
      have hln : (bv (Pl.letters 5 al src)).length = 8 * k + ((src.length - 5 * k) * 8 / 5 + 1) := by rw [bv_length, Pl.letters_length]; unfold Pl.nlet; omega
      have hnl : Pl.nlet 5 src.length = 8 * k + ((src.length - 5 * k) * 8 / 5 + 1) := by rw [← hln, bv_length, Pl.letters_length]
      have hnb : (src.length - 5 * k) * 8 / 5 + 1 ≤ 7 ∧ 2 ≤ (src.length - 5 * k) * 8 / 5 + 1 := by omega
      by_cases hp : pad = -1
      · have et : Pl.text 5 8 al pad src = Pl.letters 5 al src := by rw [hp]; exact text_nopad
        refine C.seq ?_
        refine C.reg ?_
        refine W.y (y_move rfl) rfl ?_
        refine W.y (y_nilp rfl) rfl ?_
        refine W.y (y_field rfl fld87_2) rfl ?_
        refine W.y (y_load rfl pl21 (hEm.at_ he.pad_)) rfl ?_
        refine W.y (y_neqF rfl rfl (by omega)) rfl ?_
        refine W.fin ?_
        refine E.next ?_
        refine C.no rfl ?_
        refine C.skip ?_
        exact E.end0 rfl ⟨rfl, by rw [et]; exact hRm, hKm, hzm⟩
      · have hl2 : 8 * k + 8 ≤ encLen32 pad src.length := by unfold encLen32; rw [if_neg hp]; omega
        refine C.seq ?_
        refine C.reg ?_
        refine W.y (y_move rfl) rfl ?_
        refine W.y (y_nilp rfl) rfl ?_
        refine W.y (y_field rfl fld87_2) rfl ?_
        refine W.y (y_load rfl pl21 (hEm.at_ he.pad_)) rfl ?_
        refine W.y (y_neqT rfl rfl (by omega)) rfl ?_
        refine W.fin ?_
        refine E.next ?_
        refine C.yes rfl ?_
        refine C.seq ?_
        refine C.reg ?_
        refine W.y (y_move rfl) rfl ?_
        refine W.y (y_len rfl Try.underlying24) rfl ?_
        refine W.y (y_mul rfl rfl (wi64 (by omega) (by omega))) rfl ?_
        refine W.y (y_quo rfl rfl (by omega) (by omega) (by omega)) rfl ?_
        refine W.y (y_add rfl rfl (wi64 (by omega) (by omega))) rfl ?_
        refine W.y (y_assign rfl) rfl ?_
        refine W.fin ?_
        refine E.next ?_
        refine C.seq ?_
        refine C.reg ?_
        refine W.y (y_move rfl) rfl ?_
        refine W.y (y_assign rfl) rfl ?_
        refine W.fin ?_
        refine E.next ?_
        refine C.block ?_
        refine C.loop (σ := Nat) (fun i w' => (src.length - 5 * k) * 8 / 5 + 1 ≤ i ∧ i ≤ 8 ∧ Bk w' g (splice ds off (bv (Pl.letters 5 al src) ++ List.replicate (i - ((src.length - 5 * k) * 8 / 5 + 1)) (u8 (UInt8.ofNat pad.toNat)))) td (0, 0) ∧ Kp (· = g) w w' ∧ w'.heap.size = w.heap.size) (fun i => [(0, .pointer (some ⟨ge, 0, none⟩)), (1, .slice (some ⟨g, off + 8 * k, none⟩) (m - 8 * k) (c' - 8 * k)), (10, .int .i64 (i : Int))]) (fun i => 8 - i) ((src.length - 5 * k) * 8 / 5 + 1) ?_ ?_ ?_
        · exact ⟨by omega, by omega, by simpa using hRm, hKm, hzm⟩
        · exact (Sub.cons rfl (Sub.cons rfl (Sub.cons (congrArg (fun z => some (Value.int .i64 z)) (by omega)) (Sub.nil _))))
        rintro i wi ⟨hi0, hi8, hRi, hKi, hzi⟩
        show C _ _ _ _ [(0, .pointer (some ⟨ge, 0, none⟩)), (1, .slice (some ⟨g, off + 8 * k, none⟩) (m - 8 * k) (c' - 8 * k)), (10, .int .i64 (i : Int))] _
        have hEi : Bk wi ge cs te fz := hE.kept hKi hne
        by_cases h8 : i < 8
        · skip
          refine C.seq ?_
          refine C.seq ?_
          refine C.reg ?_
          refine W.y (y_move rfl) rfl ?_
          refine W.y (y_lssT rfl rfl (by omega)) rfl ?_
          refine W.fin ?_
          refine E.next ?_
          refine C.yes rfl ?_
          refine C.skip ?_
          refine E.next ?_
          refine C.seq ?_
          refine C.block ?_
          refine C.reg ?_
          refine W.y (y_move rfl) rfl ?_
          refine W.y (y_move rfl) rfl ?_
          refine W.y (y_move rfl) rfl ?_
          refine W.y (y_nilp rfl) rfl ?_
          refine W.y (y_field rfl fld87_2) rfl ?_
          refine W.y (y_load rfl pl21 (hEi.at_ he.pad_)) rfl ?_
          refine W.y (y_conv (r := (((UInt8.ofNat pad.toNat).toNat : Nat) : Int)) rfl Try.underlying21 Try.underlying5 (pad_u8 (by omega) hp1)) rfl ?_
          refine W.y (y_ixn rfl rfl Try.underlying24 siz5 (by omega)) rfl ?_
          refine W.s (s_store rfl rfl rfl siz5 (Bk.some hRi (by rw [splice_size]; omega)) (Bk.melt hRi)) ?_
          refine W.fin ?_
          refine E.blockNormal ?_
          refine E.next ?_
          refine C.reg ?_
          refine W.y (y_move rfl) rfl ?_
          refine W.y (y_add rfl rfl (wi64 (by omega) (by omega))) rfl ?_
          refine W.y (y_assign rfl) rfl ?_
          refine W.fin ?_
          refine E.again (i + 1) ⟨by omega, by omega, ?_, Kp.set hKi (.inl rfl) _, by simp only [World.size_setCell]; exact hzi⟩ (Sub.cons rfl (Sub.cons rfl (Sub.cons rfl (Sub.nil _)))) (by omega)
          rw [show i + 1 - ((src.length - 5 * k) * 8 / 5 + 1) = (i - ((src.length - 5 * k) * 8 / 5 + 1)) + 1 by omega, List.replicate_succ', ← List.append_assoc, splice_append]
          have hle : off + (bv (Pl.letters 5 al src) ++ List.replicate (i - ((src.length - 5 * k) * 8 / 5 + 1)) (u8 (UInt8.ofNat pad.toNat))).length = off + 8 * k + i := by rw [List.length_append, hln, List.length_replicate]; omega
          rw [hle]
          exact Bk.set hRi _ _
        · have hpn : Pl.padn 8 (Pl.nlet 5 src.length) = i - ((src.length - 5 * k) * 8 / 5 + 1) := by rw [hnl]; unfold Pl.padn; generalize (src.length - 5 * k) * 8 / 5 + 1 = nl at *; omega
          refine C.seq ?_
          refine C.seq ?_
          refine C.reg ?_
          refine W.y (y_move rfl) rfl ?_
          refine W.y (y_lssF rfl rfl (by omega)) rfl ?_
          refine W.fin ?_
          refine E.next ?_
          refine C.no rfl ?_
          refine C.exit ?_
          refine E.thenExit ?_
          refine E.thenExit ?_
          refine E.blockOut ?_
          exact E.end0 rfl ⟨rfl, by rw [text_pad (by omega) hpn]; exact hRi, hKi, hzi⟩
theorem encode32_at {n : Nat} {w : World} {ge g off m c' c sb so : Nat} {A : Option Addr} {cs ds : Array Value} {te td : TypeId} {fz : Nat × Nat} {al : List UInt8} {pad : Int} {src : List UInt8}
    (hE : Bk w ge cs te fz) (he : EncC 32 cs al pad) (hp0 : -1 ≤ pad) (hp1 : pad ≤ 255) (hD : Bk w g ds td (0, 0)) (hne : ge ≠ g) (hS : src.length = 0 ∨ (A = some ⟨sb, so, none⟩ ∧ Bs w sb so src)) (hsn : src.length = n) (hc : src.length ≤ c)
    (hmc : m ≤ c') (hm : encLen32 pad src.length ≤ m) (ho : off + m ≤ ds.size) (hap : sb ≠ g ∨ so + src.length ≤ off ∨ off + m ≤ so) (hn : src.length ≤ 140737488351232) :
    Ret Try.prog 44 #[.pointer (some ⟨ge, 0, none⟩), .slice (some ⟨g, off, none⟩) m c', .slice A n c] w fun v w' => v = .tuple #[] ∧ Bk w' g (splice ds off (bv (Pl.text 5 8 al pad src))) td (0, 0) ∧ Kp (· = g) w w' ∧ w'.heap.size = w.heap.size := by
  subst hsn
  exact encode32_ret hE he hp0 hp1 hD hne hS hc hmc hm ho hap hn
end Go.Proofs.Ytlbnglmfbnnhjaa
