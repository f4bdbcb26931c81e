/-
  Walks: EncodedLen, Encode.
-/
import Derived.Test.YtmbglgepomeilaaTy
namespace Go.Proofs.Ytmbglgepomeilaa
open Go.RowKit
theorem encodedLen64_ret {w : World} {ge : Nat} {cs : Array Value} {te : TypeId} {fz : Nat × Nat} {al : List UInt8} {pad : Int} {m : Nat} (hb : Bk w ge cs te fz) (he : EncC 64 cs al pad) (hm : m ≤ 140737488351232) :
    Ret Try.prog 45 #[.pointer (some ⟨ge, 0, none⟩), .int .i64 (m : Int)] w fun v w' => v = .int .i64 ((encLen64 pad m : Nat) : Int) ∧ w = w' := by
  refine ret_of Try.func45 rfl Try.ntmps45 (Nat.le_of_ble_eq_true rfl) ?_
  refine C.seq ?_
  refine C.reg ?_
  refine W.y (y_assign rfl) rfl ?_
  refine W.fin ?_
  refine E.next ?_
  refine C.seq ?_
  refine C.seq ?_
  refine C.reg ?_
  refine W.y (y_move rfl) rfl ?_
  refine W.y (y_nilp rfl) rfl ?_
  refine W.y (y_field rfl fld85_2) rfl ?_
  refine W.y (y_load rfl pl21 (hb.at_ he.pad_)) rfl ?_
  refine W.y (y_eql rfl rfl) rfl ?_
  refine W.fin ?_
  refine E.next ?_
  refine C.if_ rfl (fun h => ?_) (fun h => ?_)
  · refine C.seq ?_
    refine C.reg ?_
    refine W.y (y_move rfl) rfl ?_
    refine W.y (y_quo rfl rfl (by omega) (by omega) (by omega)) rfl ?_
    refine W.y (y_mul rfl rfl (wi64 (by omega) (by omega))) rfl ?_
    refine W.y (y_move rfl) rfl ?_
    refine W.y (y_rem rfl rfl (by omega) (by omega)) rfl ?_
    refine W.y (y_mul rfl rfl (wi64 (by omega) (by omega))) rfl ?_
    refine W.y (y_add rfl rfl (wi64 (by omega) (by omega))) rfl ?_
    refine W.y (y_quo rfl rfl (by omega) (by omega) (by omega)) rfl ?_
    refine W.y (y_add rfl rfl (wi64 (by omega) (by omega))) rfl ?_
    refine W.y (y_assign rfl) rfl ?_
    refine W.fin ?_
    refine E.next ?_
    refine C.ret ?_
    refine E.thenRet ?_
    exact E.ret1 rfl rfl ⟨congrArg (Value.int .i64) (by unfold encLen64; rw [if_pos h]; omega), rfl⟩
  · refine C.skip ?_
    refine E.next ?_
    refine C.seq ?_
    refine C.reg ?_
    refine W.y (y_move rfl) rfl ?_
    refine W.y (y_add rfl rfl (wi64 (by omega) (by omega))) rfl ?_
    refine W.y (y_quo rfl rfl (by omega) (by omega) (by omega)) rfl ?_
    refine W.y (y_mul rfl rfl (wi64 (by omega) (by omega))) rfl ?_
    refine W.y (y_assign rfl) rfl ?_
    refine W.fin ?_
    refine E.next ?_
    refine C.ret ?_
    exact E.ret1 rfl rfl ⟨congrArg (Value.int .i64) (by unfold encLen64; rw [if_neg h]; omega), rfl⟩
set_option maxRecDepth 4000 in
set_option maxHeartbeats 4000000 in
theorem encode64_ret {w : World} {ge g off m c' c sb so : Nat} {A : Option Addr} {cs ds : Array Value} {te td : TypeId} {fz : Nat × Nat} {al : List UInt8} {pad : Int} {src : List UInt8}
    (hE : Bk w ge cs te fz) (he : EncC 64 cs al pad) (hp0 : -1 ≤ pad) (hp1 : pad ≤ 255) (hD : Bk w g ds td (0, 0)) (hne : ge ≠ g) (hS : src.length = 0 ∨ (A = some ⟨sb, so, none⟩ ∧ Bs w sb so src)) (hc : src.length ≤ c)
    (hmc : m ≤ c') (hm : encLen64 pad src.length ≤ m) (ho : off + m ≤ ds.size) (hap : sb ≠ g ∨ so + src.length ≤ off ∨ off + m ≤ so) (hn : src.length ≤ 140737488351232) :
    Ret Try.prog 46 #[.pointer (some ⟨ge, 0, none⟩), .slice (some ⟨g, off, none⟩) m c', .slice A src.length c] w fun v w' => v = .tuple #[] ∧ Bk w' g (splice ds off (bv (Pl.text 6 4 al pad src))) td (0, 0) ∧ Kp (· = g) w w' ∧ w'.heap.size = w.heap.size := by
  by_cases h0 : src.length = 0
  · have e : src = [] := List.eq_nil_of_length_eq_zero h0
    have et : Pl.text 6 4 al pad src = [] := by rw [e, text_of_whole (by simp [Pl.nlet])]; rfl
    refine ret_of Try.func46 rfl Try.ntmps46 (Nat.le_of_ble_eq_true rfl) ?_
    refine C.seq ?_
    refine C.seq ?_
    refine C.reg ?_
    refine W.y (y_move rfl) rfl ?_
    refine W.y (y_len rfl Try.underlying24) rfl ?_
    refine W.y (y_eqlT rfl rfl (by omega)) rfl ?_
    refine W.fin ?_
    refine E.next ?_
    refine C.yes rfl ?_
    refine C.ret ?_
    refine E.thenRet ?_
    exact E.ret0 rfl ⟨rfl, by rw [et]; exact hD, Kp.refl _ _, rfl⟩
  obtain ⟨rfl, hB⟩ := hS.resolve_left h0
  refine ret_of Try.func46 rfl Try.ntmps46 (Nat.le_of_ble_eq_true rfl) ?_
  refine C.seq ?_
  refine C.seq ?_
  refine C.reg ?_
  refine W.y (y_move rfl) rfl ?_
  refine W.y (y_len rfl Try.underlying24) rfl ?_
  refine W.y (y_eqlF rfl rfl (by omega)) rfl ?_
  refine W.fin ?_
  refine E.next ?_
  refine C.no rfl ?_
  refine C.skip ?_
  refine E.next ?_
  refine C.seq ?_
  refine C.reg ?_
  refine W.y (y_move rfl) rfl ?_
  refine W.y (y_nilp rfl) rfl ?_
  refine W.y (y_field rfl fld85_0) rfl ?_
  refine W.y (y_loadRow rfl Try.underlying82 siz82 hE (by have := he.size; omega)) rfl ?_
  refine W.fin ?_
  refine E.next ?_
  refine C.seq ?_
  refine C.block ?_
  refine C.loop (σ := Nat × Option Addr × Option Addr) (fun (k, D, A) w' => 3 * k ≤ src.length ∧ (4 * k < c' → D = some ⟨g, off + 4 * k, none⟩) ∧ (3 * k < c → A = some ⟨sb, so + 3 * k, none⟩) ∧ Bk w' g (splice ds off (bv (Pl.letters 6 al (src.take (3 * k))))) td (0, 0) ∧ Kp (· = g) w w' ∧ w'.heap.size = w.heap.size) (fun (k, D, A) => [(0, .pointer (some ⟨ge, 0, none⟩)), (1, .slice D (m - 4 * k) (c' - 4 * k)), (2, .slice A (src.length - 3 * k) (c - 3 * k))]) (fun (k, _, _) => src.length - 3 * k) (0, some ⟨g, off, none⟩, some ⟨sb, so, none⟩) ?_ ?_ ?_
  · exact ⟨by omega, fun _ => rfl, fun _ => rfl, by simpa [Pl.letters, Pl.nums, Pl.nlet, bv, splice] using hD, Kp.refl _ _, rfl⟩
  · exact (Sub.cons rfl (Sub.cons rfl (Sub.cons rfl (Sub.nil _))))
  rintro ⟨k, D, A⟩ wr ⟨hk, hDk, hAk, hR, hK, hz⟩
  show C _ _ _ _ [(0, .pointer (some ⟨ge, 0, none⟩)), (1, .slice D (m - 4 * k) (c' - 4 * k)), (2, .slice A (src.length - 3 * k) (c - 3 * k))] _
  have hlk : (Pl.letters 6 al (src.take (3 * k))).length = 4 * k := letters_len64 (by rw [List.length_take]; omega)
  have hlb : (bv (Pl.letters 6 al (src.take (3 * k)))).length = 4 * k := by rw [bv_length, hlk]
  have hl4 : 4 * k ≤ encLen64 pad src.length := by unfold encLen64; split <;> omega
  have hEr : Bk wr ge cs te fz := hE.kept hK hne
  have hBr : Bs wr sb so src := hB.splice hD hR hK (by omega) (by omega)
  by_cases h5 : 3 ≤ src.length - 3 * k
  · have hl : 4 * k + 4 ≤ encLen64 pad src.length := by unfold encLen64; split <;> omega
    obtain rfl := hDk (by omega)
    obtain rfl := hAk (by omega)
    obtain ⟨b0, e0⟩ : ∃ b, src[3 * k]? = some b := ⟨_, List.getElem?_eq_getElem (by omega)⟩
    have t0 : b0.toNat < 256 := b0.toNat_lt
    have q0 : wr.cell? ⟨sb, so + 3 * k, none⟩ = some (u8 b0) := hBr (3 * k) b0 e0
    obtain ⟨b1, e1⟩ : ∃ b, src[3 * k + 1]? = some b := ⟨_, List.getElem?_eq_getElem (by omega)⟩
    have t1 : b1.toNat < 256 := b1.toNat_lt
    have q1 : wr.cell? ⟨sb, so + 3 * k + 1, none⟩ = some (u8 b1) := by have := hBr (3 * k + 1) b1 e1; rwa [← Nat.add_assoc] at this
    obtain ⟨b2, e2⟩ : ∃ b, src[3 * k + 2]? = some b := ⟨_, List.getElem?_eq_getElem (by omega)⟩
    have t2 : b2.toNat < 256 := b2.toNat_lt
    have q2 : wr.cell? ⟨sb, so + 3 * k + 2, none⟩ = some (u8 b2) := by have := hBr (3 * k + 2) b2 e2; rwa [← Nat.add_assoc] at this
    have hE1 : Bk wr.drew ge cs te fz := hEr.drew
    have hR1 := hR.drew
    refine C.seq ?_
    refine C.seq ?_
    refine C.reg ?_
    refine W.y (y_move rfl) rfl ?_
    refine W.y (y_len rfl Try.underlying24) rfl ?_
    refine W.y (y_geqT rfl rfl (by omega)) rfl ?_
    refine W.fin ?_
    refine E.next ?_
    refine C.yes rfl ?_
    refine C.skip ?_
    refine E.next ?_
    refine C.block ?_
    refine C.seq ?_
    refine C.still mixed (by kernel_rfl) ?_
    refine S.y (y_move rfl) rfl ?_
    refine S.y (y_ixn (i := 0) rfl rfl Try.underlying24 siz5 (by omega)) rfl ?_
    refine S.y (y_load rfl pl5 q0) rfl ?_
    refine S.y (y_convN uk64 rfl Try.underlying5 Try.underlying35 (by omega)) rfl ?_
    refine S.y (y_shl uk64 (s := 16) rfl rfl (by omega) (by omega)) rfl ?_
    refine S.y (y_move rfl) rfl ?_
    refine S.y (y_ixn (i := 1) rfl rfl Try.underlying24 siz5 (by omega)) rfl ?_
    refine S.y (y_load rfl pl5 q1) rfl ?_
    refine S.y (y_convN uk64 rfl Try.underlying5 Try.underlying35 (by omega)) rfl ?_
    refine S.y (y_shl uk64 (s := 8) rfl rfl (by omega) (by omega)) rfl ?_
    refine S.y (y_join uk64 16 rfl rfl (by omega) (by omega) (by omega) (by omega)) rfl ?_
    refine S.y (y_move rfl) rfl ?_
    refine S.y (y_ixn (i := 2) rfl rfl Try.underlying24 siz5 (by omega)) rfl ?_
    refine S.y (y_load rfl pl5 q2) rfl ?_
    refine S.y (y_convN uk64 rfl Try.underlying5 Try.underlying35 (by omega)) rfl ?_
    refine S.y (y_join uk64 8 rfl rfl (by omega) (by omega) (by omega) (by omega)) rfl ?_
    refine S.y (y_assign rfl) rfl ?_
    refine S.end_ ?_
    refine E.next ?_
    refine C.seq ?_
    refine C.reg ?_
    refine W.y (y_move rfl) rfl ?_
    refine W.y (y_ixn (i := 3) rfl rfl Try.underlying24 siz5 (by omega)) rfl ?_
    refine W.y (y_load rfl pl5 (Bk.some hR1 (by rw [splice_size]; omega))) rfl ?_
    refine W.fin ?_
    refine E.next ?_
    refine C.seq ?_
    refine C.reg ?_
    refine W.y (y_move rfl) rfl ?_
    refine W.y (y_move rfl) rfl ?_
    refine W.y (y_move rfl) rfl ?_
    refine W.y (y_shr uk64 (s := 18) rfl rfl (by omega)) rfl ?_
    refine W.y (y_mask uk64 6 (b := 63) rfl rfl rfl (by omega) (by omega)) rfl ?_
    refine W.y (y_nilp rfl) rfl ?_
    refine W.y (y_field rfl fld85_0) rfl ?_
    refine W.y (y_ixa rfl rfl Try.underlying82 siz5 (by omega)) rfl ?_
    refine W.y (y_load rfl pl5 (Bk.at_ hE1 (he.letter0 (by omega)))) rfl ?_
    refine W.y (y_ixn (i := 0) rfl rfl Try.underlying24 siz5 (by omega)) rfl ?_
    refine W.s (s_store rfl rfl rfl siz5 (Bk.some hR1 (by rw [splice_size]; omega)) (Bk.melt hR1)) ?_
    refine W.fin ?_
    refine E.next ?_
    refine C.seq ?_
    refine C.reg ?_
    refine W.y (y_move rfl) rfl ?_
    refine W.y (y_move rfl) rfl ?_
    refine W.y (y_move rfl) rfl ?_
    refine W.y (y_shr uk64 (s := 12) rfl rfl (by omega)) rfl ?_
    refine W.y (y_mask uk64 6 (b := 63) rfl rfl rfl (by omega) (by omega)) rfl ?_
    refine W.y (y_nilp rfl) rfl ?_
    refine W.y (y_field rfl fld85_0) rfl ?_
    refine W.y (y_ixa rfl rfl Try.underlying82 siz5 (by omega)) rfl ?_
    refine W.y (y_load rfl pl5 (Bk.at_ (Bk.ne hE1 hne _) (he.letter0 (by omega)))) rfl ?_
    refine W.y (y_ixn (i := 1) rfl rfl Try.underlying24 siz5 (by omega)) rfl ?_
    refine W.s (s_store rfl rfl rfl siz5 (Bk.some (Bk.set hR1 _ _) (by simp only [Array.size_setIfInBounds, splice_size]; omega)) (Bk.melt (Bk.set hR1 _ _))) ?_
    refine W.fin ?_
    refine E.next ?_
    refine C.seq ?_
    refine C.reg ?_
    refine W.y (y_move rfl) rfl ?_
    refine W.y (y_move rfl) rfl ?_
    refine W.y (y_move rfl) rfl ?_
    refine W.y (y_shr uk64 (s := 6) rfl rfl (by omega)) rfl ?_
    refine W.y (y_mask uk64 6 (b := 63) rfl rfl rfl (by omega) (by omega)) rfl ?_
    refine W.y (y_nilp rfl) rfl ?_
    refine W.y (y_field rfl fld85_0) rfl ?_
    refine W.y (y_ixa rfl rfl Try.underlying82 siz5 (by omega)) rfl ?_
    refine W.y (y_load rfl pl5 (Bk.at_ (Bk.ne (Bk.ne hE1 hne _) hne _) (he.letter0 (by omega)))) rfl ?_
    refine W.y (y_ixn (i := 2) rfl rfl Try.underlying24 siz5 (by omega)) rfl ?_
    refine W.s (s_store rfl rfl rfl siz5 (Bk.some (Bk.set (Bk.set hR1 _ _) _ _) (by simp only [Array.size_setIfInBounds, splice_size]; omega)) (Bk.melt (Bk.set (Bk.set hR1 _ _) _ _))) ?_
    refine W.fin ?_
    refine E.next ?_
    refine C.seq ?_
    refine C.reg ?_
    refine W.y (y_move rfl) rfl ?_
    refine W.y (y_move rfl) rfl ?_
    refine W.y (y_move rfl) rfl ?_
    refine W.y (y_mask uk64 6 (b := 63) rfl rfl rfl (by omega) (by omega)) rfl ?_
    refine W.y (y_nilp rfl) rfl ?_
    refine W.y (y_field rfl fld85_0) rfl ?_
    refine W.y (y_ixa rfl rfl Try.underlying82 siz5 (by omega)) rfl ?_
    refine W.y (y_load rfl pl5 (Bk.at_ (Bk.ne (Bk.ne (Bk.ne hE1 hne _) hne _) hne _) (he.letter0 (by omega)))) rfl ?_
    refine W.y (y_ixn (i := 3) rfl rfl Try.underlying24 siz5 (by omega)) rfl ?_
    refine W.s (s_store rfl rfl rfl siz5 (Bk.some (Bk.set (Bk.set (Bk.set hR1 _ _) _ _) _ _) (by simp only [Array.size_setIfInBounds, splice_size]; omega)) (Bk.melt (Bk.set (Bk.set (Bk.set hR1 _ _) _ _) _ _))) ?_
    refine W.fin ?_
    refine E.next ?_
    refine C.seq ?_
    refine C.reg ?_
    refine W.y (y_move rfl) rfl ?_
    refine W.y (y_cutl (i := 3) rfl rfl Try.underlying24 siz5 (by omega)) rfl ?_
    refine W.y (y_assign rfl) rfl ?_
    refine W.fin ?_
    refine E.next ?_
    refine C.reg ?_
    refine W.y (y_move rfl) rfl ?_
    refine W.y (y_cutl (i := 4) rfl rfl Try.underlying24 siz5 (by omega)) rfl ?_
    refine W.y (y_assign rfl) rfl ?_
    refine W.fin ?_
    refine E.blockNormal ?_
    refine E.again (k + 1, (if c' - 4 * k = 4 then some ⟨g, off + 4 * k, none⟩ else (some ⟨g, off + 4 * k, none⟩ : Option Addr).map (·.add 4)), (if c - 3 * k = 3 then some ⟨sb, so + 3 * k, none⟩ else (some ⟨sb, so + 3 * k, none⟩ : Option Addr).map (·.add 3))) ⟨by omega, fun h => cut_addr (j := off + 4 * (k + 1)) (by omega) (by omega), fun h => cut_addr (j := so + 3 * (k + 1)) (by omega) (by omega), ?_, ?_, ?_⟩ (Sub.cons rfl (Sub.cons ?_ (Sub.cons ?_ (Sub.nil _)))) ?_
    · rw [letters_take64 al e0 e1 e2, bv_append, splice_append, hlb, group64 al b0 b1 b2 rfl]
      exact Bk.set (Bk.set (Bk.set (Bk.set hR1 _ _) _ _) _ _) _ _
    · exact Kp.set (Kp.set (Kp.set (Kp.set (Kp.drew hK) (.inl rfl) _) (.inl rfl) _) (.inl rfl) _) (.inl rfl) _
    · simp only [World.size_setCell, World.size_drew]; exact hz
    · rw [show m - 4 * (k + 1) = m - 4 * k - 4 by omega, show c' - 4 * (k + 1) = c' - 4 * k - 4 by omega]; rfl
    · rw [show src.length - 3 * (k + 1) = src.length - 3 * k - 3 by omega, show c - 3 * (k + 1) = c - 3 * k - 3 by omega]; rfl
    · show src.length - 3 * (k + 1) < src.length - 3 * k; omega
  · by_cases hr : src.length = 3 * k
    · have et : Pl.text 6 4 al pad src = Pl.letters 6 al (src.take (3 * k)) := by rw [text_of_whole (by rw [hr, Pl.nlet_whole (k := 4 * k) (by omega) (by omega)]; omega), List.take_of_length_le (by omega)]
      refine C.seq ?_
      refine C.seq ?_
      refine C.reg ?_
      refine W.y (y_move rfl) rfl ?_
      refine W.y (y_len rfl Try.underlying24) rfl ?_
      refine W.y (y_geqF rfl rfl (by omega)) rfl ?_
      refine W.fin ?_
      refine E.next ?_
      refine C.no rfl ?_
      refine C.exit ?_
      refine E.thenExit ?_
      refine E.thenExit ?_
      refine E.blockOut ?_
      refine E.next ?_
      refine C.seq ?_
      refine C.reg ?_
      refine W.y (y_move rfl) rfl ?_
      refine W.y (y_len rfl Try.underlying24) rfl ?_
      refine W.fin ?_
      refine E.next ?_
      refine C.block ?_
      refine C.seq ?_
      refine C.reg ?_
      refine W.y (y_eqlT rfl rfl (by omega)) rfl ?_
      refine W.y (y_assign rfl) rfl ?_
      refine W.fin ?_
      refine E.next ?_
      refine C.yes rfl ?_
      refine C.ret ?_
      refine E.blockRet ?_
      exact E.ret0 rfl ⟨rfl, by rw [et]; exact hR, hK, hz⟩
    have hl2 : 4 * k + 2 ≤ encLen64 pad src.length := by unfold encLen64; split <;> omega
    obtain rfl := hDk (by omega)
    obtain rfl := hAk (by omega)
    have hr3 : src.length = 3 * k + 1 ∨ src.length = 3 * k + 2 := by omega
    rcases hr3 with hr3 | hr3
    · have et := letters_tail (bits := 6) (k := 4 * k) (by omega) al (src := src) (m := 3 * k) (by omega) (by omega)
      obtain ⟨b0, e0⟩ : ∃ b, src[3 * k]? = some b := ⟨_, List.getElem?_eq_getElem (by omega)⟩
      have t0 : b0.toNat < 256 := b0.toNat_lt
      have q0 : wr.cell? ⟨sb, so + 3 * k, none⟩ = some (u8 b0) := hBr (3 * k) b0 e0
      rw [drop1 hr3 e0] at et
      have hnl : Pl.nlet 6 src.length = 4 * k + 2 := by unfold Pl.nlet; omega
      by_cases hp : pad = -1
      · have hl : 4 * k + 2 ≤ encLen64 pad src.length := by unfold encLen64; rw [if_pos hp]; omega
        have ht : Pl.text 6 4 al pad src = Pl.letters 6 al src := by rw [hp]; exact text_nopad
        refine C.seq ?_
        refine C.seq ?_
        refine C.reg ?_
        refine W.y (y_move rfl) rfl ?_
        refine W.y (y_len rfl Try.underlying24) rfl ?_
        refine W.y (y_geqF rfl rfl (by omega)) rfl ?_
        refine W.fin ?_
        refine E.next ?_
        refine C.no rfl ?_
        refine C.exit ?_
        refine E.thenExit ?_
        refine E.thenExit ?_
        refine E.blockOut ?_
        refine E.next ?_
        refine C.seq ?_
        refine C.reg ?_
        refine W.y (y_move rfl) rfl ?_
        refine W.y (y_len rfl Try.underlying24) rfl ?_
        refine W.fin ?_
        refine E.next ?_
        refine C.block ?_
        refine C.seq ?_
        refine C.reg ?_
        refine W.y (y_eqlF rfl rfl (by omega)) rfl ?_
        refine W.y (y_assign rfl) rfl ?_
        refine W.fin ?_
        refine E.next ?_
        refine C.no rfl ?_
        refine C.seq ?_
        refine C.reg ?_
        refine W.y (y_eqlT rfl rfl (by omega)) rfl ?_
        refine W.y (y_assign rfl) rfl ?_
        refine W.fin ?_
        refine E.next ?_
        refine C.yes rfl ?_
        refine C.seq ?_
        refine C.reg ?_
        refine W.y (y_move rfl) rfl ?_
        refine W.y (y_ixn (i := 0) rfl rfl Try.underlying24 siz5 (by omega)) rfl ?_
        refine W.y (y_load rfl pl5 q0) rfl ?_
        refine W.y (y_convN uk64 rfl Try.underlying5 Try.underlying35 (by omega)) rfl ?_
        refine W.y (y_shl uk64 (s := 16) rfl rfl (by omega) (by omega)) rfl ?_
        refine W.y (y_assign rfl) rfl ?_
        refine W.fin ?_
        refine E.next ?_
        refine C.seq ?_
        refine C.reg ?_
        refine W.y (y_move rfl) rfl ?_
        refine W.y (y_move rfl) rfl ?_
        refine W.y (y_move rfl) rfl ?_
        refine W.y (y_shr uk64 (s := 18) rfl rfl (by omega)) rfl ?_
        refine W.y (y_mask uk64 6 (b := 63) rfl rfl rfl (by omega) (by omega)) rfl ?_
        refine W.y (y_nilp rfl) rfl ?_
        refine W.y (y_field rfl fld85_0) rfl ?_
        refine W.y (y_ixa rfl rfl Try.underlying82 siz5 (by omega)) rfl ?_
        refine W.y (y_load rfl pl5 (Bk.at_ hEr (he.letter0 (by omega)))) rfl ?_
        refine W.y (y_ixn (i := 0) rfl rfl Try.underlying24 siz5 (by omega)) rfl ?_
        refine W.s (s_store rfl rfl rfl siz5 (Bk.some hR (by rw [splice_size]; omega)) (Bk.melt hR)) ?_
        refine W.fin ?_
        refine E.next ?_
        refine C.seq ?_
        refine C.reg ?_
        refine W.y (y_move rfl) rfl ?_
        refine W.y (y_move rfl) rfl ?_
        refine W.y (y_move rfl) rfl ?_
        refine W.y (y_shr uk64 (s := 12) rfl rfl (by omega)) rfl ?_
        refine W.y (y_mask uk64 6 (b := 63) rfl rfl rfl (by omega) (by omega)) rfl ?_
        refine W.y (y_nilp rfl) rfl ?_
        refine W.y (y_field rfl fld85_0) rfl ?_
        refine W.y (y_ixa rfl rfl Try.underlying82 siz5 (by omega)) rfl ?_
        refine W.y (y_load rfl pl5 (Bk.at_ (Bk.ne hEr hne _) (he.letter0 (by omega)))) rfl ?_
        refine W.y (y_ixn (i := 1) rfl rfl Try.underlying24 siz5 (by omega)) rfl ?_
        refine W.s (s_store rfl rfl rfl siz5 (Bk.some (Bk.set hR _ _) (by simp only [Array.size_setIfInBounds, splice_size]; omega)) (Bk.melt (Bk.set hR _ _))) ?_
        refine W.fin ?_
        refine E.next ?_
        refine C.seq ?_
        refine C.reg ?_
        refine W.y (y_move rfl) rfl ?_
        refine W.y (y_nilp rfl) rfl ?_
        refine W.y (y_field rfl fld85_2) rfl ?_
        refine W.y (y_load rfl pl21 (Bk.at_ (Bk.ne (Bk.ne hEr hne _) hne _) he.pad_)) rfl ?_
        refine W.y (y_neqF rfl rfl (by omega)) rfl ?_
        refine W.fin ?_
        refine E.next ?_
        refine C.no rfl ?_
        refine C.skip ?_
        refine E.blockNormal ?_
        exact E.end0 rfl ⟨rfl, by rw [ht, et, bv_append, splice_append, hlb, tail64_1 al b0 rfl]; exact Bk.set (Bk.set hR _ _) _ _, Kp.set (Kp.set hK (.inl rfl) _) (.inl rfl) _, by simp only [World.size_setCell]; exact hz⟩
      · have hl : 4 * k + 4 ≤ encLen64 pad src.length := by unfold encLen64; rw [if_neg hp]; omega
        have hpn : Pl.padn 4 (Pl.nlet 6 src.length) = 2 := by rw [hnl]; unfold Pl.padn; omega
        refine C.seq ?_
        refine C.seq ?_
        refine C.reg ?_
        refine W.y (y_move rfl) rfl ?_
        refine W.y (y_len rfl Try.underlying24) rfl ?_
        refine W.y (y_geqF rfl rfl (by omega)) rfl ?_
        refine W.fin ?_
        refine E.next ?_
        refine C.no rfl ?_
        refine C.exit ?_
        refine E.thenExit ?_
        refine E.thenExit ?_
        refine E.blockOut ?_
        refine E.next ?_
        refine C.seq ?_
        refine C.reg ?_
        refine W.y (y_move rfl) rfl ?_
        refine W.y (y_len rfl Try.underlying24) rfl ?_
        refine W.fin ?_
        refine E.next ?_
        refine C.block ?_
        refine C.seq ?_
        refine C.reg ?_
        refine W.y (y_eqlF rfl rfl (by omega)) rfl ?_
        refine W.y (y_assign rfl) rfl ?_
        refine W.fin ?_
        refine E.next ?_
        refine C.no rfl ?_
        refine C.seq ?_
        refine C.reg ?_
        refine W.y (y_eqlT rfl rfl (by omega)) rfl ?_
        refine W.y (y_assign rfl) rfl ?_
        refine W.fin ?_
        refine E.next ?_
        refine C.yes rfl ?_
        refine C.seq ?_
        refine C.reg ?_
        refine W.y (y_move rfl) rfl ?_
        refine W.y (y_ixn (i := 0) rfl rfl Try.underlying24 siz5 (by omega)) rfl ?_
        refine W.y (y_load rfl pl5 q0) rfl ?_
        refine W.y (y_convN uk64 rfl Try.underlying5 Try.underlying35 (by omega)) rfl ?_
        refine W.y (y_shl uk64 (s := 16) rfl rfl (by omega) (by omega)) rfl ?_
        refine W.y (y_assign rfl) rfl ?_
        refine W.fin ?_
        refine E.next ?_
        refine C.seq ?_
        refine C.reg ?_
        refine W.y (y_move rfl) rfl ?_
        refine W.y (y_move rfl) rfl ?_
        refine W.y (y_move rfl) rfl ?_
        refine W.y (y_shr uk64 (s := 18) rfl rfl (by omega)) rfl ?_
        refine W.y (y_mask uk64 6 (b := 63) rfl rfl rfl (by omega) (by omega)) rfl ?_
        refine W.y (y_nilp rfl) rfl ?_
        refine W.y (y_field rfl fld85_0) rfl ?_
        refine W.y (y_ixa rfl rfl Try.underlying82 siz5 (by omega)) rfl ?_
        refine W.y (y_load rfl pl5 (Bk.at_ hEr (he.letter0 (by omega)))) rfl ?_
        refine W.y (y_ixn (i := 0) rfl rfl Try.underlying24 siz5 (by omega)) rfl ?_
        refine W.s (s_store rfl rfl rfl siz5 (Bk.some hR (by rw [splice_size]; omega)) (Bk.melt hR)) ?_
        refine W.fin ?_
        refine E.next ?_
        refine C.seq ?_
        refine C.reg ?_
        refine W.y (y_move rfl) rfl ?_
        refine W.y (y_move rfl) rfl ?_
        refine W.y (y_move rfl) rfl ?_
        refine W.y (y_shr uk64 (s := 12) rfl rfl (by omega)) rfl ?_
        refine W.y (y_mask uk64 6 (b := 63) rfl rfl rfl (by omega) (by omega)) rfl ?_
        refine W.y (y_nilp rfl) rfl ?_
        refine W.y (y_field rfl fld85_0) rfl ?_
        refine W.y (y_ixa rfl rfl Try.underlying82 siz5 (by omega)) rfl ?_
        refine W.y (y_load rfl pl5 (Bk.at_ (Bk.ne hEr hne _) (he.letter0 (by omega)))) rfl ?_
        refine W.y (y_ixn (i := 1) rfl rfl Try.underlying24 siz5 (by omega)) rfl ?_
        refine W.s (s_store rfl rfl rfl siz5 (Bk.some (Bk.set hR _ _) (by simp only [Array.size_setIfInBounds, splice_size]; omega)) (Bk.melt (Bk.set hR _ _))) ?_
        refine W.fin ?_
        refine E.next ?_
        refine C.seq ?_
        refine C.reg ?_
        refine W.y (y_move rfl) rfl ?_
        refine W.y (y_nilp rfl) rfl ?_
        refine W.y (y_field rfl fld85_2) rfl ?_
        refine W.y (y_load rfl pl21 (Bk.at_ (Bk.ne (Bk.ne hEr hne _) hne _) he.pad_)) rfl ?_
        refine W.y (y_neqT rfl rfl (by omega)) rfl ?_
        refine W.fin ?_
        refine E.next ?_
        refine C.yes rfl ?_
        refine C.seq ?_
        refine C.reg ?_
        refine W.y (y_move rfl) rfl ?_
        refine W.y (y_move rfl) rfl ?_
        refine W.y (y_nilp rfl) rfl ?_
        refine W.y (y_field rfl fld85_2) rfl ?_
        refine W.y (y_load rfl pl21 (Bk.at_ (Bk.ne (Bk.ne hEr hne _) hne _) he.pad_)) rfl ?_
        refine W.y (y_conv (r := (((UInt8.ofNat pad.toNat).toNat : Nat) : Int)) rfl Try.underlying21 Try.underlying5 (pad_u8 (by omega) hp1)) rfl ?_
        refine W.y (y_ixn (i := 2) rfl rfl Try.underlying24 siz5 (by omega)) rfl ?_
        refine W.s (s_store rfl rfl rfl siz5 (Bk.some (Bk.set (Bk.set hR _ _) _ _) (by simp only [Array.size_setIfInBounds, splice_size]; omega)) (Bk.melt (Bk.set (Bk.set hR _ _) _ _))) ?_
        refine W.fin ?_
        refine E.next ?_
        refine C.reg ?_
        refine W.y (y_move rfl) rfl ?_
        refine W.y (y_move rfl) rfl ?_
        refine W.y (y_nilp rfl) rfl ?_
        refine W.y (y_field rfl fld85_2) rfl ?_
        refine W.y (y_load rfl pl21 (Bk.at_ (Bk.ne (Bk.ne (Bk.ne hEr hne _) hne _) hne _) he.pad_)) rfl ?_
        refine W.y (y_conv (r := (((UInt8.ofNat pad.toNat).toNat : Nat) : Int)) rfl Try.underlying21 Try.underlying5 (pad_u8 (by omega) hp1)) rfl ?_
        refine W.y (y_ixn (i := 3) rfl rfl Try.underlying24 siz5 (by omega)) rfl ?_
        refine W.s (s_store rfl rfl rfl siz5 (Bk.some (Bk.set (Bk.set (Bk.set hR _ _) _ _) _ _) (by simp only [Array.size_setIfInBounds, splice_size]; omega)) (Bk.melt (Bk.set (Bk.set (Bk.set hR _ _) _ _) _ _))) ?_
        refine W.fin ?_
        refine E.blockNormal ?_
        exact E.end0 rfl ⟨rfl, by rw [text_pad (by omega) hpn, et, bv_append, List.append_assoc, splice_append, hlb, tail64_1 al b0 rfl]; exact Bk.set (Bk.set (Bk.set (Bk.set hR _ _) _ _) _ _) _ _, Kp.set (Kp.set (Kp.set (Kp.set hK (.inl rfl) _) (.inl rfl) _) (.inl rfl) _) (.inl rfl) _, by simp only [World.size_setCell]; exact hz⟩
    · have et := letters_tail (bits := 6) (k := 4 * k) (by omega) al (src := src) (m := 3 * k) (by omega) (by omega)
      obtain ⟨b0, e0⟩ : ∃ b, src[3 * k]? = some b := ⟨_, List.getElem?_eq_getElem (by omega)⟩
      have t0 : b0.toNat < 256 := b0.toNat_lt
      have q0 : wr.cell? ⟨sb, so + 3 * k, none⟩ = some (u8 b0) := hBr (3 * k) b0 e0
      obtain ⟨b1, e1⟩ : ∃ b, src[3 * k + 1]? = some b := ⟨_, List.getElem?_eq_getElem (by omega)⟩
      have t1 : b1.toNat < 256 := b1.toNat_lt
      have q1 : wr.cell? ⟨sb, so + 3 * k + 1, none⟩ = some (u8 b1) := by have := hBr (3 * k + 1) b1 e1; rwa [← Nat.add_assoc] at this
      rw [drop2 hr3 e0 e1] at et
      have hnl : Pl.nlet 6 src.length = 4 * k + 3 := by unfold Pl.nlet; omega
      by_cases hp : pad = -1
      · have hl : 4 * k + 3 ≤ encLen64 pad src.length := by unfold encLen64; rw [if_pos hp]; omega
        have ht : Pl.text 6 4 al pad src = Pl.letters 6 al src := by rw [hp]; exact text_nopad
        refine C.seq ?_
        refine C.seq ?_
        refine C.reg ?_
        refine W.y (y_move rfl) rfl ?_
        refine W.y (y_len rfl Try.underlying24) rfl ?_
        refine W.y (y_geqF rfl rfl (by omega)) rfl ?_
        refine W.fin ?_
        refine E.next ?_
        refine C.no rfl ?_
        refine C.exit ?_
        refine E.thenExit ?_
        refine E.thenExit ?_
        refine E.blockOut ?_
        refine E.next ?_
        refine C.seq ?_
        refine C.reg ?_
        refine W.y (y_move rfl) rfl ?_
        refine W.y (y_len rfl Try.underlying24) rfl ?_
        refine W.fin ?_
        refine E.next ?_
        refine C.block ?_
        refine C.seq ?_
        refine C.reg ?_
        refine W.y (y_eqlF rfl rfl (by omega)) rfl ?_
        refine W.y (y_assign rfl) rfl ?_
        refine W.fin ?_
        refine E.next ?_
        refine C.no rfl ?_
        refine C.seq ?_
        refine C.reg ?_
        refine W.y (y_eqlF rfl rfl (by omega)) rfl ?_
        refine W.y (y_assign rfl) rfl ?_
        refine W.fin ?_
        refine E.next ?_
        refine C.no rfl ?_
        refine C.seq ?_
        refine C.reg ?_
        refine W.y (y_eqlT rfl rfl (by omega)) rfl ?_
        refine W.y (y_assign rfl) rfl ?_
        refine W.fin ?_
        refine E.next ?_
        refine C.yes rfl ?_
        refine C.seq ?_
        refine C.still mixed (by kernel_rfl) ?_
        refine S.y (y_move rfl) rfl ?_
        refine S.y (y_ixn (i := 0) rfl rfl Try.underlying24 siz5 (by omega)) rfl ?_
        refine S.y (y_load rfl pl5 q0) rfl ?_
        refine S.y (y_convN uk64 rfl Try.underlying5 Try.underlying35 (by omega)) rfl ?_
        refine S.y (y_shl uk64 (s := 16) rfl rfl (by omega) (by omega)) rfl ?_
        refine S.y (y_move rfl) rfl ?_
        refine S.y (y_ixn (i := 1) rfl rfl Try.underlying24 siz5 (by omega)) rfl ?_
        refine S.y (y_load rfl pl5 q1) rfl ?_
        refine S.y (y_convN uk64 rfl Try.underlying5 Try.underlying35 (by omega)) rfl ?_
        refine S.y (y_shl uk64 (s := 8) rfl rfl (by omega) (by omega)) rfl ?_
        refine S.y (y_join uk64 16 rfl rfl (by omega) (by omega) (by omega) (by omega)) rfl ?_
        refine S.y (y_assign rfl) rfl ?_
        refine S.end_ ?_
        refine E.next ?_
        refine C.seq ?_
        refine C.reg ?_
        refine W.y (y_move rfl) rfl ?_
        refine W.y (y_move rfl) rfl ?_
        refine W.y (y_move rfl) rfl ?_
        refine W.y (y_shr uk64 (s := 18) rfl rfl (by omega)) rfl ?_
        refine W.y (y_mask uk64 6 (b := 63) rfl rfl rfl (by omega) (by omega)) rfl ?_
        refine W.y (y_nilp rfl) rfl ?_
        refine W.y (y_field rfl fld85_0) rfl ?_
        refine W.y (y_ixa rfl rfl Try.underlying82 siz5 (by omega)) rfl ?_
        refine W.y (y_load rfl pl5 (Bk.at_ (Bk.drew hEr) (he.letter0 (by omega)))) rfl ?_
        refine W.y (y_ixn (i := 0) rfl rfl Try.underlying24 siz5 (by omega)) rfl ?_
        refine W.s (s_store rfl rfl rfl siz5 (Bk.some (Bk.drew hR) (by rw [splice_size]; omega)) (Bk.melt (Bk.drew hR))) ?_
        refine W.fin ?_
        refine E.next ?_
        refine C.seq ?_
        refine C.reg ?_
        refine W.y (y_move rfl) rfl ?_
        refine W.y (y_move rfl) rfl ?_
        refine W.y (y_move rfl) rfl ?_
        refine W.y (y_shr uk64 (s := 12) rfl rfl (by omega)) rfl ?_
        refine W.y (y_mask uk64 6 (b := 63) rfl rfl rfl (by omega) (by omega)) rfl ?_
        refine W.y (y_nilp rfl) rfl ?_
        refine W.y (y_field rfl fld85_0) rfl ?_
        refine W.y (y_ixa rfl rfl Try.underlying82 siz5 (by omega)) rfl ?_
        refine W.y (y_load rfl pl5 (Bk.at_ (Bk.ne (Bk.drew hEr) hne _) (he.letter0 (by omega)))) rfl ?_
        refine W.y (y_ixn (i := 1) rfl rfl Try.underlying24 siz5 (by omega)) rfl ?_
        refine W.s (s_store rfl rfl rfl siz5 (Bk.some (Bk.set (Bk.drew hR) _ _) (by simp only [Array.size_setIfInBounds, splice_size]; omega)) (Bk.melt (Bk.set (Bk.drew hR) _ _))) ?_
        refine W.fin ?_
        refine E.next ?_
        refine C.seq ?_
        refine C.reg ?_
        refine W.y (y_move rfl) rfl ?_
        refine W.y (y_move rfl) rfl ?_
        refine W.y (y_move rfl) rfl ?_
        refine W.y (y_shr uk64 (s := 6) rfl rfl (by omega)) rfl ?_
        refine W.y (y_mask uk64 6 (b := 63) rfl rfl rfl (by omega) (by omega)) rfl ?_
        refine W.y (y_nilp rfl) rfl ?_
        refine W.y (y_field rfl fld85_0) rfl ?_
        refine W.y (y_ixa rfl rfl Try.underlying82 siz5 (by omega)) rfl ?_
        refine W.y (y_load rfl pl5 (Bk.at_ (Bk.ne (Bk.ne (Bk.drew hEr) hne _) hne _) (he.letter0 (by omega)))) rfl ?_
        refine W.y (y_ixn (i := 2) rfl rfl Try.underlying24 siz5 (by omega)) rfl ?_
        refine W.s (s_store rfl rfl rfl siz5 (Bk.some (Bk.set (Bk.set (Bk.drew hR) _ _) _ _) (by simp only [Array.size_setIfInBounds, splice_size]; omega)) (Bk.melt (Bk.set (Bk.set (Bk.drew hR) _ _) _ _))) ?_
        refine W.fin ?_
        refine E.next ?_
        refine C.seq ?_
        refine C.reg ?_
        refine W.y (y_move rfl) rfl ?_
        refine W.y (y_nilp rfl) rfl ?_
        refine W.y (y_field rfl fld85_2) rfl ?_
        refine W.y (y_load rfl pl21 (Bk.at_ (Bk.ne (Bk.ne (Bk.ne (Bk.drew hEr) hne _) hne _) hne _) he.pad_)) rfl ?_
        refine W.y (y_neqF rfl rfl (by omega)) rfl ?_
        refine W.fin ?_
        refine E.next ?_
        refine C.no rfl ?_
        refine C.skip ?_
        refine E.blockNormal ?_
        exact E.end0 rfl ⟨rfl, by rw [ht, et, bv_append, splice_append, hlb, tail64_2 al b0 b1 rfl]; exact Bk.set (Bk.set (Bk.set (Bk.drew hR) _ _) _ _) _ _, Kp.set (Kp.set (Kp.set (Kp.drew hK) (.inl rfl) _) (.inl rfl) _) (.inl rfl) _, by simp only [World.size_setCell, World.size_drew]; exact hz⟩
      · have hl : 4 * k + 4 ≤ encLen64 pad src.length := by unfold encLen64; rw [if_neg hp]; omega
        have hpn : Pl.padn 4 (Pl.nlet 6 src.length) = 1 := by rw [hnl]; unfold Pl.padn; omega
        refine C.seq ?_
        refine C.seq ?_
        refine C.reg ?_
        refine W.y (y_move rfl) rfl ?_
        refine W.y (y_len rfl Try.underlying24) rfl ?_
        refine W.y (y_geqF rfl rfl (by omega)) rfl ?_
        refine W.fin ?_
        refine E.next ?_
        refine C.no rfl ?_
        refine C.exit ?_
        refine E.thenExit ?_
        refine E.thenExit ?_
        refine E.blockOut ?_
        refine E.next ?_
        refine C.seq ?_
        refine C.reg ?_
        refine W.y (y_move rfl) rfl ?_
        refine W.y (y_len rfl Try.underlying24) rfl ?_
        refine W.fin ?_
        refine E.next ?_
        refine C.block ?_
        refine C.seq ?_
        refine C.reg ?_
        refine W.y (y_eqlF rfl rfl (by omega)) rfl ?_
        refine W.y (y_assign rfl) rfl ?_
        refine W.fin ?_
        refine E.next ?_
        refine C.no rfl ?_
        refine C.seq ?_
        refine C.reg ?_
        refine W.y (y_eqlF rfl rfl (by omega)) rfl ?_
        refine W.y (y_assign rfl) rfl ?_
        refine W.fin ?_
        refine E.next ?_
        refine C.no rfl ?_
        refine C.seq ?_
        refine C.reg ?_
        refine W.y (y_eqlT rfl rfl (by omega)) rfl ?_
        refine W.y (y_assign rfl) rfl ?_
        refine W.fin ?_
        refine E.next ?_
        refine C.yes rfl ?_
        refine C.seq ?_
        refine C.still mixed (by kernel_rfl) ?_
        refine S.y (y_move rfl) rfl ?_
        refine S.y (y_ixn (i := 0) rfl rfl Try.underlying24 siz5 (by omega)) rfl ?_
        refine S.y (y_load rfl pl5 q0) rfl ?_
        refine S.y (y_convN uk64 rfl Try.underlying5 Try.underlying35 (by omega)) rfl ?_
        refine S.y (y_shl uk64 (s := 16) rfl rfl (by omega) (by omega)) rfl ?_
        refine S.y (y_move rfl) rfl ?_
        refine S.y (y_ixn (i := 1) rfl rfl Try.underlying24 siz5 (by omega)) rfl ?_
        refine S.y (y_load rfl pl5 q1) rfl ?_
        refine S.y (y_convN uk64 rfl Try.underlying5 Try.underlying35 (by omega)) rfl ?_
        refine S.y (y_shl uk64 (s := 8) rfl rfl (by omega) (by omega)) rfl ?_
        refine S.y (y_join uk64 16 rfl rfl (by omega) (by omega) (by omega) (by omega)) rfl ?_
        refine S.y (y_assign rfl) rfl ?_
        refine S.end_ ?_
        refine E.next ?_
        refine C.seq ?_
        refine C.reg ?_
        refine W.y (y_move rfl) rfl ?_
        refine W.y (y_move rfl) rfl ?_
        refine W.y (y_move rfl) rfl ?_
        refine W.y (y_shr uk64 (s := 18) rfl rfl (by omega)) rfl ?_
        refine W.y (y_mask uk64 6 (b := 63) rfl rfl rfl (by omega) (by omega)) rfl ?_
        refine W.y (y_nilp rfl) rfl ?_
        refine W.y (y_field rfl fld85_0) rfl ?_
        refine W.y (y_ixa rfl rfl Try.underlying82 siz5 (by omega)) rfl ?_
        refine W.y (y_load rfl pl5 (Bk.at_ (Bk.drew hEr) (he.letter0 (by omega)))) rfl ?_
        refine W.y (y_ixn (i := 0) rfl rfl Try.underlying24 siz5 (by omega)) rfl ?_
        refine W.s (s_store rfl rfl rfl siz5 (Bk.some (Bk.drew hR) (by rw [splice_size]; omega)) (Bk.melt (Bk.drew hR))) ?_
        refine W.fin ?_
        refine E.next ?_
        refine C.seq ?_
        refine C.reg ?_
        refine W.y (y_move rfl) rfl ?_
        refine W.y (y_move rfl) rfl ?_
        refine W.y (y_move rfl) rfl ?_
        refine W.y (y_shr uk64 (s := 12) rfl rfl (by omega)) rfl ?_
        refine W.y (y_mask uk64 6 (b := 63) rfl rfl rfl (by omega) (by omega)) rfl ?_
        refine W.y (y_nilp rfl) rfl ?_
        refine W.y (y_field rfl fld85_0) rfl ?_
        refine W.y (y_ixa rfl rfl Try.underlying82 siz5 (by omega)) rfl ?_
        refine W.y (y_load rfl pl5 (Bk.at_ (Bk.ne (Bk.drew hEr) hne _) (he.letter0 (by omega)))) rfl ?_
        refine W.y (y_ixn (i := 1) rfl rfl Try.underlying24 siz5 (by omega)) rfl ?_
        refine W.s (s_store rfl rfl rfl siz5 (Bk.some (Bk.set (Bk.drew hR) _ _) (by simp only [Array.size_setIfInBounds, splice_size]; omega)) (Bk.melt (Bk.set (Bk.drew hR) _ _))) ?_
        refine W.fin ?_
        refine E.next ?_
        refine C.seq ?_
        refine C.reg ?_
        refine W.y (y_move rfl) rfl ?_
        refine W.y (y_move rfl) rfl ?_
        refine W.y (y_move rfl) rfl ?_
        refine W.y (y_shr uk64 (s := 6) rfl rfl (by omega)) rfl ?_
        refine W.y (y_mask uk64 6 (b := 63) rfl rfl rfl (by omega) (by omega)) rfl ?_
        refine W.y (y_nilp rfl) rfl ?_
        refine W.y (y_field rfl fld85_0) rfl ?_
        refine W.y (y_ixa rfl rfl Try.underlying82 siz5 (by omega)) rfl ?_
        refine W.y (y_load rfl pl5 (Bk.at_ (Bk.ne (Bk.ne (Bk.drew hEr) hne _) hne _) (he.letter0 (by omega)))) rfl ?_
        refine W.y (y_ixn (i := 2) rfl rfl Try.underlying24 siz5 (by omega)) rfl ?_
        refine W.s (s_store rfl rfl rfl siz5 (Bk.some (Bk.set (Bk.set (Bk.drew hR) _ _) _ _) (by simp only [Array.size_setIfInBounds, splice_size]; omega)) (Bk.melt (Bk.set (Bk.set (Bk.drew hR) _ _) _ _))) ?_
        refine W.fin ?_
        refine E.next ?_
        refine C.seq ?_
        refine C.reg ?_
        refine W.y (y_move rfl) rfl ?_
        refine W.y (y_nilp rfl) rfl ?_
        refine W.y (y_field rfl fld85_2) rfl ?_
        refine W.y (y_load rfl pl21 (Bk.at_ (Bk.ne (Bk.ne (Bk.ne (Bk.drew hEr) hne _) hne _) hne _) he.pad_)) rfl ?_
        refine W.y (y_neqT rfl rfl (by omega)) rfl ?_
        refine W.fin ?_
        refine E.next ?_
        refine C.yes rfl ?_
        refine C.reg ?_
        refine W.y (y_move rfl) rfl ?_
        refine W.y (y_move rfl) rfl ?_
        refine W.y (y_nilp rfl) rfl ?_
        refine W.y (y_field rfl fld85_2) rfl ?_
        refine W.y (y_load rfl pl21 (Bk.at_ (Bk.ne (Bk.ne (Bk.ne (Bk.drew hEr) hne _) hne _) hne _) he.pad_)) rfl ?_
        refine W.y (y_conv (r := (((UInt8.ofNat pad.toNat).toNat : Nat) : Int)) rfl Try.underlying21 Try.underlying5 (pad_u8 (by omega) hp1)) rfl ?_
        refine W.y (y_ixn (i := 3) rfl rfl Try.underlying24 siz5 (by omega)) rfl ?_
        refine W.s (s_store rfl rfl rfl siz5 (Bk.some (Bk.set (Bk.set (Bk.set (Bk.drew hR) _ _) _ _) _ _) (by simp only [Array.size_setIfInBounds, splice_size]; omega)) (Bk.melt (Bk.set (Bk.set (Bk.set (Bk.drew hR) _ _) _ _) _ _))) ?_
        refine W.fin ?_
        refine E.blockNormal ?_
        exact E.end0 rfl ⟨rfl, by rw [text_pad (by omega) hpn, et, bv_append, List.append_assoc, splice_append, hlb, tail64_2 al b0 b1 rfl]; exact Bk.set (Bk.set (Bk.set (Bk.set (Bk.drew hR) _ _) _ _) _ _) _ _, Kp.set (Kp.set (Kp.set (Kp.set (Kp.drew hK) (.inl rfl) _) (.inl rfl) _) (.inl rfl) _) (.inl rfl) _, by simp only [World.size_setCell, World.size_drew]; exact hz⟩
theorem encode64_at {n : Nat} {w : World} {ge g off m c' c sb so : Nat} {A : Option Addr} {cs ds : Array Value} {te td : TypeId} {fz : Nat × Nat} {al : List UInt8} {pad : Int} {src : List UInt8}
    (hE : Bk w ge cs te fz) (he : EncC 64 cs al pad) (hp0 : -1 ≤ pad) (hp1 : pad ≤ 255) (hD : Bk w g ds td (0, 0)) (hne : ge ≠ g) (hS : src.length = 0 ∨ (A = some ⟨sb, so, none⟩ ∧ Bs w sb so src)) (hsn : src.length = n) (hc : src.length ≤ c)
    (hmc : m ≤ c') (hm : encLen64 pad src.length ≤ m) (ho : off + m ≤ ds.size) (hap : sb ≠ g ∨ so + src.length ≤ off ∨ off + m ≤ so) (hn : src.length ≤ 140737488351232) :
    Ret Try.prog 46 #[.pointer (some ⟨ge, 0, none⟩), .slice (some ⟨g, off, none⟩) m c', .slice A n c] w fun v w' => v = .tuple #[] ∧ Bk w' g (splice ds off (bv (Pl.text 6 4 al pad src))) td (0, 0) ∧ Kp (· = g) w w' ∧ w'.heap.size = w.heap.size := by
  subst hsn
  exact encode64_ret hE he hp0 hp1 hD hne hS hc hmc hm ho hap hn
end Go.Proofs.Ytmbglgepomeilaa
