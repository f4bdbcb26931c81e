/-
  Walk: Decode.
-/
import Derived.Test.YtmbglgepomeilaaLQ
namespace Go.Proofs.Ytmbglgepomeilaa
open Go.RowKit
theorem ent48 : Enters Try.prog 48 := enters_of Try.func48 (by kernel_rfl) rfl
theorem ent49 : Enters Try.prog 49 := enters_of Try.func49 (by kernel_rfl) rfl
theorem ent50 : Enters Try.prog 50 := enters_of Try.func50 (by kernel_rfl) rfl
theorem ent51 : Enters Try.prog 51 := enters_of Try.func51 (by kernel_rfl) rfl
theorem ent52 : Enters Try.prog 52 := enters_of Try.func52 (by kernel_rfl) rfl

set_option maxRecDepth 8000 in
set_option maxHeartbeats 4000000 in
theorem decode64_ret {w : World} {ge g off m c' c sb so n : Nat} {A : Option Addr} {cs ds : Array Value} {te td : TypeId} {fz fd : Nat × Nat} {al src : List UInt8} {pad : Int} {vs : List Nat} {st : Bool}
    (hE : Bk w ge cs te fz) (he : EncC 64 cs al pad) (hst : cs[321]? = some (.bool st)) (hf : Fit 64 al pad) (hD : Bk w g ds td fd) (hne : ge ≠ g) (hsb : sb ≠ g) (hv : ∀ v ∈ vs, v < 64) (hq : ∃ q, vs.length = Pl.nlet 6 q) (hzs : st = true → ∃ s, vs = Pl.nums 6 s)
    (hsrc : src = vs.map (Pl.letter al) ++ Pl.pads 4 pad vs.length) (hS : src.length = 0 ∨ (A = some ⟨sb, so, none⟩ ∧ Bs w sb so src)) (hn : src.length = n) (hc : n ≤ c) (hm : m = decLen pad n) (hmc : m ≤ c') (ho : off + m ≤ ds.size) (hfd : off + m ≤ fd.1 ∨ fd.2 ≤ off) (hN : n ≤ 281474976710656) :
    Ret Try.prog 44 #[.pointer (some ⟨ge, 0, none⟩), .slice (some ⟨g, off, none⟩) m c', .slice A n c] w fun v w' => v = .tuple #[.int .i64 ((6 * vs.length / 8 : Nat) : Int), .nilIface] ∧ (∃ ds', Bk w' g ds' td fd ∧ ds'.size = ds.size ∧ Hd ds' off (Pl.unpack 6 vs)) ∧ Kp (· = g) w w' := by
  subst hn
  have hsl : src.length = vs.length + (Pl.pads 4 pad vs.length).length := by rw [hsrc, List.length_append, List.length_map]
  have hpl := pads_len (pad := pad) (n := vs.length) (block := 4)
  have hrem := rem64 hq
  have hlo := hf.lo
  have hhi := hf.hi
  have hcase : (src.length = vs.length ∧ m = src.length / 4 * 3 + src.length % 4 * 6 / 8) ∨ (src.length = vs.length + (4 - vs.length % 4) % 4 ∧ m = src.length / 4 * 3) := by
    rw [hm]
    unfold decLen
    by_cases hp : pad = -1
    · rw [if_pos hp]
      rw [if_neg (by omega)] at hpl
      exact .inl ⟨by omega, rfl⟩
    · rw [if_neg hp]
      rw [if_pos (by omega)] at hpl
      have hpn : Pl.padn 4 vs.length = (4 - vs.length % 4) % 4 := rfl
      exact .inr ⟨by omega, rfl⟩
  by_cases h0 : src.length = 0
  · have hv0 : vs = [] := List.eq_nil_of_length_eq_zero (by omega)
    subst hv0
    refine ret_of Try.func44 rfl Try.ntmps44 (Nat.le_of_ble_eq_true rfl) ?_
    refine C.seq ?_
    refine C.reg ?_
    refine W.y (y_assign rfl) rfl ?_
    refine W.y (y_assign rfl) rfl ?_
    refine W.fin ?_
    refine E.next ?_
    refine C.seq ?_
    refine C.seq ?_
    refine C.reg ?_
    refine W.y (y_move rfl) rfl ?_
    refine W.y (y_len rfl Try.underlying24) rfl ?_
    refine W.y (y_eqlT rfl rfl (by omega)) rfl ?_
    refine W.fin ?_
    refine E.next ?_
    refine C.yes rfl ?_
    refine C.seq ?_
    refine C.reg ?_
    refine W.y (y_assign rfl) rfl ?_
    refine W.y (y_assign rfl) rfl ?_
    refine W.fin ?_
    refine E.next ?_
    refine C.ret ?_
    refine E.thenRet ?_
    exact E.ret2 rfl rfl rfl ⟨rfl, ⟨ds, hD, rfl, fun i x hx => by simp [Pl.unpack] at hx⟩, Kp.refl _ _⟩
  obtain ⟨rfl, hB⟩ := hS.resolve_left h0
  refine ret_of Try.func44 rfl Try.ntmps44 (Nat.le_of_ble_eq_true rfl) ?_
  refine C.seq ?_
  refine C.reg ?_
  refine W.y (y_assign rfl) rfl ?_
  refine W.y (y_assign rfl) rfl ?_
  refine W.fin ?_
  refine E.next ?_
  refine C.seq ?_
  refine C.seq ?_
  refine C.reg ?_
  refine W.y (y_move rfl) rfl ?_
  refine W.y (y_len rfl Try.underlying24) rfl ?_
  refine W.y (y_eqlF rfl rfl (by omega)) rfl ?_
  refine W.fin ?_
  refine E.next ?_
  refine C.no rfl ?_
  refine C.skip ?_
  refine E.next ?_
  refine C.seq ?_
  refine C.reg ?_
  refine W.y (y_move rfl) rfl ?_
  refine W.y (y_nilp rfl) rfl ?_
  refine W.y (y_field rfl fld85_1) rfl ?_
  refine W.y (y_loadRow rfl Try.underlying83 siz83 hE (by have := he.size; omega)) rfl ?_
  refine W.fin ?_
  refine E.next ?_
  refine C.seq ?_
  refine C.reg ?_
  refine W.y (y_assign rfl) rfl ?_
  refine W.fin ?_
  refine E.next ?_
  refine C.mid (σ := Nat) (fun q w' => 4 * q ≤ vs.length ∧ (∃ ds', Bk w' g ds' td fd ∧ ds'.size = ds.size ∧ Hd ds' off (Pl.unpack 6 (vs.take (4 * q)))) ∧ Kp (· = g) w w') (fun q => [(0, .pointer (some ⟨ge, 0, none⟩)), (1, .slice (some ⟨g, off, none⟩) m c'), (2, .slice (some ⟨sb, so, none⟩) src.length c), (7, .nilIface), (6, .int .i64 ((3 * q : Nat) : Int)), (8, .int .i64 ((4 * q : Nat) : Int))]) ?_ ?_
  · refine C.block ?_
    refine C.loop (σ := Nat) (fun q w' => 4 * q ≤ vs.length ∧ (∃ ds', Bk w' g ds' td fd ∧ ds'.size = ds.size ∧ Hd ds' off (Pl.unpack 6 (vs.take (4 * q)))) ∧ Kp (· = g) w w') (fun q => [(0, .pointer (some ⟨ge, 0, none⟩)), (1, .slice (some ⟨g, off, none⟩) m c'), (2, .slice (some ⟨sb, so, none⟩) src.length c), (7, .nilIface), (6, .int .i64 ((3 * q : Nat) : Int)), (8, .int .i64 ((4 * q : Nat) : Int))]) (fun q => vs.length - 4 * q) 0 ?_ ?_ ?_
    · exact ⟨by omega, ⟨ds, hD, rfl, fun i x hx => by simp [Pl.unpack] at hx⟩, Kp.refl _ _⟩
    · exact (Sub.cons rfl (Sub.cons rfl (Sub.cons rfl (Sub.cons rfl (Sub.cons rfl (Sub.cons rfl (Sub.nil _)))))))
    rintro q wj ⟨hq4, ⟨dj, hDj, hdz, hHd⟩, hKj⟩
    show C _ _ _ _ [(0, .pointer (some ⟨ge, 0, none⟩)), (1, .slice (some ⟨g, off, none⟩) m c'), (2, .slice (some ⟨sb, so, none⟩) src.length c), (7, .nilIface), (6, .int .i64 ((3 * q : Nat) : Int)), (8, .int .i64 ((4 * q : Nat) : Int))] _
    by_cases hs8 : src.length < 4 * q + 8
    · skip
      refine C.seq ?_
      refine C.seq ?_
      refine C.reg ?_
      refine W.y (y_move rfl) rfl ?_
      refine W.gy rfl rfl (y_move rfl) rfl ?_
      refine W.gy rfl rfl (y_len rfl Try.underlying24) rfl ?_
      refine W.gy rfl rfl (y_move rfl) rfl ?_
      refine W.gy rfl rfl (y_sub rfl rfl (wi64 (by omega) (by omega))) rfl ?_
      refine W.gy rfl rfl (y_geqF rfl rfl (by omega)) rfl ?_
      refine W.y (y_pick rfl rfl) rfl ?_
      refine W.y (y_move rfl) rfl ?_
      refine W.gn rfl rfl rfl ?_
      refine W.gn rfl rfl rfl ?_
      refine W.gn rfl rfl rfl ?_
      refine W.gn rfl rfl rfl ?_
      refine W.gn rfl rfl rfl ?_
      refine W.y (y_pick rfl rfl) rfl ?_
      refine W.fin ?_
      refine E.next ?_
      refine C.no rfl ?_
      refine C.exit ?_
      refine E.thenExit ?_
      refine E.thenExit ?_
      refine E.blockOut ?_
      exact E.mid (q) ⟨hq4, ⟨dj, hDj, hdz, hHd⟩, hKj⟩ (Sub.cons rfl (Sub.cons rfl (Sub.cons rfl (Sub.cons rfl (Sub.cons rfl (Sub.cons rfl (Sub.nil _)))))))
    by_cases hd8 : m < 3 * q + 8
    · skip
      refine C.seq ?_
      refine C.seq ?_
      refine C.reg ?_
      refine W.y (y_move rfl) rfl ?_
      refine W.gy rfl rfl (y_move rfl) rfl ?_
      refine W.gy rfl rfl (y_len rfl Try.underlying24) rfl ?_
      refine W.gy rfl rfl (y_move rfl) rfl ?_
      refine W.gy rfl rfl (y_sub rfl rfl (wi64 (by omega) (by omega))) rfl ?_
      refine W.gy rfl rfl (y_geqT rfl rfl (by omega)) rfl ?_
      refine W.y (y_pick rfl rfl) rfl ?_
      refine W.y (y_move rfl) rfl ?_
      refine W.gy rfl rfl (y_move rfl) rfl ?_
      refine W.gy rfl rfl (y_len rfl Try.underlying24) rfl ?_
      refine W.gy rfl rfl (y_move rfl) rfl ?_
      refine W.gy rfl rfl (y_sub rfl rfl (wi64 (by omega) (by omega))) rfl ?_
      refine W.gy rfl rfl (y_geqF rfl rfl (by omega)) rfl ?_
      refine W.y (y_pick rfl rfl) rfl ?_
      refine W.fin ?_
      refine E.next ?_
      refine C.no rfl ?_
      refine C.exit ?_
      refine E.thenExit ?_
      refine E.thenExit ?_
      refine E.blockOut ?_
      exact E.mid (q) ⟨hq4, ⟨dj, hDj, hdz, hHd⟩, hKj⟩ (Sub.cons rfl (Sub.cons rfl (Sub.cons rfl (Sub.cons rfl (Sub.cons rfl (Sub.cons rfl (Sub.nil _)))))))
    have hvl : 4 * q + 8 ≤ vs.length := by omega
    have hEj : Bk wj ge cs te fz := hE.kept hKj hne
    have hBj : Bs wj sb so src := hB.kept hKj hsb
    have hul : (Pl.unpack 6 (vs.take (4 * q))).length = 3 * q := by rw [Pl.unpack_length, List.length_take]; omega
    obtain ⟨v0, q0⟩ : ∃ v, vs[4 * q + 0]? = some v := ⟨_, List.getElem?_eq_getElem (by omega)⟩
    have t0 := hv v0 (List.mem_of_getElem? q0)
    have hl0 := letter_get t0 hf.len
    have hb0 := (Pl.letter al v0).toNat_lt
    have hm0 := hf.dm_at hl0
    have hx0 : (src.drop (4 * q))[0]? = some (Pl.letter al v0) := by rw [List.getElem?_drop, hsrc, List.getElem?_append_left (by rw [List.length_map]; omega), List.getElem?_map, q0]; rfl
    obtain ⟨v1, q1⟩ : ∃ v, vs[4 * q + 1]? = some v := ⟨_, List.getElem?_eq_getElem (by omega)⟩
    have t1 := hv v1 (List.mem_of_getElem? q1)
    have hl1 := letter_get t1 hf.len
    have hb1 := (Pl.letter al v1).toNat_lt
    have hm1 := hf.dm_at hl1
    have hx1 : (src.drop (4 * q))[1]? = some (Pl.letter al v1) := by rw [List.getElem?_drop, hsrc, List.getElem?_append_left (by rw [List.length_map]; omega), List.getElem?_map, q1]; rfl
    obtain ⟨v2, q2⟩ : ∃ v, vs[4 * q + 2]? = some v := ⟨_, List.getElem?_eq_getElem (by omega)⟩
    have t2 := hv v2 (List.mem_of_getElem? q2)
    have hl2 := letter_get t2 hf.len
    have hb2 := (Pl.letter al v2).toNat_lt
    have hm2 := hf.dm_at hl2
    have hx2 : (src.drop (4 * q))[2]? = some (Pl.letter al v2) := by rw [List.getElem?_drop, hsrc, List.getElem?_append_left (by rw [List.length_map]; omega), List.getElem?_map, q2]; rfl
    obtain ⟨v3, q3⟩ : ∃ v, vs[4 * q + 3]? = some v := ⟨_, List.getElem?_eq_getElem (by omega)⟩
    have t3 := hv v3 (List.mem_of_getElem? q3)
    have hl3 := letter_get t3 hf.len
    have hb3 := (Pl.letter al v3).toNat_lt
    have hm3 := hf.dm_at hl3
    have hx3 : (src.drop (4 * q))[3]? = some (Pl.letter al v3) := by rw [List.getElem?_drop, hsrc, List.getElem?_append_left (by rw [List.length_map]; omega), List.getElem?_map, q3]; rfl
    obtain ⟨v4, q4⟩ : ∃ v, vs[4 * q + 4]? = some v := ⟨_, List.getElem?_eq_getElem (by omega)⟩
    have t4 := hv v4 (List.mem_of_getElem? q4)
    have hl4 := letter_get t4 hf.len
    have hb4 := (Pl.letter al v4).toNat_lt
    have hm4 := hf.dm_at hl4
    have hx4 : (src.drop (4 * q))[4]? = some (Pl.letter al v4) := by rw [List.getElem?_drop, hsrc, List.getElem?_append_left (by rw [List.length_map]; omega), List.getElem?_map, q4]; rfl
    obtain ⟨v5, q5⟩ : ∃ v, vs[4 * q + 5]? = some v := ⟨_, List.getElem?_eq_getElem (by omega)⟩
    have t5 := hv v5 (List.mem_of_getElem? q5)
    have hl5 := letter_get t5 hf.len
    have hb5 := (Pl.letter al v5).toNat_lt
    have hm5 := hf.dm_at hl5
    have hx5 : (src.drop (4 * q))[5]? = some (Pl.letter al v5) := by rw [List.getElem?_drop, hsrc, List.getElem?_append_left (by rw [List.length_map]; omega), List.getElem?_map, q5]; rfl
    obtain ⟨v6, q6⟩ : ∃ v, vs[4 * q + 6]? = some v := ⟨_, List.getElem?_eq_getElem (by omega)⟩
    have t6 := hv v6 (List.mem_of_getElem? q6)
    have hl6 := letter_get t6 hf.len
    have hb6 := (Pl.letter al v6).toNat_lt
    have hm6 := hf.dm_at hl6
    have hx6 : (src.drop (4 * q))[6]? = some (Pl.letter al v6) := by rw [List.getElem?_drop, hsrc, List.getElem?_append_left (by rw [List.length_map]; omega), List.getElem?_map, q6]; rfl
    obtain ⟨v7, q7⟩ : ∃ v, vs[4 * q + 7]? = some v := ⟨_, List.getElem?_eq_getElem (by omega)⟩
    have t7 := hv v7 (List.mem_of_getElem? q7)
    have hl7 := letter_get t7 hf.len
    have hb7 := (Pl.letter al v7).toNat_lt
    have hm7 := hf.dm_at hl7
    have hx7 : (src.drop (4 * q))[7]? = some (Pl.letter al v7) := by rw [List.getElem?_drop, hsrc, List.getElem?_append_left (by rw [List.length_map]; omega), List.getElem?_map, q7]; rfl
    have hS0 : Bk wj.drew ge cs te fz ∧ Bs wj.drew sb (so + 4 * q) (src.drop (4 * q)) := ⟨hEj.drew, (hBj.cut (4 * q)).drew⟩
    refine C.seq ?_
    refine C.seq ?_
    refine C.reg ?_
    refine W.y (y_move rfl) rfl ?_
    refine W.gy rfl rfl (y_move rfl) rfl ?_
    refine W.gy rfl rfl (y_len rfl Try.underlying24) rfl ?_
    refine W.gy rfl rfl (y_move rfl) rfl ?_
    refine W.gy rfl rfl (y_sub rfl rfl (wi64 (by omega) (by omega))) rfl ?_
    refine W.gy rfl rfl (y_geqT rfl rfl (by omega)) rfl ?_
    refine W.y (y_pick rfl rfl) rfl ?_
    refine W.y (y_move rfl) rfl ?_
    refine W.gy rfl rfl (y_move rfl) rfl ?_
    refine W.gy rfl rfl (y_len rfl Try.underlying24) rfl ?_
    refine W.gy rfl rfl (y_move rfl) rfl ?_
    refine W.gy rfl rfl (y_sub rfl rfl (wi64 (by omega) (by omega))) rfl ?_
    refine W.gy rfl rfl (y_geqT rfl rfl (by omega)) rfl ?_
    refine W.y (y_pick rfl rfl) rfl ?_
    refine W.fin ?_
    refine E.next ?_
    refine C.yes rfl ?_
    refine C.skip ?_
    refine E.next ?_
    refine C.block ?_
    refine C.seq ?_
    refine C.reg ?_
    refine W.y (y_move rfl) rfl ?_
    refine W.y (y_move rfl) rfl ?_
    refine W.y (y_move rfl) rfl ?_
    refine W.y (Does.as (y_add rfl rfl (wi64 (by omega) (by omega))) (vint (b := ((4 * q + 8 : Nat) : Int)) (by omega))) rfl ?_
    refine W.y (y_cutlh rfl rfl rfl Try.underlying24 siz5 (by omega) (by omega)) rfl ?_
    rw [cut_addr (j := so + 4 * q) rfl (by omega)]
    refine W.y (y_assign rfl) rfl ?_
    refine W.fin ?_
    refine E.next ?_
    refine C.seq ?_
    refine C.held (fun w' => Bk w' ge cs te fz ∧ Bs w' sb (so + 4 * q) (src.drop (4 * q))) mixed ?_
    refine AH.take 0 rfl (by kernel_rfl) (by kernel_rfl) (by kernel_rfl) (fun _ _ => y_move rfl) hS0 rfl ?_
    refine AH.take 1 rfl (by kernel_rfl) (by kernel_rfl) (by kernel_rfl) (fun _ _ => y_move rfl) hS0 rfl ?_
    refine AH.take 2 rfl (by kernel_rfl) (by kernel_rfl) (by kernel_rfl) (fun _ _ => y_ixn (i := 0) rfl rfl Try.underlying24 siz5 (by omega)) hS0 rfl ?_
    refine AH.take 3 rfl (by kernel_rfl) (by kernel_rfl) (by kernel_rfl) (fun _ hw => y_load rfl pl5 (hw.2 0 _ hx0)) hS0 rfl ?_
    refine AH.take 4 rfl (by kernel_rfl) (by kernel_rfl) (by kernel_rfl) (fun _ _ => y_nilp rfl) hS0 rfl ?_
    refine AH.take 5 rfl (by kernel_rfl) (by kernel_rfl) (by kernel_rfl) (fun _ _ => y_field rfl fld85_1) hS0 rfl ?_
    refine AH.take 6 rfl (by kernel_rfl) (by kernel_rfl) (by kernel_rfl) (fun _ _ => y_ixa rfl rfl Try.underlying83 siz5 (by omega)) hS0 rfl ?_
    refine AH.take 7 rfl (by kernel_rfl) (by kernel_rfl) (by kernel_rfl) (fun _ hw => Does.as (y_load rfl pl5 (Bk.at_ hw.1 (he.dec _ (UInt8.toNat_lt (Pl.letter al v0))))) (vint (b := (v0 : Int)) (by rw [hm0]))) hS0 rfl ?_
    refine AH.take 8 rfl (by kernel_rfl) (by kernel_rfl) (by kernel_rfl) (fun _ _ => y_move rfl) hS0 rfl ?_
    refine AH.take 9 rfl (by kernel_rfl) (by kernel_rfl) (by kernel_rfl) (fun _ _ => y_move rfl) hS0 rfl ?_
    refine AH.take 10 rfl (by kernel_rfl) (by kernel_rfl) (by kernel_rfl) (fun _ _ => y_ixn (i := 1) rfl rfl Try.underlying24 siz5 (by omega)) hS0 rfl ?_
    refine AH.take 11 rfl (by kernel_rfl) (by kernel_rfl) (by kernel_rfl) (fun _ hw => y_load rfl pl5 (hw.2 1 _ hx1)) hS0 rfl ?_
    refine AH.take 12 rfl (by kernel_rfl) (by kernel_rfl) (by kernel_rfl) (fun _ _ => y_nilp rfl) hS0 rfl ?_
    refine AH.take 13 rfl (by kernel_rfl) (by kernel_rfl) (by kernel_rfl) (fun _ _ => y_field rfl fld85_1) hS0 rfl ?_
    refine AH.take 14 rfl (by kernel_rfl) (by kernel_rfl) (by kernel_rfl) (fun _ _ => y_ixa rfl rfl Try.underlying83 siz5 (by omega)) hS0 rfl ?_
    refine AH.take 15 rfl (by kernel_rfl) (by kernel_rfl) (by kernel_rfl) (fun _ hw => Does.as (y_load rfl pl5 (Bk.at_ hw.1 (he.dec _ (UInt8.toNat_lt (Pl.letter al v1))))) (vint (b := (v1 : Int)) (by rw [hm1]))) hS0 rfl ?_
    refine AH.take 16 rfl (by kernel_rfl) (by kernel_rfl) (by kernel_rfl) (fun _ _ => y_move rfl) hS0 rfl ?_
    refine AH.take 17 rfl (by kernel_rfl) (by kernel_rfl) (by kernel_rfl) (fun _ _ => y_move rfl) hS0 rfl ?_
    refine AH.take 18 rfl (by kernel_rfl) (by kernel_rfl) (by kernel_rfl) (fun _ _ => y_ixn (i := 2) rfl rfl Try.underlying24 siz5 (by omega)) hS0 rfl ?_
    refine AH.take 19 rfl (by kernel_rfl) (by kernel_rfl) (by kernel_rfl) (fun _ hw => y_load rfl pl5 (hw.2 2 _ hx2)) hS0 rfl ?_
    refine AH.take 20 rfl (by kernel_rfl) (by kernel_rfl) (by kernel_rfl) (fun _ _ => y_nilp rfl) hS0 rfl ?_
    refine AH.take 21 rfl (by kernel_rfl) (by kernel_rfl) (by kernel_rfl) (fun _ _ => y_field rfl fld85_1) hS0 rfl ?_
    refine AH.take 22 rfl (by kernel_rfl) (by kernel_rfl) (by kernel_rfl) (fun _ _ => y_ixa rfl rfl Try.underlying83 siz5 (by omega)) hS0 rfl ?_
    refine AH.take 23 rfl (by kernel_rfl) (by kernel_rfl) (by kernel_rfl) (fun _ hw => Does.as (y_load rfl pl5 (Bk.at_ hw.1 (he.dec _ (UInt8.toNat_lt (Pl.letter al v2))))) (vint (b := (v2 : Int)) (by rw [hm2]))) hS0 rfl ?_
    refine AH.take 24 rfl (by kernel_rfl) (by kernel_rfl) (by kernel_rfl) (fun _ _ => y_move rfl) hS0 rfl ?_
    refine AH.take 25 rfl (by kernel_rfl) (by kernel_rfl) (by kernel_rfl) (fun _ _ => y_move rfl) hS0 rfl ?_
    refine AH.take 26 rfl (by kernel_rfl) (by kernel_rfl) (by kernel_rfl) (fun _ _ => y_ixn (i := 3) rfl rfl Try.underlying24 siz5 (by omega)) hS0 rfl ?_
    refine AH.take 27 rfl (by kernel_rfl) (by kernel_rfl) (by kernel_rfl) (fun _ hw => y_load rfl pl5 (hw.2 3 _ hx3)) hS0 rfl ?_
    refine AH.take 28 rfl (by kernel_rfl) (by kernel_rfl) (by kernel_rfl) (fun _ _ => y_nilp rfl) hS0 rfl ?_
    refine AH.take 29 rfl (by kernel_rfl) (by kernel_rfl) (by kernel_rfl) (fun _ _ => y_field rfl fld85_1) hS0 rfl ?_
    refine AH.take 30 rfl (by kernel_rfl) (by kernel_rfl) (by kernel_rfl) (fun _ _ => y_ixa rfl rfl Try.underlying83 siz5 (by omega)) hS0 rfl ?_
    refine AH.take 31 rfl (by kernel_rfl) (by kernel_rfl) (by kernel_rfl) (fun _ hw => Does.as (y_load rfl pl5 (Bk.at_ hw.1 (he.dec _ (UInt8.toNat_lt (Pl.letter al v3))))) (vint (b := (v3 : Int)) (by rw [hm3]))) hS0 rfl ?_
    refine AH.take 32 rfl (by kernel_rfl) (by kernel_rfl) (by kernel_rfl) (fun _ _ => y_move rfl) hS0 rfl ?_
    refine AH.take 33 rfl (by kernel_rfl) (by kernel_rfl) (by kernel_rfl) (fun _ _ => y_move rfl) hS0 rfl ?_
    refine AH.take 34 rfl (by kernel_rfl) (by kernel_rfl) (by kernel_rfl) (fun _ _ => y_ixn (i := 4) rfl rfl Try.underlying24 siz5 (by omega)) hS0 rfl ?_
    refine AH.take 35 rfl (by kernel_rfl) (by kernel_rfl) (by kernel_rfl) (fun _ hw => y_load rfl pl5 (hw.2 4 _ hx4)) hS0 rfl ?_
    refine AH.take 36 rfl (by kernel_rfl) (by kernel_rfl) (by kernel_rfl) (fun _ _ => y_nilp rfl) hS0 rfl ?_
    refine AH.take 37 rfl (by kernel_rfl) (by kernel_rfl) (by kernel_rfl) (fun _ _ => y_field rfl fld85_1) hS0 rfl ?_
    refine AH.take 38 rfl (by kernel_rfl) (by kernel_rfl) (by kernel_rfl) (fun _ _ => y_ixa rfl rfl Try.underlying83 siz5 (by omega)) hS0 rfl ?_
    refine AH.take 39 rfl (by kernel_rfl) (by kernel_rfl) (by kernel_rfl) (fun _ hw => Does.as (y_load rfl pl5 (Bk.at_ hw.1 (he.dec _ (UInt8.toNat_lt (Pl.letter al v4))))) (vint (b := (v4 : Int)) (by rw [hm4]))) hS0 rfl ?_
    refine AH.take 40 rfl (by kernel_rfl) (by kernel_rfl) (by kernel_rfl) (fun _ _ => y_move rfl) hS0 rfl ?_
    refine AH.take 41 rfl (by kernel_rfl) (by kernel_rfl) (by kernel_rfl) (fun _ _ => y_move rfl) hS0 rfl ?_
    refine AH.take 42 rfl (by kernel_rfl) (by kernel_rfl) (by kernel_rfl) (fun _ _ => y_ixn (i := 5) rfl rfl Try.underlying24 siz5 (by omega)) hS0 rfl ?_
    refine AH.take 43 rfl (by kernel_rfl) (by kernel_rfl) (by kernel_rfl) (fun _ hw => y_load rfl pl5 (hw.2 5 _ hx5)) hS0 rfl ?_
    refine AH.take 44 rfl (by kernel_rfl) (by kernel_rfl) (by kernel_rfl) (fun _ _ => y_nilp rfl) hS0 rfl ?_
    refine AH.take 45 rfl (by kernel_rfl) (by kernel_rfl) (by kernel_rfl) (fun _ _ => y_field rfl fld85_1) hS0 rfl ?_
    refine AH.take 46 rfl (by kernel_rfl) (by kernel_rfl) (by kernel_rfl) (fun _ _ => y_ixa rfl rfl Try.underlying83 siz5 (by omega)) hS0 rfl ?_
    refine AH.take 47 rfl (by kernel_rfl) (by kernel_rfl) (by kernel_rfl) (fun _ hw => Does.as (y_load rfl pl5 (Bk.at_ hw.1 (he.dec _ (UInt8.toNat_lt (Pl.letter al v5))))) (vint (b := (v5 : Int)) (by rw [hm5]))) hS0 rfl ?_
    refine AH.take 48 rfl (by kernel_rfl) (by kernel_rfl) (by kernel_rfl) (fun _ _ => y_move rfl) hS0 rfl ?_
    refine AH.take 49 rfl (by kernel_rfl) (by kernel_rfl) (by kernel_rfl) (fun _ _ => y_move rfl) hS0 rfl ?_
    refine AH.take 50 rfl (by kernel_rfl) (by kernel_rfl) (by kernel_rfl) (fun _ _ => y_ixn (i := 6) rfl rfl Try.underlying24 siz5 (by omega)) hS0 rfl ?_
    refine AH.take 51 rfl (by kernel_rfl) (by kernel_rfl) (by kernel_rfl) (fun _ hw => y_load rfl pl5 (hw.2 6 _ hx6)) hS0 rfl ?_
    refine AH.take 52 rfl (by kernel_rfl) (by kernel_rfl) (by kernel_rfl) (fun _ _ => y_nilp rfl) hS0 rfl ?_
    refine AH.take 53 rfl (by kernel_rfl) (by kernel_rfl) (by kernel_rfl) (fun _ _ => y_field rfl fld85_1) hS0 rfl ?_
    refine AH.take 54 rfl (by kernel_rfl) (by kernel_rfl) (by kernel_rfl) (fun _ _ => y_ixa rfl rfl Try.underlying83 siz5 (by omega)) hS0 rfl ?_
    refine AH.take 55 rfl (by kernel_rfl) (by kernel_rfl) (by kernel_rfl) (fun _ hw => Does.as (y_load rfl pl5 (Bk.at_ hw.1 (he.dec _ (UInt8.toNat_lt (Pl.letter al v6))))) (vint (b := (v6 : Int)) (by rw [hm6]))) hS0 rfl ?_
    refine AH.take 56 rfl (by kernel_rfl) (by kernel_rfl) (by kernel_rfl) (fun _ _ => y_move rfl) hS0 rfl ?_
    refine AH.take 57 rfl (by kernel_rfl) (by kernel_rfl) (by kernel_rfl) (fun _ _ => y_move rfl) hS0 rfl ?_
    refine AH.take 58 rfl (by kernel_rfl) (by kernel_rfl) (by kernel_rfl) (fun _ _ => y_ixn (i := 7) rfl rfl Try.underlying24 siz5 (by omega)) hS0 rfl ?_
    refine AH.take 59 rfl (by kernel_rfl) (by kernel_rfl) (by kernel_rfl) (fun _ hw => y_load rfl pl5 (hw.2 7 _ hx7)) hS0 rfl ?_
    refine AH.take 60 rfl (by kernel_rfl) (by kernel_rfl) (by kernel_rfl) (fun _ _ => y_nilp rfl) hS0 rfl ?_
    refine AH.take 61 rfl (by kernel_rfl) (by kernel_rfl) (by kernel_rfl) (fun _ _ => y_field rfl fld85_1) hS0 rfl ?_
    refine AH.take 62 rfl (by kernel_rfl) (by kernel_rfl) (by kernel_rfl) (fun _ _ => y_ixa rfl rfl Try.underlying83 siz5 (by omega)) hS0 rfl ?_
    refine AH.take 63 rfl (by kernel_rfl) (by kernel_rfl) (by kernel_rfl) (fun _ hw => Does.as (y_load rfl pl5 (Bk.at_ hw.1 (he.dec _ (UInt8.toNat_lt (Pl.letter al v7))))) (vint (b := (v7 : Int)) (by rw [hm7]))) hS0 rfl ?_
    refine AH.oneCall 64 rfl (by kernel_rfl) ent48 rfl (assemble64_ret t0 t1 t2 t3 t4 t5 t6 t7) rfl ?_
    rintro _ _ ⟨rfl, rfl⟩
    refine ⟨hS0, ?_⟩
    refine AH.take 65 rfl (by kernel_rfl) (by kernel_rfl) (by kernel_rfl) (fun _ _ => y_move rfl) hS0 rfl ?_
    refine AH.take 66 rfl (by kernel_rfl) (by kernel_rfl) (by kernel_rfl) (fun _ _ => y_ext rfl rfl) hS0 rfl ?_
    refine AH.take 67 rfl (by kernel_rfl) (by kernel_rfl) (by kernel_rfl) (fun _ _ => y_ext rfl rfl) hS0 rfl ?_
    refine AH.take 68 rfl (by kernel_rfl) (by kernel_rfl) (by kernel_rfl) (fun _ _ => y_assign rfl) hS0 rfl ?_
    refine AH.take 69 rfl (by kernel_rfl) (by kernel_rfl) (by kernel_rfl) (fun _ _ => y_assign rfl) hS0 rfl ?_
    refine AH.done (by kernel_rfl) ?_
    refine E.next ?_
    refine C.seq ?_
    refine C.reg ?_
    refine W.y (y_move rfl) rfl ?_
    refine W.fin ?_
    refine E.next ?_
    refine C.yes rfl ?_
    refine C.seq ?_
    refine C.reg ?_
    refine W.y (y_move rfl) rfl ?_
    refine W.y (y_move rfl) rfl ?_
    refine W.y (y_cutl rfl rfl Try.underlying24 siz5 (by omega)) rfl ?_
    rw [cut_addr (j := off + 3 * q) rfl (by omega)]
    refine W.y (y_move rfl) rfl ?_
    refine W.call ent49 rfl (bePut64_ret rfl hDj.drew (by omega) (by omega) (by omega)) rfl ?_
    rintro _ w2 ⟨hb2, hk2⟩
    refine W.fin ?_
    refine E.next ?_
    refine C.seq ?_
    refine C.reg ?_
    refine W.y (y_move rfl) rfl ?_
    refine W.y (Does.as (y_add rfl rfl (wi64 (by omega) (by omega))) (vint (b := ((3 * (q + 2) : Nat) : Int)) (by omega))) rfl ?_
    refine W.y (y_assign rfl) rfl ?_
    refine W.fin ?_
    refine E.next ?_
    refine C.reg ?_
    refine W.y (y_move rfl) rfl ?_
    refine W.y (Does.as (y_add rfl rfl (wi64 (by omega) (by omega))) (vint (b := ((4 * (q + 2) : Nat) : Int)) (by omega))) rfl ?_
    refine W.y (y_assign rfl) rfl ?_
    refine W.fin ?_
    refine E.blockNormal ?_
    have hun : Pl.unpack 6 (vs.take (4 * (q + 2))) = Pl.unpack 6 (vs.take (4 * q)) ++ Pl.unpack 6 [v0, v1, v2, v3, v4, v5, v6, v7] := by
      rw [show 4 * (q + 2) = 4 * q + 8 by omega, take_more8 (m := 4 * q) q0 q1 q2 q3 q4 q5 q6 q7, Pl.unpack_append (m := 3 * q) (by omega) _ _ (by rw [List.length_take]; omega)]
    rw [put64_bytes t0 t1 t2 t3 t4 t5 t6 t7 rfl] at hb2
    exact E.again (q + 2) ⟨by omega, ⟨_, hb2, by rw [splice_size]; exact hdz, by rw [hun]; exact hHd.put hul (by rw [Pl.unpack_length]; simp only [List.length_cons, List.length_nil]; omega)⟩, hKj.drew.trans hk2⟩ (Sub.cons rfl (Sub.cons rfl (Sub.cons rfl (Sub.cons rfl (Sub.cons rfl (Sub.cons rfl (Sub.nil _))))))) (by omega)
  rintro q wj ⟨hq4, ⟨dj, hDj, hdz, hHd⟩, hKj⟩
  show C _ _ _ _ [(0, .pointer (some ⟨ge, 0, none⟩)), (1, .slice (some ⟨g, off, none⟩) m c'), (2, .slice (some ⟨sb, so, none⟩) src.length c), (7, .nilIface), (6, .int .i64 ((3 * q : Nat) : Int)), (8, .int .i64 ((4 * q : Nat) : Int))] _
  refine C.mid (σ := Nat) (fun q w' => 4 * q ≤ vs.length ∧ (∃ ds', Bk w' g ds' td fd ∧ ds'.size = ds.size ∧ Hd ds' off (Pl.unpack 6 (vs.take (4 * q)))) ∧ Kp (· = g) w w') (fun q => [(0, .pointer (some ⟨ge, 0, none⟩)), (1, .slice (some ⟨g, off, none⟩) m c'), (2, .slice (some ⟨sb, so, none⟩) src.length c), (7, .nilIface), (6, .int .i64 ((3 * q : Nat) : Int)), (8, .int .i64 ((4 * q : Nat) : Int))]) ?_ ?_
  · refine C.block ?_
    refine C.loop (σ := Nat) (fun q w' => 4 * q ≤ vs.length ∧ (∃ ds', Bk w' g ds' td fd ∧ ds'.size = ds.size ∧ Hd ds' off (Pl.unpack 6 (vs.take (4 * q)))) ∧ Kp (· = g) w w') (fun q => [(0, .pointer (some ⟨ge, 0, none⟩)), (1, .slice (some ⟨g, off, none⟩) m c'), (2, .slice (some ⟨sb, so, none⟩) src.length c), (7, .nilIface), (6, .int .i64 ((3 * q : Nat) : Int)), (8, .int .i64 ((4 * q : Nat) : Int))]) (fun q => vs.length - 4 * q) q ?_ ?_ ?_
    · exact ⟨hq4, ⟨dj, hDj, hdz, hHd⟩, hKj⟩
    · exact (Sub.cons rfl (Sub.cons rfl (Sub.cons rfl (Sub.cons rfl (Sub.cons rfl (Sub.cons rfl (Sub.nil _)))))))
    rintro q wj ⟨hq4, ⟨dj, hDj, hdz, hHd⟩, hKj⟩
    show C _ _ _ _ [(0, .pointer (some ⟨ge, 0, none⟩)), (1, .slice (some ⟨g, off, none⟩) m c'), (2, .slice (some ⟨sb, so, none⟩) src.length c), (7, .nilIface), (6, .int .i64 ((3 * q : Nat) : Int)), (8, .int .i64 ((4 * q : Nat) : Int))] _
    by_cases hs8 : src.length < 4 * q + 4
    · skip
      refine C.seq ?_
      refine C.seq ?_
      refine C.reg ?_
      refine W.y (y_move rfl) rfl ?_
      refine W.y (y_len rfl Try.underlying24) rfl ?_
      refine W.y (y_move rfl) rfl ?_
      refine W.y (y_sub rfl rfl (wi64 (by omega) (by omega))) rfl ?_
      refine W.y (y_geqF rfl rfl (by omega)) rfl ?_
      refine W.y (y_move rfl) rfl ?_
      refine W.gn rfl rfl rfl ?_
      refine W.gn rfl rfl rfl ?_
      refine W.gn rfl rfl rfl ?_
      refine W.gn rfl rfl rfl ?_
      refine W.gn rfl rfl rfl ?_
      refine W.y (y_pick rfl rfl) rfl ?_
      refine W.fin ?_
      refine E.next ?_
      refine C.no rfl ?_
      refine C.exit ?_
      refine E.thenExit ?_
      refine E.thenExit ?_
      refine E.blockOut ?_
      exact E.mid (q) ⟨hq4, ⟨dj, hDj, hdz, hHd⟩, hKj⟩ (Sub.cons rfl (Sub.cons rfl (Sub.cons rfl (Sub.cons rfl (Sub.cons rfl (Sub.cons rfl (Sub.nil _)))))))
    by_cases hd8 : m < 3 * q + 4
    · skip
      refine C.seq ?_
      refine C.seq ?_
      refine C.reg ?_
      refine W.y (y_move rfl) rfl ?_
      refine W.y (y_len rfl Try.underlying24) rfl ?_
      refine W.y (y_move rfl) rfl ?_
      refine W.y (y_sub rfl rfl (wi64 (by omega) (by omega))) rfl ?_
      refine W.y (y_geqT rfl rfl (by omega)) rfl ?_
      refine W.y (y_move rfl) rfl ?_
      refine W.gy rfl rfl (y_move rfl) rfl ?_
      refine W.gy rfl rfl (y_len rfl Try.underlying24) rfl ?_
      refine W.gy rfl rfl (y_move rfl) rfl ?_
      refine W.gy rfl rfl (y_sub rfl rfl (wi64 (by omega) (by omega))) rfl ?_
      refine W.gy rfl rfl (y_geqF rfl rfl (by omega)) rfl ?_
      refine W.y (y_pick rfl rfl) rfl ?_
      refine W.fin ?_
      refine E.next ?_
      refine C.no rfl ?_
      refine C.exit ?_
      refine E.thenExit ?_
      refine E.thenExit ?_
      refine E.blockOut ?_
      exact E.mid (q) ⟨hq4, ⟨dj, hDj, hdz, hHd⟩, hKj⟩ (Sub.cons rfl (Sub.cons rfl (Sub.cons rfl (Sub.cons rfl (Sub.cons rfl (Sub.cons rfl (Sub.nil _)))))))
    have hvl : 4 * q + 4 ≤ vs.length := by omega
    have hEj : Bk wj ge cs te fz := hE.kept hKj hne
    have hBj : Bs wj sb so src := hB.kept hKj hsb
    have hul : (Pl.unpack 6 (vs.take (4 * q))).length = 3 * q := by rw [Pl.unpack_length, List.length_take]; omega
    obtain ⟨v0, q0⟩ : ∃ v, vs[4 * q + 0]? = some v := ⟨_, List.getElem?_eq_getElem (by omega)⟩
    have t0 := hv v0 (List.mem_of_getElem? q0)
    have hl0 := letter_get t0 hf.len
    have hb0 := (Pl.letter al v0).toNat_lt
    have hm0 := hf.dm_at hl0
    have hx0 : (src.drop (4 * q))[0]? = some (Pl.letter al v0) := by rw [List.getElem?_drop, hsrc, List.getElem?_append_left (by rw [List.length_map]; omega), List.getElem?_map, q0]; rfl
    obtain ⟨v1, q1⟩ : ∃ v, vs[4 * q + 1]? = some v := ⟨_, List.getElem?_eq_getElem (by omega)⟩
    have t1 := hv v1 (List.mem_of_getElem? q1)
    have hl1 := letter_get t1 hf.len
    have hb1 := (Pl.letter al v1).toNat_lt
    have hm1 := hf.dm_at hl1
    have hx1 : (src.drop (4 * q))[1]? = some (Pl.letter al v1) := by rw [List.getElem?_drop, hsrc, List.getElem?_append_left (by rw [List.length_map]; omega), List.getElem?_map, q1]; rfl
    obtain ⟨v2, q2⟩ : ∃ v, vs[4 * q + 2]? = some v := ⟨_, List.getElem?_eq_getElem (by omega)⟩
    have t2 := hv v2 (List.mem_of_getElem? q2)
    have hl2 := letter_get t2 hf.len
    have hb2 := (Pl.letter al v2).toNat_lt
    have hm2 := hf.dm_at hl2
    have hx2 : (src.drop (4 * q))[2]? = some (Pl.letter al v2) := by rw [List.getElem?_drop, hsrc, List.getElem?_append_left (by rw [List.length_map]; omega), List.getElem?_map, q2]; rfl
    obtain ⟨v3, q3⟩ : ∃ v, vs[4 * q + 3]? = some v := ⟨_, List.getElem?_eq_getElem (by omega)⟩
    have t3 := hv v3 (List.mem_of_getElem? q3)
    have hl3 := letter_get t3 hf.len
    have hb3 := (Pl.letter al v3).toNat_lt
    have hm3 := hf.dm_at hl3
    have hx3 : (src.drop (4 * q))[3]? = some (Pl.letter al v3) := by rw [List.getElem?_drop, hsrc, List.getElem?_append_left (by rw [List.length_map]; omega), List.getElem?_map, q3]; rfl
    have hS0 : Bk wj.drew ge cs te fz ∧ Bs wj.drew sb (so + 4 * q) (src.drop (4 * q)) := ⟨hEj.drew, (hBj.cut (4 * q)).drew⟩
    refine C.seq ?_
    refine C.seq ?_
    refine C.reg ?_
    refine W.y (y_move rfl) rfl ?_
    refine W.y (y_len rfl Try.underlying24) rfl ?_
    refine W.y (y_move rfl) rfl ?_
    refine W.y (y_sub rfl rfl (wi64 (by omega) (by omega))) rfl ?_
    refine W.y (y_geqT rfl rfl (by omega)) rfl ?_
    refine W.y (y_move rfl) rfl ?_
    refine W.gy rfl rfl (y_move rfl) rfl ?_
    refine W.gy rfl rfl (y_len rfl Try.underlying24) rfl ?_
    refine W.gy rfl rfl (y_move rfl) rfl ?_
    refine W.gy rfl rfl (y_sub rfl rfl (wi64 (by omega) (by omega))) rfl ?_
    refine W.gy rfl rfl (y_geqT rfl rfl (by omega)) rfl ?_
    refine W.y (y_pick rfl rfl) rfl ?_
    refine W.fin ?_
    refine E.next ?_
    refine C.yes rfl ?_
    refine C.skip ?_
    refine E.next ?_
    refine C.block ?_
    refine C.seq ?_
    refine C.reg ?_
    refine W.y (y_move rfl) rfl ?_
    refine W.y (y_move rfl) rfl ?_
    refine W.y (y_move rfl) rfl ?_
    refine W.y (Does.as (y_add rfl rfl (wi64 (by omega) (by omega))) (vint (b := ((4 * q + 4 : Nat) : Int)) (by omega))) rfl ?_
    refine W.y (y_cutlh rfl rfl rfl Try.underlying24 siz5 (by omega) (by omega)) rfl ?_
    rw [cut_addr (j := so + 4 * q) rfl (by omega)]
    refine W.y (y_assign rfl) rfl ?_
    refine W.fin ?_
    refine E.next ?_
    refine C.seq ?_
    refine C.held (fun w' => Bk w' ge cs te fz ∧ Bs w' sb (so + 4 * q) (src.drop (4 * q))) mixed ?_
    refine AH.take 0 rfl (by kernel_rfl) (by kernel_rfl) (by kernel_rfl) (fun _ _ => y_move rfl) hS0 rfl ?_
    refine AH.take 1 rfl (by kernel_rfl) (by kernel_rfl) (by kernel_rfl) (fun _ _ => y_move rfl) hS0 rfl ?_
    refine AH.take 2 rfl (by kernel_rfl) (by kernel_rfl) (by kernel_rfl) (fun _ _ => y_ixn (i := 0) rfl rfl Try.underlying24 siz5 (by omega)) hS0 rfl ?_
    refine AH.take 3 rfl (by kernel_rfl) (by kernel_rfl) (by kernel_rfl) (fun _ hw => y_load rfl pl5 (hw.2 0 _ hx0)) hS0 rfl ?_
    refine AH.take 4 rfl (by kernel_rfl) (by kernel_rfl) (by kernel_rfl) (fun _ _ => y_nilp rfl) hS0 rfl ?_
    refine AH.take 5 rfl (by kernel_rfl) (by kernel_rfl) (by kernel_rfl) (fun _ _ => y_field rfl fld85_1) hS0 rfl ?_
    refine AH.take 6 rfl (by kernel_rfl) (by kernel_rfl) (by kernel_rfl) (fun _ _ => y_ixa rfl rfl Try.underlying83 siz5 (by omega)) hS0 rfl ?_
    refine AH.take 7 rfl (by kernel_rfl) (by kernel_rfl) (by kernel_rfl) (fun _ hw => Does.as (y_load rfl pl5 (Bk.at_ hw.1 (he.dec _ (UInt8.toNat_lt (Pl.letter al v0))))) (vint (b := (v0 : Int)) (by rw [hm0]))) hS0 rfl ?_
    refine AH.take 8 rfl (by kernel_rfl) (by kernel_rfl) (by kernel_rfl) (fun _ _ => y_move rfl) hS0 rfl ?_
    refine AH.take 9 rfl (by kernel_rfl) (by kernel_rfl) (by kernel_rfl) (fun _ _ => y_move rfl) hS0 rfl ?_
    refine AH.take 10 rfl (by kernel_rfl) (by kernel_rfl) (by kernel_rfl) (fun _ _ => y_ixn (i := 1) rfl rfl Try.underlying24 siz5 (by omega)) hS0 rfl ?_
    refine AH.take 11 rfl (by kernel_rfl) (by kernel_rfl) (by kernel_rfl) (fun _ hw => y_load rfl pl5 (hw.2 1 _ hx1)) hS0 rfl ?_
    refine AH.take 12 rfl (by kernel_rfl) (by kernel_rfl) (by kernel_rfl) (fun _ _ => y_nilp rfl) hS0 rfl ?_
    refine AH.take 13 rfl (by kernel_rfl) (by kernel_rfl) (by kernel_rfl) (fun _ _ => y_field rfl fld85_1) hS0 rfl ?_
    refine AH.take 14 rfl (by kernel_rfl) (by kernel_rfl) (by kernel_rfl) (fun _ _ => y_ixa rfl rfl Try.underlying83 siz5 (by omega)) hS0 rfl ?_
    refine AH.take 15 rfl (by kernel_rfl) (by kernel_rfl) (by kernel_rfl) (fun _ hw => Does.as (y_load rfl pl5 (Bk.at_ hw.1 (he.dec _ (UInt8.toNat_lt (Pl.letter al v1))))) (vint (b := (v1 : Int)) (by rw [hm1]))) hS0 rfl ?_
    refine AH.take 16 rfl (by kernel_rfl) (by kernel_rfl) (by kernel_rfl) (fun _ _ => y_move rfl) hS0 rfl ?_
    refine AH.take 17 rfl (by kernel_rfl) (by kernel_rfl) (by kernel_rfl) (fun _ _ => y_move rfl) hS0 rfl ?_
    refine AH.take 18 rfl (by kernel_rfl) (by kernel_rfl) (by kernel_rfl) (fun _ _ => y_ixn (i := 2) rfl rfl Try.underlying24 siz5 (by omega)) hS0 rfl ?_
    refine AH.take 19 rfl (by kernel_rfl) (by kernel_rfl) (by kernel_rfl) (fun _ hw => y_load rfl pl5 (hw.2 2 _ hx2)) hS0 rfl ?_
    refine AH.take 20 rfl (by kernel_rfl) (by kernel_rfl) (by kernel_rfl) (fun _ _ => y_nilp rfl) hS0 rfl ?_
    refine AH.take 21 rfl (by kernel_rfl) (by kernel_rfl) (by kernel_rfl) (fun _ _ => y_field rfl fld85_1) hS0 rfl ?_
    refine AH.take 22 rfl (by kernel_rfl) (by kernel_rfl) (by kernel_rfl) (fun _ _ => y_ixa rfl rfl Try.underlying83 siz5 (by omega)) hS0 rfl ?_
    refine AH.take 23 rfl (by kernel_rfl) (by kernel_rfl) (by kernel_rfl) (fun _ hw => Does.as (y_load rfl pl5 (Bk.at_ hw.1 (he.dec _ (UInt8.toNat_lt (Pl.letter al v2))))) (vint (b := (v2 : Int)) (by rw [hm2]))) hS0 rfl ?_
    refine AH.take 24 rfl (by kernel_rfl) (by kernel_rfl) (by kernel_rfl) (fun _ _ => y_move rfl) hS0 rfl ?_
    refine AH.take 25 rfl (by kernel_rfl) (by kernel_rfl) (by kernel_rfl) (fun _ _ => y_move rfl) hS0 rfl ?_
    refine AH.take 26 rfl (by kernel_rfl) (by kernel_rfl) (by kernel_rfl) (fun _ _ => y_ixn (i := 3) rfl rfl Try.underlying24 siz5 (by omega)) hS0 rfl ?_
    refine AH.take 27 rfl (by kernel_rfl) (by kernel_rfl) (by kernel_rfl) (fun _ hw => y_load rfl pl5 (hw.2 3 _ hx3)) hS0 rfl ?_
    refine AH.take 28 rfl (by kernel_rfl) (by kernel_rfl) (by kernel_rfl) (fun _ _ => y_nilp rfl) hS0 rfl ?_
    refine AH.take 29 rfl (by kernel_rfl) (by kernel_rfl) (by kernel_rfl) (fun _ _ => y_field rfl fld85_1) hS0 rfl ?_
    refine AH.take 30 rfl (by kernel_rfl) (by kernel_rfl) (by kernel_rfl) (fun _ _ => y_ixa rfl rfl Try.underlying83 siz5 (by omega)) hS0 rfl ?_
    refine AH.take 31 rfl (by kernel_rfl) (by kernel_rfl) (by kernel_rfl) (fun _ hw => Does.as (y_load rfl pl5 (Bk.at_ hw.1 (he.dec _ (UInt8.toNat_lt (Pl.letter al v3))))) (vint (b := (v3 : Int)) (by rw [hm3]))) hS0 rfl ?_
    refine AH.oneCall 32 rfl (by kernel_rfl) ent51 rfl (assemble32_ret t0 t1 t2 t3) rfl ?_
    rintro _ _ ⟨rfl, rfl⟩
    refine ⟨hS0, ?_⟩
    refine AH.take 33 rfl (by kernel_rfl) (by kernel_rfl) (by kernel_rfl) (fun _ _ => y_move rfl) hS0 rfl ?_
    refine AH.take 34 rfl (by kernel_rfl) (by kernel_rfl) (by kernel_rfl) (fun _ _ => y_ext rfl rfl) hS0 rfl ?_
    refine AH.take 35 rfl (by kernel_rfl) (by kernel_rfl) (by kernel_rfl) (fun _ _ => y_ext rfl rfl) hS0 rfl ?_
    refine AH.take 36 rfl (by kernel_rfl) (by kernel_rfl) (by kernel_rfl) (fun _ _ => y_assign rfl) hS0 rfl ?_
    refine AH.take 37 rfl (by kernel_rfl) (by kernel_rfl) (by kernel_rfl) (fun _ _ => y_assign rfl) hS0 rfl ?_
    refine AH.done (by kernel_rfl) ?_
    refine E.next ?_
    refine C.seq ?_
    refine C.reg ?_
    refine W.y (y_move rfl) rfl ?_
    refine W.fin ?_
    refine E.next ?_
    refine C.yes rfl ?_
    refine C.seq ?_
    refine C.reg ?_
    refine W.y (y_move rfl) rfl ?_
    refine W.y (y_move rfl) rfl ?_
    refine W.y (y_cutl rfl rfl Try.underlying24 siz5 (by omega)) rfl ?_
    rw [cut_addr (j := off + 3 * q) rfl (by omega)]
    refine W.y (y_move rfl) rfl ?_
    refine W.call ent52 rfl (bePut32_ret rfl hDj.drew (by omega) (by omega) (by omega)) rfl ?_
    rintro _ w2 ⟨hb2, hk2⟩
    refine W.fin ?_
    refine E.next ?_
    refine C.seq ?_
    refine C.reg ?_
    refine W.y (y_move rfl) rfl ?_
    refine W.y (Does.as (y_add rfl rfl (wi64 (by omega) (by omega))) (vint (b := ((3 * (q + 1) : Nat) : Int)) (by omega))) rfl ?_
    refine W.y (y_assign rfl) rfl ?_
    refine W.fin ?_
    refine E.next ?_
    refine C.reg ?_
    refine W.y (y_move rfl) rfl ?_
    refine W.y (Does.as (y_add rfl rfl (wi64 (by omega) (by omega))) (vint (b := ((4 * (q + 1) : Nat) : Int)) (by omega))) rfl ?_
    refine W.y (y_assign rfl) rfl ?_
    refine W.fin ?_
    refine E.blockNormal ?_
    have hun : Pl.unpack 6 (vs.take (4 * (q + 1))) = Pl.unpack 6 (vs.take (4 * q)) ++ Pl.unpack 6 [v0, v1, v2, v3] := by
      rw [show 4 * (q + 1) = 4 * q + 4 by omega, take_more4 (m := 4 * q) q0 q1 q2 q3, Pl.unpack_append (m := 3 * q) (by omega) _ _ (by rw [List.length_take]; omega)]
    rw [put32_bytes t0 t1 t2 t3 rfl] at hb2
    exact E.again (q + 1) ⟨by omega, ⟨_, hb2, by rw [splice_size]; exact hdz, by rw [hun]; exact hHd.put hul (by rw [Pl.unpack_length]; simp only [List.length_cons, List.length_nil]; omega)⟩, hKj.drew.trans hk2⟩ (Sub.cons rfl (Sub.cons rfl (Sub.cons rfl (Sub.cons rfl (Sub.cons rfl (Sub.cons rfl (Sub.nil _))))))) (by omega)
  rintro q wj ⟨hq4, ⟨dj, hDj, hdz, hHd⟩, hKj⟩
  show C _ _ _ _ [(0, .pointer (some ⟨ge, 0, none⟩)), (1, .slice (some ⟨g, off, none⟩) m c'), (2, .slice (some ⟨sb, so, none⟩) src.length c), (7, .nilIface), (6, .int .i64 ((3 * q : Nat) : Int)), (8, .int .i64 ((4 * q : Nat) : Int))] _
  refine C.mid (σ := Unit) (fun (_ : Unit) w' => (∃ ds', Bk w' g ds' td fd ∧ ds'.size = ds.size ∧ Hd ds' off (Pl.unpack 6 vs)) ∧ Kp (· = g) w w') (fun _ => [(6, .int .i64 ((6 * vs.length / 8 : Nat) : Int)), (7, .nilIface)]) ?_ ?_
  · refine C.block ?_
    refine C.loop (σ := Nat × Bool × Nat × Nat) (fun (q, en, nn, si) w' => 4 * q ≤ vs.length ∧ Kp (· = g) w w' ∧ (en = true → nn = 6 * vs.length / 8 ∧ si = src.length ∧ ∃ ds', Bk w' g ds' td fd ∧ ds'.size = ds.size ∧ Hd ds' off (Pl.unpack 6 vs)) ∧ (en = false → nn = 3 * q ∧ si = 4 * q ∧ ∃ ds', Bk w' g ds' td fd ∧ ds'.size = ds.size ∧ Hd ds' off (Pl.unpack 6 (vs.take (4 * q))))) (fun (q, en, nn, si) => [(0, .pointer (some ⟨ge, 0, none⟩)), (1, .slice (some ⟨g, off, none⟩) m c'), (2, .slice (some ⟨sb, so, none⟩) src.length c), (7, .nilIface), (6, .int .i64 (nn : Int)), (8, .int .i64 (si : Int))]) (fun (q, en, _, _) => bif en then 0 else vs.length - 4 * q + 1) (q, false, 3 * q, 4 * q) ?_ ?_ ?_
    · exact ⟨hq4, hKj, (fun e => by cases e), fun _ => ⟨rfl, rfl, dj, hDj, hdz, hHd⟩⟩
    · exact (Sub.cons rfl (Sub.cons rfl (Sub.cons rfl (Sub.cons rfl (Sub.cons rfl (Sub.cons rfl (Sub.nil _)))))))
    rintro ⟨q, en, nn, si⟩ wj ⟨hq4, hKj, hen1, hen0⟩
    show C _ _ _ _ [(0, .pointer (some ⟨ge, 0, none⟩)), (1, .slice (some ⟨g, off, none⟩) m c'), (2, .slice (some ⟨sb, so, none⟩) src.length c), (7, .nilIface), (6, .int .i64 (nn : Int)), (8, .int .i64 (si : Int))] _
    cases en
    rotate_left
    · obtain ⟨rfl, rfl, hR⟩ := hen1 rfl
      refine C.seq ?_
      refine C.seq ?_
      refine C.reg ?_
      refine W.y (y_move rfl) rfl ?_
      refine W.y (y_move rfl) rfl ?_
      refine W.y (y_len rfl Try.underlying24) rfl ?_
      refine W.y (y_lssF rfl rfl (by omega)) rfl ?_
      refine W.fin ?_
      refine E.next ?_
      refine C.no rfl ?_
      refine C.exit ?_
      refine E.thenExit ?_
      refine E.thenExit ?_
      refine E.blockOut ?_
      exact E.mid (()) ⟨hR, hKj⟩ (Sub.cons rfl (Sub.cons rfl (Sub.nil _)))
    obtain ⟨rfl, rfl, dj, hDj, hdz, hHd⟩ := hen0 rfl
    by_cases hend : vs.length = 4 * q
    · have e1 : src.length = 4 * q := by omega
      have e2 : 6 * vs.length / 8 = 3 * q := by omega
      rw [List.take_of_length_le (by omega)] at hHd
      refine C.seq ?_
      refine C.seq ?_
      refine C.reg ?_
      refine W.y (y_move rfl) rfl ?_
      refine W.y (y_move rfl) rfl ?_
      refine W.y (y_len rfl Try.underlying24) rfl ?_
      refine W.y (y_lssF rfl rfl (by omega)) rfl ?_
      refine W.fin ?_
      refine E.next ?_
      refine C.no rfl ?_
      refine C.exit ?_
      refine E.thenExit ?_
      refine E.thenExit ?_
      refine E.blockOut ?_
      exact E.mid (()) ⟨⟨dj, hDj, hdz, hHd⟩, hKj⟩ (Sub.cons (congrArg (fun x : Nat => some (Value.int .i64 (x : Int))) e2.symm) (Sub.cons rfl (Sub.nil _)))
    have hEj : Bk wj ge cs te fz := hE.kept hKj hne
    have hBj : Bs wj sb so src := hB.kept hKj hsb
    have hul : (Pl.unpack 6 (vs.take (4 * q))).length = 3 * q := by rw [Pl.unpack_length, List.length_take]; omega
    obtain ⟨dl, hdl⟩ : ∃ dl, dl = min 4 (vs.length - 4 * q) := ⟨_, rfl⟩
    have hdm : 3 * q + (dl - 1) ≤ m := by omega
    have hdl1 : 2 ≤ dl ∧ dl ≤ 4 := by omega
    obtain ⟨s1, hs1⟩ : ∃ s1, s1 = (if dl = 4 then 4 * q + 4 else src.length) := ⟨_, rfl⟩
    refine C.seq ?_
    refine C.seq ?_
    refine C.reg ?_
    refine W.y (y_move rfl) rfl ?_
    refine W.y (y_move rfl) rfl ?_
    refine W.y (y_len rfl Try.underlying24) rfl ?_
    refine W.y (y_lssT rfl rfl (by omega)) rfl ?_
    refine W.fin ?_
    refine E.next ?_
    refine C.yes rfl ?_
    refine C.skip ?_
    refine E.next ?_
    refine C.block ?_
    refine C.seq ?_
    refine C.reg ?_
    refine W.y (y_assign rfl) rfl ?_
    refine W.fin ?_
    refine E.next ?_
    refine C.seq ?_
    refine C.reg ?_
    refine W.y (y_move rfl) rfl ?_
    refine W.y (y_move rfl) rfl ?_
    refine W.y (y_move rfl) rfl ?_
    refine W.y (y_cutl rfl rfl Try.underlying24 siz5 (by omega)) rfl ?_
    refine W.y (y_move rfl) rfl ?_
    refine W.y (y_move rfl) rfl ?_
    refine W.call ent50 rfl (quantum_ret (q := q) (dl := dl) (o := off + 3 * q) hEj he hst hf (cut_addr rfl (by omega)) hDj hne hv hq hzs hsrc hBj rfl (by omega) hdl (by omega) (by omega) (by omega) hN) rfl ?_
    rintro _ w2 ⟨rfl, hb2, hk2⟩
    rw [← hs1]
    refine W.y (y_move rfl) rfl ?_
    refine W.y (y_ext rfl rfl) rfl ?_
    refine W.y (y_ext rfl rfl) rfl ?_
    refine W.y (y_ext rfl rfl) rfl ?_
    refine W.y (y_assign rfl) rfl ?_
    refine W.y (y_assign rfl) rfl ?_
    refine W.y (y_assign rfl) rfl ?_
    refine W.fin ?_
    refine E.next ?_
    refine C.seq ?_
    refine C.reg ?_
    refine W.y (y_move rfl) rfl ?_
    refine W.y (y_move rfl) rfl ?_
    refine W.y (Does.as (y_add rfl rfl (wi64 (by omega) (by omega))) (vint (b := ((3 * q + (dl - 1) : Nat) : Int)) (by omega))) rfl ?_
    refine W.y (y_assign rfl) rfl ?_
    refine W.fin ?_
    refine E.next ?_
    refine C.seq ?_
    refine C.reg ?_
    refine W.y (y_move rfl) rfl ?_
    refine W.y (y_nenil rfl eqNil51) rfl ?_
    refine W.fin ?_
    refine E.next ?_
    refine C.no rfl ?_
    refine C.skip ?_
    refine E.blockNormal ?_
    have hun : Pl.unpack 6 (vs.take (4 * q + 4)) = Pl.unpack 6 (vs.take (4 * q)) ++ Pl.unpack 6 ((vs.drop (4 * q)).take 4) := by
      rw [List.take_add, Pl.unpack_append (m := 3 * q) (by omega) _ _ (by rw [List.length_take]; omega)]
    have htl : ((vs.drop (4 * q)).take 4).length = dl := by rw [List.length_take, List.length_drop]; omega
    have hput := hHd.put (ys := Pl.unpack 6 ((vs.drop (4 * q)).take 4)) (more := []) hul (by rw [Pl.unpack_length, htl]; simp only [List.length_nil]; omega)
    rw [← hun, List.append_nil] at hput
    by_cases h4 : dl = 4
    · rw [if_pos h4] at hs1
      refine E.again (q + 1, false, 3 * (q + 1), 4 * (q + 1)) ⟨by omega, hKj.trans hk2, (fun e => by cases e), fun _ => ⟨rfl, rfl, _, hb2, by rw [splice_size]; exact hdz, hput⟩⟩ (Sub.cons rfl (Sub.cons rfl (Sub.cons rfl (Sub.cons rfl (Sub.cons (congrArg (fun x : Nat => some (Value.int .i64 (x : Int))) (show 3 * q + (dl - 1) = 3 * (q + 1) by omega)) (Sub.cons (congrArg (fun x : Nat => some (Value.int .i64 (x : Int))) (show s1 = 4 * (q + 1) by omega)) (Sub.nil _))))))) (by show vs.length - 4 * (q + 1) + 1 < vs.length - 4 * q + 1; omega)
    · rw [if_neg h4] at hs1
      rw [show vs.take (4 * q + 4) = vs from List.take_of_length_le (by omega)] at hput
      refine E.again (q, true, 6 * vs.length / 8, src.length) ⟨by omega, hKj.trans hk2, (fun _ => ⟨rfl, rfl, _, hb2, by rw [splice_size]; exact hdz, hput⟩), (fun e => by cases e)⟩ (Sub.cons rfl (Sub.cons rfl (Sub.cons rfl (Sub.cons rfl (Sub.cons (congrArg (fun x : Nat => some (Value.int .i64 (x : Int))) (show 3 * q + (dl - 1) = 6 * vs.length / 8 by omega)) (Sub.cons (congrArg (fun x : Nat => some (Value.int .i64 (x : Int))) hs1) (Sub.nil _))))))) (by show 0 < vs.length - 4 * q + 1; omega)
  rintro _ wm ⟨hR, hKm⟩
  show C _ _ _ _ [(6, .int .i64 ((6 * vs.length / 8 : Nat) : Int)), (7, .nilIface)] _
  refine C.seq ?_
  refine C.reg ?_
  refine W.y (y_move rfl) rfl ?_
  refine W.y (y_move rfl) rfl ?_
  refine W.y (y_assign rfl) rfl ?_
  refine W.y (y_assign rfl) rfl ?_
  refine W.fin ?_
  refine E.next ?_
  refine C.ret ?_
  exact E.ret2 rfl rfl rfl ⟨rfl, hR, hKm⟩
end Go.Proofs.Ytmbglgepomeilaa
