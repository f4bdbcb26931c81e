/-
  Walk: FnStreamRoads.
-/
import Derived.Test.YtmbglgepomeilaaLG
import Derived.Test.YtmbglgepomeilaaLA
import Derived.Test.YtmbglgepomeilaaRoad
namespace Go.Proofs.Ytmbglgepomeilaa
open Go.RowKit
theorem el22 : El Try.prog 22 24 24 := el_of Try.underlying22 (by kernel_rfl)

set_option maxRecDepth 4000 in
theorem fnStreamRoads64_ret {w : World} {A : Option Addr} {c n : Nat} {al : List UInt8} {pad z : Int} {a : List UInt8} (hal : al.length ≤ 1048576) (hA : Rd w A (bv a)) (hn : a.length = n) (hc : n ≤ c) (hN : n ≤ 1048576) :
    Ret Try.prog 14 #[str al, .int .i64 pad, .slice A n c, .int .i64 z] w fun v w' => v = .bool true ∧ Kp (fun _ => False) w w' := by
  subst hn
  obtain ⟨k, hk, hkl⟩ : ∃ k : Nat, (if (0 : Int) < (if (a.length : Int) < z then (a.length : Int) else z) then (if (a.length : Int) < z then (a.length : Int) else z) else 0) = (k : Int) ∧ k ≤ a.length := by
    by_cases h1 : (a.length : Int) < z
    · rw [if_pos h1]
      by_cases h2 : (0 : Int) < (a.length : Int)
      · exact ⟨a.length, by rw [if_pos h2], Nat.le_refl _⟩
      · exact ⟨0, by rw [if_neg h2]; rfl, Nat.zero_le _⟩
    · rw [if_neg h1]
      by_cases h2 : (0 : Int) < z
      · exact ⟨z.toNat, by rw [if_pos h2]; omega, by omega⟩
      · exact ⟨0, by rw [if_neg h2]; rfl, Nat.zero_le _⟩
  refine ret_of Try.func14 rfl Try.ntmps14 (Nat.le_of_ble_eq_true rfl) ?_
  refine C.seq ?_
  refine C.reg ?_
  refine W.y (y_assign rfl) rfl ?_
  refine W.fin ?_
  refine E.next ?_
  refine C.seq ?_
  refine C.seq ?_
  refine C.reg ?_
  refine W.y (y_move rfl) rfl ?_
  refine W.y (y_move rfl) rfl ?_
  refine W.call ent15 rfl (fit_ret (N := 64) (by omega)) rfl ?_
  rintro _ _ ⟨rfl, ⟨rfl, hf⟩ | rfl⟩
  rotate_left
  · skip
    refine W.y (y_not rfl) rfl ?_
    refine W.fin ?_
    refine E.next ?_
    refine C.yes rfl ?_
    refine C.seq ?_
    refine C.reg ?_
    refine W.y (y_assign rfl) rfl ?_
    refine W.fin ?_
    refine E.next ?_
    refine C.ret ?_
    refine E.thenRet ?_
    exact E.ret1 rfl rfl ⟨rfl, Kp.refl _ _⟩
  refine W.y (y_not rfl) rfl ?_
  refine W.fin ?_
  refine E.next ?_
  refine C.no rfl ?_
  refine C.skip ?_
  refine E.next ?_
  refine C.seq ?_
  refine C.reg ?_
  refine W.y (y_move rfl) rfl ?_
  refine W.y (y_move rfl) rfl ?_
  refine W.y (y_len rfl Try.underlying24) rfl ?_
  refine W.y (y_min rfl rfl rfl) rfl ?_
  refine W.y (y_max rfl rfl hk) rfl ?_
  refine W.y (y_assign rfl) rfl ?_
  refine W.fin ?_
  refine E.next ?_
  refine C.seq ?_
  refine C.reg ?_
  refine W.y (y_assign rfl) rfl ?_
  refine W.fin ?_
  refine E.next ?_
  refine C.seq ?_
  refine C.seq ?_
  refine C.reg ?_
  refine W.y (y_move rfl) rfl ?_
  refine W.y (y_len rfl Try.underlying24) rfl ?_
  refine W.y (y_move rfl) rfl ?_
  refine W.fin ?_
  refine E.next ?_
  refine C.block ?_
  refine C.loop (σ := Nat × Value) (fun (i, vi) w' => i ≤ a.length ∧ Own w' 24 vi (sing A c i) ∧ (∀ j, vi.ownBlock = some j → w.heap.size ≤ j) ∧ Kp (fun _ => False) w w') (fun (i, vi) => [(0, str al), (1, .int .i64 pad), (2, .slice A a.length c), (3, .int .i64 (k : Int)), (9, vi), (28, .int .i64 (a.length : Int)), (29, .int .i64 (i : Int))]) (fun (i, _) => a.length - i) (0, .slice none 0 0) ?_ ?_ ?_
  · exact ⟨by omega, Own.nil w 24, (fun k e => by cases e), Kp.refl _ w⟩
  · exact (Sub.cons rfl (Sub.cons rfl (Sub.cons rfl (Sub.cons rfl (Sub.cons rfl (Sub.cons rfl (Sub.cons rfl (Sub.nil _))))))))
  rintro ⟨i, vi⟩ wi ⟨hi, how, hob, hki⟩
  show C _ _ _ _ [(0, str al), (1, .int .i64 pad), (2, .slice A a.length c), (3, .int .i64 (k : Int)), (9, vi), (28, .int .i64 (a.length : Int)), (29, .int .i64 (i : Int))] _
  by_cases h : i < a.length
  · obtain ⟨v1, x1, hr1, ho1, hg1, ha1⟩ := run_app (P := Try.prog) (w := wi.alloc (.cells #[single A c i] 24)) (ty := 22) (c := 1) (r := [single A c i]) el22 (how.kept ((Kp.refl (fun _ => False) wi).alloc _) (fun _ _ => id)) (Rd.one wi 24 _) (by simp [single]; rfl) (by simp only [sing_length, List.length_singleton]; omega) (by omega)
    refine C.seq ?_
    refine C.reg ?_
    refine W.y (y_lssT rfl rfl (by omega)) rfl ?_
    refine W.fin ?_
    refine E.next ?_
    refine C.seq ?_
    refine C.yes rfl ?_
    refine C.skip ?_
    refine E.next ?_
    refine C.seq ?_
    refine C.block ?_
    refine C.seq ?_
    refine C.reg ?_
    refine W.y (y_move rfl) rfl ?_
    refine W.y (y_assign rfl) rfl ?_
    refine W.fin ?_
    refine E.next ?_
    refine C.reg ?_
    refine W.y (y_move rfl) rfl ?_
    refine W.y (y_move rfl) rfl ?_
    refine W.y (y_move rfl) rfl ?_
    refine W.y (y_move rfl) rfl ?_
    refine W.y (Does.as (y_add rfl rfl (wi64 (by omega) (by omega))) (vint (b := ((i + 1 : Nat) : Int)) (by omega))) rfl ?_
    refine W.y (y_cutlh rfl rfl rfl Try.underlying24 siz5 (by omega) (by omega)) rfl ?_
    refine W.y (y_bs1 (v := single A c i) el22 rfl rfl) rfl ?_
    refine W.y (y_app rfl rfl hr1) rfl ?_
    refine W.y (y_assign rfl) rfl ?_
    refine W.fin ?_
    refine E.blockNormal ?_
    refine E.next ?_
    refine C.reg ?_
    refine W.y (y_add rfl rfl (wi64 (by omega) (by omega))) rfl ?_
    refine W.y (y_move rfl) rfl ?_
    refine W.fin ?_
    refine E.again (i + 1, v1) ⟨by omega, by rw [sing_succ]; exact ho1, ?_, (hki.alloc _).grown hg1 (fun j e => .inr (hob j e))⟩ (Sub.cons rfl (Sub.cons rfl (Sub.cons rfl (Sub.cons rfl (Sub.cons rfl (Sub.cons rfl (Sub.cons rfl (Sub.nil _)))))))) (by show a.length - (i + 1) < a.length - i; omega)
    intro j e
    have := hki.size
    rcases ha1 with e1 | e1
    · exact hob j (by rw [← e1, e])
    · rw [e1] at e; injection e with e; simp only [World.size_alloc] at e; omega
  · obtain rfl : i = a.length := by omega
    have hAi := hA.kept hki (fun _ _ _ => id)
    obtain ⟨A1, c1, rfl, hP1⟩ := sing_pcs how hAi hc
    have hfl := sing_flat a
    have hsl : (a.map fun x => [x]).length = a.length := List.length_map _
    have htg := text_ge (bits := 6) (block := 4) (al := al) (pad := pad) (src := a)
    have hng : Pl.nlet 6 a.length = (8 * a.length + 5) / 6 := rfl
    refine C.seq ?_
    refine C.reg ?_
    refine W.y (y_lssF rfl rfl (by omega)) rfl ?_
    refine W.fin ?_
    refine E.next ?_
    refine C.seq ?_
    refine C.no rfl ?_
    refine C.exit ?_
    refine E.thenExit ?_
    refine E.thenExit ?_
    refine E.blockOut ?_
    refine E.next ?_
    refine C.seq ?_
    refine C.reg ?_
    refine W.y (y_move rfl) rfl ?_
    refine W.y (y_move rfl) rfl ?_
    refine W.y (y_move rfl) rfl ?_
    refine W.call ent27 rfl (encodeImpl64_ret hf hAi rfl hc (by omega)) rfl ?_
    rintro _ w1 ⟨rfl, hw1⟩
    refine W.y (y_assign rfl) rfl ?_
    refine W.fin ?_
    refine E.next ?_
    refine C.seq ?_
    refine C.reg ?_
    refine W.y (y_move rfl) rfl ?_
    refine W.y (y_move rfl) rfl ?_
    refine W.y (y_move rfl) rfl ?_
    refine W.call ent19 rfl (encodeStream64_ret hf (hP1.on hw1) rfl (by rw [hfl]; omega) (by rw [hsl]; omega)) rfl ?_
    rintro _ w2 ⟨rfl, hw2⟩
    rw [hfl]
    have hk2 := (hki.trans hw1).trans hw2
    have hA2 := hA.kept hk2.drew (fun _ _ _ => id)
    have hw3 : Kp (fun _ => False) w2.drew (w2.drew.alloc (.cells #[.slice A k c, .slice (if c = k then A else A.map (·.add k)) (a.length - k) (c - k)] 24)) := (Kp.refl _ _).alloc _
    have hP2 : Pcs (w2.drew.alloc (.cells #[.slice A k c, .slice (if c = k then A else A.map (·.add k)) (a.length - k) (c - k)] 24)).heap.size _ (some ⟨w2.drew.heap.size, 0, none⟩) [a.take k, a.drop k] := row_pcs (Bk.new _ _ _) (fun i p hp => by
      match i, hp with
      | 0, hp => injection hp with hp; subst hp; exact ⟨A, c, by rw [List.length_take, Nat.min_eq_left hkl]; rfl, by rw [List.length_take]; omega, (hA2.takeB k).kept hw3 (fun _ _ _ => id)⟩
      | 1, hp =>
        injection hp with hp
        subst hp
        have h1 := hA2.cut k (c := c) (by rw [bv_length]; omega) (by rw [bv_length]; omega)
        rw [bv_drop] at h1
        exact ⟨_, c - k, by rw [List.length_drop]; rfl, by rw [List.length_drop]; omega, h1.kept hw3 (fun _ _ _ => id)⟩)
    have hf2 : [a.take k, a.drop k].flatten = a := by simp
    refine W.y (y_move rfl) rfl ?_
    refine W.y (y_ext rfl rfl) rfl ?_
    refine W.y (y_ext rfl rfl) rfl ?_
    refine W.y (y_assign rfl) rfl ?_
    refine W.y (y_assign rfl) rfl ?_
    refine W.fin ?_
    refine E.next ?_
    refine C.seq ?_
    refine C.any mixed ?_
    refine AN.take 0 rfl (by kernel_rfl) (by kernel_rfl) (by kernel_rfl) (fun _ => y_move rfl) rfl ?_
    refine AN.take 1 rfl (by kernel_rfl) (by kernel_rfl) (by kernel_rfl) (fun _ => y_move rfl) rfl ?_
    refine AN.take 2 rfl (by kernel_rfl) (by kernel_rfl) (by kernel_rfl) (fun _ => y_move rfl) rfl ?_
    refine AN.take 3 rfl (by kernel_rfl) (by kernel_rfl) (by kernel_rfl) (fun _ => y_move rfl) rfl ?_
    refine AN.take 4 rfl (by kernel_rfl) (by kernel_rfl) (by kernel_rfl) (fun _ => y_cuth rfl rfl Try.underlying24 siz5 (by omega)) rfl ?_
    refine AN.take 5 rfl (by kernel_rfl) (by kernel_rfl) (by kernel_rfl) (fun _ => y_move rfl) rfl ?_
    refine AN.take 6 rfl (by kernel_rfl) (by kernel_rfl) (by kernel_rfl) (fun _ => y_move rfl) rfl ?_
    refine AN.take 7 rfl (by kernel_rfl) (by kernel_rfl) (by kernel_rfl) (fun _ => y_cutl rfl rfl Try.underlying24 siz5 (by omega)) rfl ?_
    refine AN.one 8 rfl (by kernel_rfl) (y_bs2 el22 rfl rfl rfl rfl) rfl ?_
    refine AN.oneCall 9 rfl (by kernel_rfl) ent19 rfl (encodeStream64_ret (n := 2) hf hP2 rfl (by rw [hf2]; omega) (by simp)) rfl ?_
    rintro _ w4 ⟨rfl, hw4⟩
    rw [hf2]
    have hk4 := (hk2.drew.trans hw3).trans hw4
    have hw5 : Kp (fun _ => False) w4 (w4.alloc (.cells #[.slice none 0 0, .slice A a.length c, .slice none 0 0] 24)) := (Kp.refl _ _).alloc _
    have hA5 := (hA.kept hk4 (fun _ _ _ => id)).kept hw5 (fun _ _ _ => id)
    have hP3 : Pcs (w4.alloc (.cells #[.slice none 0 0, .slice A a.length c, .slice none 0 0] 24)).heap.size _ (some ⟨w4.heap.size, 0, none⟩) [[], a, []] := row_pcs (Bk.new _ _ _) (fun i p hp => by
      match i, hp with
      | 0, hp => injection hp with hp; subst hp; exact ⟨none, 0, rfl, Nat.le_refl _, .inl rfl⟩
      | 1, hp => injection hp with hp; subst hp; exact ⟨A, c, rfl, hc, hA5⟩
      | 2, hp => injection hp with hp; subst hp; exact ⟨none, 0, rfl, Nat.le_refl _, .inl rfl⟩)
    have hf3 : [[], a, []].flatten = a := by simp
    refine AN.take 10 rfl (by kernel_rfl) (by kernel_rfl) (by kernel_rfl) (fun _ => y_move rfl) rfl ?_
    refine AN.take 11 rfl (by kernel_rfl) (by kernel_rfl) (by kernel_rfl) (fun _ => y_ext rfl rfl) rfl ?_
    refine AN.take 12 rfl (by kernel_rfl) (by kernel_rfl) (by kernel_rfl) (fun _ => y_ext rfl rfl) rfl ?_
    refine AN.take 13 rfl (by kernel_rfl) (by kernel_rfl) (by kernel_rfl) (fun _ => y_assign rfl) rfl ?_
    refine AN.take 14 rfl (by kernel_rfl) (by kernel_rfl) (by kernel_rfl) (fun _ => y_assign rfl) rfl ?_
    refine AN.done (by kernel_rfl) ?_
    refine E.next ?_
    refine C.seq ?_
    refine C.reg ?_
    refine W.y (y_move rfl) rfl ?_
    refine W.y (y_move rfl) rfl ?_
    refine W.y (y_move rfl) rfl ?_
    refine W.y (y_bs3 el22 rfl rfl rfl rfl rfl rfl) rfl ?_
    refine W.call ent19 rfl (encodeStream64_ret (n := 3) hf hP3 rfl (by rw [hf3]; omega) (by simp)) rfl ?_
    rintro _ w6 ⟨rfl, hw6⟩
    rw [hf3]
    refine W.y (y_move rfl) rfl ?_
    refine W.y (y_ext rfl rfl) rfl ?_
    refine W.y (y_ext rfl rfl) rfl ?_
    refine W.y (y_assign rfl) rfl ?_
    refine W.y (y_assign rfl) rfl ?_
    refine W.fin ?_
    refine E.next ?_
    refine C.seq ?_
    refine C.reg ?_
    refine W.y (y_move rfl) rfl ?_
    refine W.y (y_move rfl) rfl ?_
    refine W.y (y_eqsT rfl rfl rfl) rfl ?_
    refine W.y (y_move rfl) rfl ?_
    refine W.gy rfl rfl (y_move rfl) rfl ?_
    refine W.gy rfl rfl (y_move rfl) rfl ?_
    refine W.gy rfl rfl (y_eqsT rfl rfl rfl) rfl ?_
    refine W.y (y_pick rfl rfl) rfl ?_
    refine W.y (y_move rfl) rfl ?_
    refine W.gy rfl rfl (y_move rfl) rfl ?_
    refine W.gy rfl rfl (y_move rfl) rfl ?_
    refine W.gy rfl rfl (y_eqsT rfl rfl rfl) rfl ?_
    refine W.y (y_pick rfl rfl) rfl ?_
    refine W.y (y_move rfl) rfl ?_
    refine W.gy rfl rfl (y_move rfl) rfl ?_
    refine W.gy rfl rfl (y_move rfl) rfl ?_
    refine W.gy rfl rfl (y_len rfl Try.underlying24) rfl ?_
    refine W.gy rfl rfl (y_eqlT rfl rfl (by omega)) rfl ?_
    refine W.y (y_pick rfl rfl) rfl ?_
    refine W.y (y_move rfl) rfl ?_
    refine W.gy rfl rfl (y_move rfl) rfl ?_
    refine W.gy rfl rfl (y_move rfl) rfl ?_
    refine W.gy rfl rfl (y_eqlT rfl rfl (by omega)) rfl ?_
    refine W.y (y_pick rfl rfl) rfl ?_
    refine W.y (y_move rfl) rfl ?_
    refine W.gy rfl rfl (y_move rfl) rfl ?_
    refine W.gy rfl rfl (y_move rfl) rfl ?_
    refine W.gy rfl rfl (y_eqlT rfl rfl (by omega)) rfl ?_
    refine W.y (y_pick rfl rfl) rfl ?_
    refine W.y (y_move rfl) rfl ?_
    refine W.gy rfl rfl (y_move rfl) rfl ?_
    refine W.gy rfl rfl (y_len' rfl Try.underlying9) rfl ?_
    refine W.gy rfl rfl (y_move rfl) rfl ?_
    refine W.gy rfl rfl (y_len rfl Try.underlying24) rfl ?_
    refine W.gy rfl rfl (y_move rfl) rfl ?_
    refine W.gy rfl rfl (y_len rfl Try.underlying24) rfl ?_
    refine W.gy rfl rfl (y_quo rfl rfl (by omega) (by omega) (by omega)) rfl ?_
    refine W.gy rfl rfl (y_add rfl rfl (wi64 (by omega) (by omega))) rfl ?_
    refine W.gy rfl rfl (y_geqT rfl rfl (by omega)) rfl ?_
    refine W.y (y_pick rfl rfl) rfl ?_
    refine W.y (y_assign rfl) rfl ?_
    refine W.fin ?_
    refine E.next ?_
    refine C.ret ?_
    exact E.ret1 rfl rfl ⟨rfl, (hk4.trans hw5).trans hw6⟩
end Go.Proofs.Ytmbglgepomeilaa
