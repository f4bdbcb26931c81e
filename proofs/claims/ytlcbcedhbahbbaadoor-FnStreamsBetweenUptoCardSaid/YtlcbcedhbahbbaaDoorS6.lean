/-
  Walks: sized, cutText, NewDecoder (base32).
-/
import Derived.Test.YtlcbcedhbahbbaaDoorS1
import Derived.Test.YtlcbcedhbahbbaaDoorStr2
namespace Go.Proofs.YtlcbcedhbahbbaaDoor
open Go.RowKit
theorem siz2 : Siz Tryd.prog 2 1 := siz_of (by kernel_rfl)
theorem pl2 : Plain Tryd.prog 2 := plain_of Tryd.underlying2 rfl
theorem el28 : El Tryd.prog 28 9 16 := el_of Tryd.underlying28 (by kernel_rfl)
theorem buildFil32 (gg : Nat) (w : World) : (Instr.build 72 #[(0, .iface 55 (.pointer (some ⟨gg, 0, none⟩)))]).run Tryd.prog w = .ok (.agg #[.iface 55 (.pointer (some ⟨gg, 0, none⟩))]) w := by kernel_rfl
theorem buildDec32 (gc gf : Nat) (w : World) : (Instr.build 76 #[(1, (.pointer (some ⟨gc, 0, none⟩))), (2, (.iface 70 (.pointer (some ⟨gf, 0, none⟩))))]).run Tryd.prog w = .ok (.agg (((zc Tryd.prog 76).setIfInBounds 1 (.pointer (some ⟨gc, 0, none⟩))).setIfInBounds 2 (.iface 70 (.pointer (some ⟨gf, 0, none⟩))))) w := by kernel_rfl
theorem zcDec32 : (zc Tryd.prog 76).size = 1670 ∧ (zc Tryd.prog 76)[0]? = some .nilIface ∧ (zc Tryd.prog 76)[3]? = some (.bool false) ∧ (zc Tryd.prog 76)[1028]? = some (.int .i64 0) ∧ (zc Tryd.prog 76)[1029]? = some (.slice none 0 0) := ⟨by kernel_rfl, by kernel_rfl, by kernel_rfl, by kernel_rfl, by kernel_rfl⟩

theorem sized_ret {w : World} {A : Option Addr} {n c : Nat} {zs : List Int} (hA : Rd w A (iv zs)) (hn : zs.length = n) (hN : n ≤ 1000000000000) :
    Ret Tryd.prog 13 #[.slice A n c] w fun v w' => w = w' ∧ ((v = .bool true ∧ zs ≠ [] ∧ ∀ z ∈ zs, 1 ≤ z ∧ z ≤ 65536) ∨ v = .bool false) := by
  subst hn
  refine ret_of Tryd.func13 rfl Tryd.ntmps13 (Nat.le_of_ble_eq_true rfl) ?_
  refine C.seq ?_
  refine C.reg ?_
  refine W.y (y_assign rfl) rfl ?_
  refine W.fin ?_
  refine E.next ?_
  refine C.seq ?_
  refine C.seq ?_
  refine C.reg ?_
  refine W.y (y_move rfl) rfl ?_
  refine W.y (y_len rfl Tryd.underlying23) rfl ?_
  refine W.y (y_move rfl) rfl ?_
  refine W.fin ?_
  refine E.next ?_
  refine C.block ?_
  refine C.loop (σ := Nat) (fun i w' => i ≤ zs.length ∧ w = w' ∧ ∀ (j : Nat) (z : Int), j < i → zs[j]? = some z → 1 ≤ z ∧ z ≤ 65536) (fun i => [(0, .slice A zs.length c), (5, .slice A zs.length c), (6, .int .i64 (zs.length : Int)), (7, .int .i64 (i : Int))]) (fun i => zs.length - i) 0 ?_ ?_ ?_
  · exact ⟨by omega, rfl, fun j z h => by omega⟩
  · exact (Sub.cons rfl (Sub.cons rfl (Sub.cons rfl (Sub.cons rfl (Sub.nil _)))))
  rintro i _ ⟨hi, rfl, hz⟩
  show C _ _ _ _ [(0, .slice A zs.length c), (5, .slice A zs.length c), (6, .int .i64 (zs.length : Int)), (7, .int .i64 (i : Int))] _
  by_cases h : i < zs.length
  · obtain ⟨z, hzi⟩ : ∃ z, zs[i]? = some z := ⟨_, List.getElem?_eq_getElem h⟩
    obtain ⟨gz, oz, rfl, _, hcz⟩ := hA.get (by intro e; have := congrArg List.length e; rw [iv_length] at this; simp at this; simp [this] at h)
    have hcell := hcz i (.int .i64 z) (by simp [iv, hzi])
    by_cases h1 : z < 1
    · skip
      refine C.seq ?_
      refine C.reg ?_
      refine W.y (y_lssT rfl rfl (by omega)) rfl ?_
      refine W.fin ?_
      refine E.next ?_
      refine C.seq ?_
      refine C.yes rfl ?_
      refine C.skip ?_
      refine E.next ?_
      refine C.seq ?_
      refine C.block ?_
      refine C.seq ?_
      refine C.reg ?_
      refine W.y (y_ixn rfl rfl Tryd.underlying23 siz2 (by omega)) rfl ?_
      refine W.y (y_load rfl pl2 hcell) rfl ?_
      refine W.y (y_assign rfl) rfl ?_
      refine W.fin ?_
      refine E.next ?_
      refine C.seq ?_
      refine C.reg ?_
      refine W.y (y_move rfl) rfl ?_
      refine W.y (y_lssT rfl rfl (by omega)) rfl ?_
      refine W.y (y_move rfl) rfl ?_
      refine W.gn rfl rfl rfl ?_
      refine W.gn rfl rfl rfl ?_
      refine W.y (y_pick rfl rfl) rfl ?_
      refine W.fin ?_
      refine E.next ?_
      refine C.yes rfl ?_
      refine C.seq ?_
      refine C.reg ?_
      refine W.y (y_assign rfl) rfl ?_
      refine W.fin ?_
      refine E.next ?_
      refine C.ret ?_
      refine E.blockRet ?_
      refine E.thenRet ?_
      refine E.thenRet ?_
      refine E.blockRet ?_
      refine E.thenRet ?_
      exact E.ret1 rfl rfl ⟨rfl, .inr rfl⟩
    by_cases h2 : 65536 < z
    · skip
      refine C.seq ?_
      refine C.reg ?_
      refine W.y (y_lssT rfl rfl (by omega)) rfl ?_
      refine W.fin ?_
      refine E.next ?_
      refine C.seq ?_
      refine C.yes rfl ?_
      refine C.skip ?_
      refine E.next ?_
      refine C.seq ?_
      refine C.block ?_
      refine C.seq ?_
      refine C.reg ?_
      refine W.y (y_ixn rfl rfl Tryd.underlying23 siz2 (by omega)) rfl ?_
      refine W.y (y_load rfl pl2 hcell) rfl ?_
      refine W.y (y_assign rfl) rfl ?_
      refine W.fin ?_
      refine E.next ?_
      refine C.seq ?_
      refine C.reg ?_
      refine W.y (y_move rfl) rfl ?_
      refine W.y (y_lssF rfl rfl (by omega)) rfl ?_
      refine W.y (y_move rfl) rfl ?_
      refine W.gy rfl rfl (y_move rfl) rfl ?_
      refine W.gy rfl rfl (y_gtrT rfl rfl (by omega)) rfl ?_
      refine W.y (y_pick rfl rfl) rfl ?_
      refine W.fin ?_
      refine E.next ?_
      refine C.yes rfl ?_
      refine C.seq ?_
      refine C.reg ?_
      refine W.y (y_assign rfl) rfl ?_
      refine W.fin ?_
      refine E.next ?_
      refine C.ret ?_
      refine E.blockRet ?_
      refine E.thenRet ?_
      refine E.thenRet ?_
      refine E.blockRet ?_
      refine E.thenRet ?_
      exact E.ret1 rfl rfl ⟨rfl, .inr rfl⟩
    refine C.seq ?_
    refine C.reg ?_
    refine W.y (y_lssT rfl rfl (by omega)) rfl ?_
    refine W.fin ?_
    refine E.next ?_
    refine C.seq ?_
    refine C.yes rfl ?_
    refine C.skip ?_
    refine E.next ?_
    refine C.seq ?_
    refine C.block ?_
    refine C.seq ?_
    refine C.reg ?_
    refine W.y (y_ixn rfl rfl Tryd.underlying23 siz2 (by omega)) rfl ?_
    refine W.y (y_load rfl pl2 hcell) rfl ?_
    refine W.y (y_assign rfl) rfl ?_
    refine W.fin ?_
    refine E.next ?_
    refine C.seq ?_
    refine C.reg ?_
    refine W.y (y_move rfl) rfl ?_
    refine W.y (y_lssF rfl rfl (by omega)) rfl ?_
    refine W.y (y_move rfl) rfl ?_
    refine W.gy rfl rfl (y_move rfl) rfl ?_
    refine W.gy rfl rfl (y_gtrF rfl rfl (by omega)) rfl ?_
    refine W.y (y_pick rfl rfl) rfl ?_
    refine W.fin ?_
    refine E.next ?_
    refine C.no rfl ?_
    refine C.skip ?_
    refine E.blockNormal ?_
    refine E.next ?_
    refine C.reg ?_
    refine W.y (y_add rfl rfl (wi64 (by omega) (by omega))) rfl ?_
    refine W.y (y_move rfl) rfl ?_
    refine W.fin ?_
    exact E.again (i + 1) ⟨by omega, rfl, fun j x hj hx => by
      by_cases e : j = i
      · subst e
        rw [hzi] at hx
        injection hx with hx
        omega
      · exact hz j x (by omega) hx⟩ (Sub.cons rfl (Sub.cons rfl (Sub.cons rfl (Sub.cons rfl (Sub.nil _))))) (by omega)
  obtain rfl : i = zs.length := by omega
  by_cases h0 : zs = []
  · have hl : zs.length = 0 := by rw [h0]; rfl
    refine C.seq ?_
    refine C.reg ?_
    refine W.y (y_lssF rfl rfl (by omega)) rfl ?_
    refine W.fin ?_
    refine E.next ?_
    refine C.seq ?_
    refine C.no rfl ?_
    refine C.exit ?_
    refine E.thenExit ?_
    refine E.thenExit ?_
    refine E.blockOut ?_
    refine E.next ?_
    refine C.seq ?_
    refine C.reg ?_
    refine W.y (y_move rfl) rfl ?_
    refine W.y (y_len rfl Tryd.underlying23) rfl ?_
    refine W.y (y_gtrF rfl rfl (by omega)) rfl ?_
    refine W.y (y_assign rfl) rfl ?_
    refine W.fin ?_
    refine E.next ?_
    refine C.ret ?_
    exact E.ret1 rfl rfl ⟨rfl, .inr rfl⟩
  have hl := List.length_pos_iff.2 h0
  refine C.seq ?_
  refine C.reg ?_
  refine W.y (y_lssF rfl rfl (by omega)) rfl ?_
  refine W.fin ?_
  refine E.next ?_
  refine C.seq ?_
  refine C.no rfl ?_
  refine C.exit ?_
  refine E.thenExit ?_
  refine E.thenExit ?_
  refine E.blockOut ?_
  refine E.next ?_
  refine C.seq ?_
  refine C.reg ?_
  refine W.y (y_move rfl) rfl ?_
  refine W.y (y_len rfl Tryd.underlying23) rfl ?_
  refine W.y (y_gtrT rfl rfl (by omega)) rfl ?_
  refine W.y (y_assign rfl) rfl ?_
  refine W.fin ?_
  refine E.next ?_
  refine C.ret ?_
  exact E.ret1 rfl rfl ⟨rfl, .inl ⟨rfl, h0, fun z hm => by
    obtain ⟨j, hj, e⟩ := List.mem_iff_getElem.1 hm
    exact hz j z hj (by rw [← e]; exact List.getElem?_eq_getElem _)⟩⟩
set_option maxRecDepth 4000 in
theorem cutText_ret {w : World} {A : Option Addr} {n c : Nat} {zs : List Int} {s : List UInt8} (hA : Rd w A (iv zs)) (hn : zs.length = n) (hN : n ≤ 1000000000000) (hs : s.length ≤ 1000000000) :
    Ret Tryd.prog 15 #[str s, .slice A n c] w fun v w' => (∃ ts : List (List UInt8), ts ≠ [] ∧ ts.flatten = s ∧ ts.length ≤ s.length + 1 ∧ Own w' 9 v (ts.map str)) ∧ (∀ k, v.ownBlock = some k → w.heap.size ≤ k) ∧ Kp (fun _ => False) w w' := by
  subst hn
  refine ret_of Tryd.func15 rfl Tryd.ntmps15 (Nat.le_of_ble_eq_true rfl) ?_
  refine C.seq ?_
  refine C.reg ?_
  refine W.y (y_assign rfl) rfl ?_
  refine W.fin ?_
  refine E.next ?_
  refine C.seq ?_
  refine C.reg ?_
  refine W.y (y_assign rfl) rfl ?_
  refine W.fin ?_
  refine E.next ?_
  refine C.seq ?_
  refine C.seq ?_
  refine C.reg ?_
  refine W.y (y_assign rfl) rfl ?_
  refine W.fin ?_
  refine E.next ?_
  refine C.block ?_
  refine C.loop (σ := List (List UInt8) × List UInt8 × Value) (fun (ts, r, vi) w' => ts.flatten ++ r = s ∧ ts.length ≤ ts.flatten.length ∧ Own w' 9 vi (ts.map str) ∧ (∀ k, vi.ownBlock = some k → w.heap.size ≤ k) ∧ Kp (fun _ => False) w w') (fun (ts, r, vi) => [(0, str r), (1, .slice A zs.length c), (5, vi), (6, .int .i64 (ts.length : Int))]) (fun (_, r, _) => r.length) ([], s, .slice none 0 0) ?_ ?_ ?_
  · exact ⟨rfl, Nat.le_refl _, Own.nil w 9, (fun k e => by cases e), Kp.refl _ _⟩
  · exact (Sub.cons rfl (Sub.cons rfl (Sub.cons rfl (Sub.cons rfl (Sub.nil _)))))
  rintro ⟨ts, r, vi⟩ wi ⟨hfl, htl, how, hob, hki⟩
  show C _ _ _ _ [(0, str r), (1, .slice A zs.length c), (5, vi), (6, .int .i64 (ts.length : Int))] _
  have hlen : ts.flatten.length + r.length = s.length := by rw [← hfl, List.length_append]
  have hml : (ts.map str).length = ts.length := List.length_map _
  by_cases hr : r = []
  · have hr0 : r.length = 0 := by rw [hr]; rfl
    obtain ⟨v1, x1, hr1, ho1, hg1, ha1⟩ := run_app (P := Tryd.prog) (w := wi.alloc (.cells #[str r] 9)) (ty := 28) (c := 1) (r := [str r]) el28 (how.kept ((Kp.refl (fun _ => False) wi).alloc _) (fun _ _ => id)) (Rd.one wi 9 _) (by intro u hu; rw [List.mem_singleton.1 hu]; rfl) (by rw [hml, List.length_singleton]; omega) (by omega)
    refine C.seq ?_
    refine C.seq ?_
    refine C.reg ?_
    refine W.y (y_move rfl) rfl ?_
    refine W.y (y_len' rfl Tryd.underlying9) rfl ?_
    refine W.y (y_gtrF rfl rfl (by omega)) rfl ?_
    refine W.y (y_move rfl) rfl ?_
    refine W.gn rfl rfl rfl ?_
    refine W.gn rfl rfl rfl ?_
    refine W.gn rfl rfl rfl ?_
    refine W.y (y_pick rfl rfl) rfl ?_
    refine W.fin ?_
    refine E.next ?_
    refine C.no rfl ?_
    refine C.exit ?_
    refine E.thenExit ?_
    refine E.thenExit ?_
    refine E.blockOut ?_
    refine E.next ?_
    refine C.seq ?_
    refine C.reg ?_
    refine W.y (y_move rfl) rfl ?_
    refine W.y (y_move rfl) rfl ?_
    refine W.y (y_bs1 (v := str r) el28 rfl rfl) rfl ?_
    refine W.y (y_app rfl rfl hr1) rfl ?_
    refine W.y (y_assign rfl) rfl ?_
    refine W.fin ?_
    refine E.next ?_
    refine C.ret ?_
    exact E.ret1 rfl rfl ⟨⟨ts ++ [r], by simp, by rw [List.flatten_append, ← hfl]; simp, by rw [List.length_append, List.length_singleton]; omega, by rw [List.map_append]; exact ho1⟩, (by
      intro k e
      have := hki.size
      rcases ha1 with e1 | e1
      · exact hob k (by rw [← e1, e])
      · rw [e1] at e; injection e with e; simp only [World.size_alloc] at e; omega), (hki.alloc _).grown hg1 (fun j e => .inr (hob j e))⟩
  have hrp := List.length_pos_iff.2 hr
  by_cases hz0 : zs = []
  · have hz : zs.length = 0 := by rw [hz0]; rfl
    obtain ⟨v1, x1, hr1, ho1, hg1, ha1⟩ := run_app (P := Tryd.prog) (w := wi.alloc (.cells #[str r] 9)) (ty := 28) (c := 1) (r := [str r]) el28 (how.kept ((Kp.refl (fun _ => False) wi).alloc _) (fun _ _ => id)) (Rd.one wi 9 _) (by intro u hu; rw [List.mem_singleton.1 hu]; rfl) (by rw [hml, List.length_singleton]; omega) (by omega)
    refine C.seq ?_
    refine C.seq ?_
    refine C.reg ?_
    refine W.y (y_move rfl) rfl ?_
    refine W.y (y_len' rfl Tryd.underlying9) rfl ?_
    refine W.y (y_gtrT rfl rfl (by omega)) rfl ?_
    refine W.y (y_move rfl) rfl ?_
    refine W.gy rfl rfl (y_move rfl) rfl ?_
    refine W.gy rfl rfl (y_len rfl Tryd.underlying23) rfl ?_
    refine W.gy rfl rfl (y_gtrF rfl rfl (by omega)) rfl ?_
    refine W.y (y_pick rfl rfl) rfl ?_
    refine W.fin ?_
    refine E.next ?_
    refine C.no rfl ?_
    refine C.exit ?_
    refine E.thenExit ?_
    refine E.thenExit ?_
    refine E.blockOut ?_
    refine E.next ?_
    refine C.seq ?_
    refine C.reg ?_
    refine W.y (y_move rfl) rfl ?_
    refine W.y (y_move rfl) rfl ?_
    refine W.y (y_bs1 (v := str r) el28 rfl rfl) rfl ?_
    refine W.y (y_app rfl rfl hr1) rfl ?_
    refine W.y (y_assign rfl) rfl ?_
    refine W.fin ?_
    refine E.next ?_
    refine C.ret ?_
    exact E.ret1 rfl rfl ⟨⟨ts ++ [r], by simp, by rw [List.flatten_append, ← hfl]; simp, by rw [List.length_append, List.length_singleton]; omega, by rw [List.map_append]; exact ho1⟩, (by
      intro k e
      have := hki.size
      rcases ha1 with e1 | e1
      · exact hob k (by rw [← e1, e])
      · rw [e1] at e; injection e with e; simp only [World.size_alloc] at e; omega), (hki.alloc _).grown hg1 (fun j e => .inr (hob j e))⟩
  have hzp := List.length_pos_iff.2 hz0
  have hmod := Nat.mod_lt ts.length hzp
  obtain ⟨z, hz⟩ : ∃ z, zs[ts.length % zs.length]? = some z := ⟨_, List.getElem?_eq_getElem hmod⟩
  obtain ⟨gz, oz, rfl, _, hcz⟩ := (hA.kept hki (fun _ _ _ => id)).get (by intro e; have := congrArg List.length e; rw [iv_length] at this; simp at this; exact hz0 this)
  have hcell := hcz (ts.length % zs.length) (.int .i64 z) (by simp [iv, hz])
  obtain ⟨k, hk, hk1⟩ : ∃ k : Nat, (if (1 : Int) < (if z < (r.length : Int) then z else (r.length : Int)) then (if z < (r.length : Int) then z else (r.length : Int)) else 1) = (k : Int) ∧ 1 ≤ k ∧ k ≤ r.length := by
    by_cases h1 : z < (r.length : Int)
    · rw [if_pos h1]
      by_cases h2 : 1 < z
      · exact ⟨z.toNat, by rw [if_pos h2]; omega, by omega⟩
      · exact ⟨1, by rw [if_neg h2]; rfl, by omega⟩
    · rw [if_neg h1]
      by_cases h2 : (1 : Int) < (r.length : Int)
      · exact ⟨r.length, by rw [if_pos h2], by omega⟩
      · exact ⟨1, by rw [if_neg h2]; rfl, by omega⟩
  obtain ⟨v1, x1, hr1, ho1, hg1, ha1⟩ := run_app (P := Tryd.prog) (w := wi.alloc (.cells #[str (r.take k)] 9)) (ty := 28) (c := 1) (r := [str (r.take k)]) el28 (how.kept ((Kp.refl (fun _ => False) wi).alloc _) (fun _ _ => id)) (Rd.one wi 9 _) (by intro u hu; rw [List.mem_singleton.1 hu]; rfl) (by rw [hml, List.length_singleton]; omega) (by omega)
  have hkf : ([r.take k] : List (List UInt8)).flatten.length = k := by simp only [List.flatten_cons, List.flatten_nil, List.append_nil, List.length_take]; omega
  refine C.seq ?_
  refine C.seq ?_
  refine C.reg ?_
  refine W.y (y_move rfl) rfl ?_
  refine W.y (y_len' rfl Tryd.underlying9) rfl ?_
  refine W.y (y_gtrT rfl rfl (by omega)) rfl ?_
  refine W.y (y_move rfl) rfl ?_
  refine W.gy rfl rfl (y_move rfl) rfl ?_
  refine W.gy rfl rfl (y_len rfl Tryd.underlying23) rfl ?_
  refine W.gy rfl rfl (y_gtrT rfl rfl (by omega)) rfl ?_
  refine W.y (y_pick rfl rfl) rfl ?_
  refine W.fin ?_
  refine E.next ?_
  refine C.yes rfl ?_
  refine C.skip ?_
  refine E.next ?_
  refine C.seq ?_
  refine C.block ?_
  refine C.seq ?_
  refine C.reg ?_
  refine W.y (y_move rfl) rfl ?_
  refine W.y (y_len' rfl Tryd.underlying9) rfl ?_
  refine W.y (y_move rfl) rfl ?_
  refine W.y (y_move rfl) rfl ?_
  refine W.y (y_move rfl) rfl ?_
  refine W.y (y_len rfl Tryd.underlying23) rfl ?_
  refine W.y (Does.as (y_rem rfl rfl (by omega) (by omega)) (vint (b := ((ts.length % zs.length : Nat) : Int)) (by omega))) rfl ?_
  refine W.y (y_ixn rfl rfl Tryd.underlying23 siz2 (by omega)) rfl ?_
  refine W.y (y_load rfl pl2 hcell) rfl ?_
  refine W.y (y_min rfl rfl rfl) rfl ?_
  refine W.y (y_max rfl rfl hk) rfl ?_
  refine W.y (y_assign rfl) rfl ?_
  refine W.fin ?_
  refine E.next ?_
  refine C.seq ?_
  refine C.reg ?_
  refine W.y (y_move rfl) rfl ?_
  refine W.y (y_move rfl) rfl ?_
  refine W.y (y_move rfl) rfl ?_
  refine W.y (y_scuth' rfl rfl Tryd.underlying9 (by omega)) rfl ?_
  refine W.y (y_bs1 (v := str (r.take k)) el28 rfl rfl) rfl ?_
  refine W.y (y_app rfl rfl hr1) rfl ?_
  refine W.y (y_assign rfl) rfl ?_
  refine W.fin ?_
  refine E.next ?_
  refine C.reg ?_
  refine W.y (y_move rfl) rfl ?_
  refine W.y (y_move rfl) rfl ?_
  refine W.y (y_scutl' rfl rfl Tryd.underlying9 (by omega)) rfl ?_
  refine W.y (y_assign rfl) rfl ?_
  refine W.fin ?_
  refine E.blockNormal ?_
  refine E.next ?_
  refine C.reg ?_
  refine W.y (y_move rfl) rfl ?_
  refine W.y (Does.as (y_add rfl rfl (wi64 (by omega) (by omega))) (vint (b := ((ts.length + 1 : Nat) : Int)) (by omega))) rfl ?_
  refine W.y (y_assign rfl) rfl ?_
  refine W.fin ?_
  exact E.again (ts ++ [r.take k], r.drop k, v1) ⟨by rw [List.flatten_append, ← hfl]; simp, by rw [List.length_append, List.length_singleton, List.flatten_append, List.length_append, hkf]; omega, by rw [List.map_append]; exact ho1, (by
    intro k e
    have := hki.size
    rcases ha1 with e1 | e1
    · exact hob k (by rw [← e1, e])
    · rw [e1] at e; injection e with e; simp only [World.size_alloc] at e; omega), (hki.alloc _).grown hg1 (fun j e => .inr (hob j e))⟩ (Sub.cons rfl (Sub.cons rfl (Sub.cons rfl (Sub.cons (by rw [List.length_append]; rfl) (Sub.nil _))))) (by show (r.drop k).length < r.length; rw [List.length_drop]; omega)
set_option maxRecDepth 4000 in
theorem newDecoder32_ret {w : World} {gc gg : Nat} : Ret Tryd.prog 25 #[.pointer (some ⟨gc, 0, none⟩), .iface 55 (.pointer (some ⟨gg, 0, none⟩))] w fun r w' => r = .iface 69 (.pointer (some ⟨w.heap.size + 1, 0, none⟩)) ∧
    Bk w' w.heap.size #[.iface 55 (.pointer (some ⟨gg, 0, none⟩))] 72 (0, 0) ∧ (∃ ds, Bk w' (w.heap.size + 1) ds 76 (0, 0) ∧ DF 640 ds .nilIface (.pointer (some ⟨gc, 0, none⟩)) (.iface 70 (.pointer (some ⟨w.heap.size, 0, none⟩))) (.bool false) [] 0 ∧ OF 640 ds (w.heap.size + 1) []) ∧ Kp (fun _ => False) w w' ∧ w'.heap.size = w.heap.size + 2 := by
  obtain ⟨z1, z2, z3, z4, z5⟩ := zcDec32
  have hbd := fun gf w => buildDec32 gc gf w
  generalize zc Tryd.prog 76 = Z at hbd z1 z2 z3 z4 z5
  have hDF : DF 640 ((Z.setIfInBounds 1 (.pointer (some ⟨gc, 0, none⟩))).setIfInBounds 2 (.iface 70 (.pointer (some ⟨w.heap.size, 0, none⟩)))) .nilIface (.pointer (some ⟨gc, 0, none⟩)) (.iface 70 (.pointer (some ⟨w.heap.size, 0, none⟩))) (.bool false) [] 0 := ⟨by rw [Array.size_setIfInBounds, Array.size_setIfInBounds, z1], by rw [Array.getElem?_setIfInBounds, if_neg (by omega), Array.getElem?_setIfInBounds, if_neg (by omega)]; exact z2, by rw [Array.getElem?_setIfInBounds, if_neg (by omega), Array.getElem?_setIfInBounds, if_pos rfl, if_pos (by omega)], by rw [Array.getElem?_setIfInBounds, if_pos rfl, if_pos (by simp only [Array.size_setIfInBounds]; omega)], by rw [Array.getElem?_setIfInBounds, if_neg (by omega), Array.getElem?_setIfInBounds, if_neg (by omega)]; exact z3, Hd.nil _ _, by rw [Array.getElem?_setIfInBounds, if_neg (by omega), Array.getElem?_setIfInBounds, if_neg (by omega)]; exact z4⟩
  have hOF : OF 640 ((Z.setIfInBounds 1 (.pointer (some ⟨gc, 0, none⟩))).setIfInBounds 2 (.iface 70 (.pointer (some ⟨w.heap.size, 0, none⟩)))) (w.heap.size + 1) [] := OF.none (by rw [Array.getElem?_setIfInBounds, if_neg (by omega), Array.getElem?_setIfInBounds, if_neg (by omega)]; exact z5)
  refine ret_of Tryd.func25 rfl Tryd.ntmps25 (Nat.le_of_ble_eq_true rfl) ?_
  have hs1 : (w.alloc (.cells #[.iface 55 (.pointer (some ⟨gg, 0, none⟩))] 72)).heap.size = w.heap.size + 1 := by simp
  refine C.seq ?_
  refine C.reg ?_
  refine W.y (y_assign rfl) rfl ?_
  refine W.fin ?_
  refine E.next ?_
  refine C.seq ?_
  refine C.reg ?_
  refine W.y (y_move rfl) rfl ?_
  refine W.y (y_move rfl) rfl ?_
  refine W.y (y_build1 rfl (buildFil32 gg _)) rfl ?_
  refine W.y (y_box rfl) rfl ?_
  refine W.y (y_iff rfl Tryd.underlying70 rfl) rfl ?_
  refine W.y (y_build2 rfl rfl (hbd w.heap.size _)) rfl ?_
  refine W.y (y_box rfl) rfl ?_
  refine W.y (y_iff rfl Tryd.underlying69 rfl) rfl ?_
  refine W.y (y_assign rfl) rfl ?_
  refine W.fin ?_
  refine E.next ?_
  refine C.ret ?_
  exact E.ret1 rfl rfl ⟨by rw [← hs1]; rfl, (Bk.new w _ 72).alloc _, ⟨_, by have := Bk.new (w.alloc (.cells #[.iface 55 (.pointer (some ⟨gg, 0, none⟩))] 72)) ((Z.setIfInBounds 1 (.pointer (some ⟨gc, 0, none⟩))).setIfInBounds 2 (.iface 70 (.pointer (some ⟨w.heap.size, 0, none⟩)))) 76; rw [hs1] at this; exact this, hDF, hOF⟩, ((Kp.refl _ w).alloc _).alloc _, by simp⟩
end Go.Proofs.YtlcbcedhbahbbaaDoor
