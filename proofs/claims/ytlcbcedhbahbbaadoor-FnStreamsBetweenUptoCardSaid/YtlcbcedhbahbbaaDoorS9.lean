/-
  Walks: newlineFilteringReader.Read, NewDecoder (base64).
-/
import Derived.Test.YtlcbcedhbahbbaaDoorS8
import Derived.Test.YtlcbcedhbahbbaaDoorStr4
namespace Go.Proofs.YtlcbcedhbahbbaaDoor
open Go.RowKit
theorem fld83_0 : Fld Tryd.prog 83 0 0 := fld_of (k := 0) Tryd.underlying83 (by kernel_rfl)
theorem ent12 : Enters Tryd.prog 12 := enters_of Tryd.func12 (by kernel_rfl) rfl
theorem ent13 : Enters Tryd.prog 13 := enters_of Tryd.func13 (by kernel_rfl) rfl
theorem ent14 : Enters Tryd.prog 14 := enters_of Tryd.func14 (by kernel_rfl) rfl
theorem ent15 : Enters Tryd.prog 15 := enters_of Tryd.func15 (by kernel_rfl) rfl
theorem ent16 : Enters Tryd.prog 16 := enters_of Tryd.func16 (by kernel_rfl) rfl
theorem ent17 : Enters Tryd.prog 17 := enters_of Tryd.func17 (by kernel_rfl) rfl
theorem ent20 : Enters Tryd.prog 20 := enters_of Tryd.func20 (by kernel_rfl) rfl
theorem ent21 : Enters Tryd.prog 21 := enters_of Tryd.func21 (by kernel_rfl) rfl
theorem buildFil64 (gg : Nat) (w : World) : (Instr.build 83 #[(0, .iface 55 (.pointer (some ⟨gg, 0, none⟩)))]).run Tryd.prog w = .ok (.agg #[.iface 55 (.pointer (some ⟨gg, 0, none⟩))]) w := by kernel_rfl
theorem buildDec64 (gc gf : Nat) (w : World) : (Instr.build 86 #[(2, (.pointer (some ⟨gc, 0, none⟩))), (3, (.iface 81 (.pointer (some ⟨gf, 0, none⟩))))]).run Tryd.prog w = .ok (.agg (((zc Tryd.prog 86).setIfInBounds 2 (.pointer (some ⟨gc, 0, none⟩))).setIfInBounds 3 (.iface 81 (.pointer (some ⟨gf, 0, none⟩))))) w := by kernel_rfl
theorem zcDec64 : (zc Tryd.prog 86).size = 1798 ∧ (zc Tryd.prog 86)[0]? = some .nilIface ∧ (zc Tryd.prog 86)[1]? = some (.nilIface) ∧ (zc Tryd.prog 86)[1028]? = some (.int .i64 0) ∧ (zc Tryd.prog 86)[1029]? = some (.slice none 0 0) := ⟨by kernel_rfl, by kernel_rfl, by kernel_rfl, by kernel_rfl, by kernel_rfl⟩

set_option maxRecDepth 4000 in
theorem filter64_ret {w : World} {gf gg gr gp off m c : Nat} {R : List UInt8} {ds : Array Value} {td : TypeId} {fd : Nat × Nat} {ae : Addr} (hS : Src 83 55 57 9 w gf gg gr (R)) (hEof : w.cell? ⟨0, 0, none⟩ = some (.iface 116 (.pointer (some ae)))) (hD : Bk w gp ds td fd)
    (h1 : gg ≠ gr) (h2 : gp ≠ gg) (h3 : gp ≠ gr) (h4 : gp ≠ gf) (h5 : gf ≠ gg) (h6 : gf ≠ gr) (h0 : gg ≠ 0 ∧ gr ≠ 0 ∧ gp ≠ 0) (hm : 1 ≤ m) (hmc : m ≤ c) (ho : off + m ≤ ds.size) (hfd : off + m ≤ fd.1 ∨ fd.2 ≤ off) (hM : m ≤ 1000000000000) :
    Ret Tryd.prog 74 #[.pointer (some ⟨gf, 0, none⟩), .slice (some ⟨gp, off, none⟩) m c] w fun v w' => Kp (fun k => k = gg ∨ k = gr ∨ k = gp) w w' ∧ ((R = [] ∧ v = .tuple #[.int .i64 0, (.iface 116 (.pointer (some ae)))] ∧ (∃ ds', Bk w' gp ds' td fd ∧ ds'.size = ds.size ∧ Outs ds ds' off m) ∧ Src 83 55 57 9 w' gf gg gr ([])) ∨
      ∃ k : Nat, 1 ≤ k ∧ k ≤ m ∧ k ≤ R.length ∧ v = .tuple #[.int .i64 (k : Int), .nilIface] ∧ (∃ ds', Bk w' gp ds' td fd ∧ ds'.size = ds.size ∧ Outs ds ds' off m ∧ Hd ds' off (R.take k)) ∧ Src 83 55 57 9 w' gf gg gr (R.drop k)) := by
  obtain ⟨hbf, T, hG, hTR⟩ := hS
  refine ret_of Tryd.func74 rfl Tryd.ntmps74 (Nat.le_of_ble_eq_true rfl) ?_
  refine C.seq ?_
  refine C.reg ?_
  refine W.y (y_assign rfl) rfl ?_
  refine W.y (y_assign rfl) rfl ?_
  refine W.fin ?_
  refine E.next ?_
  refine C.seq ?_
  refine C.reg ?_
  refine W.y (y_move rfl) rfl ?_
  refine W.y (y_nilp rfl) rfl ?_
  refine W.y (y_field rfl fld83_0) rfl ?_
  refine W.y (y_load rfl pl51 (Bk.at_ (i := 0) hbf rfl)) rfl ?_
  refine W.y (y_move rfl) rfl ?_
  refine W.inv ent57 methGive rfl rfl (giver_ret hG hEof hD h1 h2 h3 h0 hm ho hfd) rfl ?_
  rintro x1 w1 ⟨hk1, hres⟩
  obtain ⟨n1, b1, T1, d1, e1, hv1, rfl, hb1, hz1, ho1, hg1, hs1, hl1, hn1, hh1, hT1⟩ : ∃ (n1 : Nat) (b1 T1 : List UInt8) (d1 : Array Value) (e1 : Value), (e1 = bif n1 == 0 then ((.iface 116 (.pointer (some ae))) : Value) else Value.nilIface) ∧ x1 = Value.tuple #[.int .i64 ((n1 : Nat) : Int), e1] ∧ Bk w1 gp d1 td fd ∧ d1.size = ds.size ∧ Outs ds d1 off m ∧ Gv w1 gg gr 57 9 T1 ∧ strip (b1 ++ T1) = R ∧ b1.length = n1 ∧ n1 ≤ m ∧ Hd d1 off b1 ∧ (n1 = 0 → T1 = []) := by
    rcases hres with ⟨rfl, rfl, hb, hg⟩ | ⟨k, hk1', hk2, hk3, rfl, hb, hg⟩
    · exact ⟨0, [], [], ds, _, rfl, rfl, hb, rfl, Outs.refl _ _ _, hg, hTR, rfl, by omega, Hd.nil _ _, fun _ => rfl⟩
    · have hlk : (T.take k).length = k := by rw [List.length_take]; omega
      exact ⟨k, T.take k, T.drop k, _, _, (by cases k with | zero => omega | succ k => rfl), rfl, hb, by rw [splice_size], (Outs.refl _ _ _).splice (by omega) (by rw [bv_length]; omega) (by rw [bv_length]; omega), hg, by rw [List.take_append_drop]; exact hTR, hlk, hk2, Hd.of_splice (by omega), fun e => by omega⟩
  subst hv1
  refine W.y (y_move rfl) rfl ?_
  refine W.y (y_ext rfl rfl) rfl ?_
  refine W.y (y_ext rfl rfl) rfl ?_
  refine W.y (y_assign rfl) rfl ?_
  refine W.y (y_assign rfl) rfl ?_
  refine W.fin ?_
  refine E.next ?_
  refine C.seq ?_
  refine C.block ?_
  refine C.loop (σ := Nat × List UInt8 × List UInt8 × Array Value) (fun (n, b, T', di) w' => Kp (fun k => k = gg ∨ k = gr ∨ k = gp) w w' ∧ Bk w' gp di td fd ∧ di.size = ds.size ∧ Outs ds di off m ∧ Gv w' gg gr 57 9 T' ∧ strip (b ++ T') = R ∧ b.length = n ∧ n ≤ m ∧ Hd di off b ∧ (n = 0 → T' = [])) (fun (n, _, _, _) => [(0, .pointer (some ⟨gf, 0, none⟩)), (1, .slice (some ⟨gp, off, none⟩) m c), (6, .int .i64 (n : Int)), (7, bif n == 0 then (.iface 116 (.pointer (some ae))) else .nilIface)]) (fun (_, b, T', _) => b.length + T'.length) (n1, b1, T1, d1) ?_ ?_ ?_
  · exact ⟨hk1, hb1, hz1, ho1, hg1, hs1, hl1, hn1, hh1, hT1⟩
  · exact (Sub.cons rfl (Sub.cons rfl (Sub.cons rfl (Sub.cons rfl (Sub.nil _)))))
  rintro ⟨n, b, T', di⟩ wi ⟨hki, hbi, hzi, hoi, hgi, hsi, hli, hni, hhi, hTi⟩
  show C _ _ _ _ [(0, .pointer (some ⟨gf, 0, none⟩)), (1, .slice (some ⟨gp, off, none⟩) m c), (6, .int .i64 (n : Int)), (7, bif n == 0 then (.iface 116 (.pointer (some ae))) else .nilIface)] _
  have hbfi : Bk wi gf #[.iface 55 (.pointer (some ⟨gg, 0, none⟩))] 83 (0, 0) := hbf.kept hki (by omega)
  rcases Nat.eq_zero_or_pos n with rfl | hn0
  · have hT0 := hTi rfl
    subst hT0
    have hb0 : b = [] := List.eq_nil_of_length_eq_zero hli
    subst hb0
    refine C.seq ?_
    refine C.seq ?_
    refine C.reg ?_
    refine W.y (y_move rfl) rfl ?_
    refine W.y (y_gtrF rfl rfl (by omega)) rfl ?_
    refine W.fin ?_
    refine E.next ?_
    refine C.no rfl ?_
    refine C.exit ?_
    refine E.thenExit ?_
    refine E.thenExit ?_
    refine E.blockOut ?_
    refine E.next ?_
    refine C.seq ?_
    refine C.reg ?_
    refine W.y (y_move rfl) rfl ?_
    refine W.y (y_move rfl) rfl ?_
    refine W.y (y_assign rfl) rfl ?_
    refine W.y (y_assign rfl) rfl ?_
    refine W.fin ?_
    refine E.next ?_
    refine C.ret ?_
    exact E.ret2 rfl rfl rfl ⟨hki, .inl ⟨hsi.symm, rfl, ⟨di, hbi, hzi, hoi⟩, hbfi, [], hgi, rfl⟩⟩
  obtain ⟨n, rfl⟩ : ∃ n0, n = n0 + 1 := ⟨n - 1, by omega⟩
  rw [strip_append] at hsi
  have hsb := strip_le b
  have hrest : ∀ W, Kp (fun k => k = gg ∨ k = gr ∨ k = gp) w W → Gv W gg gr 57 9 T' → Src 83 55 57 9 W gf gg gr (R.drop (strip b).length) := fun W hk hg => ⟨hbf.kept hk (by omega), T', hg, by rw [← hsi, List.drop_left]⟩
  refine C.seq ?_
  refine C.seq ?_
  refine C.reg ?_
  refine W.y (y_move rfl) rfl ?_
  refine W.y (y_gtrT rfl rfl (by omega)) rfl ?_
  refine W.fin ?_
  refine E.next ?_
  refine C.yes rfl ?_
  refine C.skip ?_
  refine E.next ?_
  refine C.block ?_
  refine C.seq ?_
  refine C.reg ?_
  refine W.y (y_assign rfl) rfl ?_
  refine W.fin ?_
  refine E.next ?_
  refine C.seq ?_
  refine C.seq ?_
  refine C.reg ?_
  refine W.y (y_move rfl) rfl ?_
  refine W.y (y_move rfl) rfl ?_
  refine W.y (y_cuth rfl rfl Tryd.underlying22 siz5 (by omega)) rfl ?_
  refine W.y (y_len rfl Tryd.underlying22) rfl ?_
  refine W.y (y_move rfl) rfl ?_
  refine W.fin ?_
  refine E.next ?_
  refine C.block ?_
  refine C.loop (σ := Nat × Array Value) (fun (i, d2) w2 => i ≤ n + 1 ∧ Kp (fun k => k = gg ∨ k = gr ∨ k = gp) w w2 ∧ Bk w2 gp d2 td fd ∧ d2.size = ds.size ∧ Outs ds d2 off m ∧ Hd d2 off (strip (b.take i)) ∧ (∀ (j : Nat) (x : UInt8), i ≤ j → b[j]? = some x → d2[off + j]? = some (u8 x)) ∧ Gv w2 gg gr 57 9 T') (fun (i, _) => [(0, .pointer (some ⟨gf, 0, none⟩)), (1, .slice (some ⟨gp, off, none⟩) m c), (6, .int .i64 ((n + 1 : Nat) : Int)), (7, .nilIface), (8, .int .i64 ((strip (b.take i)).length : Int)), (24, .slice (some ⟨gp, off, none⟩) (n + 1) c), (25, .int .i64 ((n + 1 : Nat) : Int)), (26, .int .i64 (i : Int))]) (fun (i, _) => n + 1 - i) (0, di) ?_ ?_ ?_
  · exact ⟨by omega, hki, hbi, hzi, hoi, Hd.nil _ _, fun j x _ hx => hhi j x hx, hgi⟩
  · exact (Sub.cons rfl (Sub.cons rfl (Sub.cons rfl (Sub.cons rfl (Sub.cons rfl (Sub.cons rfl (Sub.cons rfl (Sub.cons rfl (Sub.nil _)))))))))
  rintro ⟨i, d2⟩ w2 ⟨hi, hko, hb2, hz2, hO2, hh2, hri, hg2⟩
  show C _ _ _ _ [(0, .pointer (some ⟨gf, 0, none⟩)), (1, .slice (some ⟨gp, off, none⟩) m c), (6, .int .i64 ((n + 1 : Nat) : Int)), (7, .nilIface), (8, .int .i64 ((strip (b.take i)).length : Int)), (24, .slice (some ⟨gp, off, none⟩) (n + 1) c), (25, .int .i64 ((n + 1 : Nat) : Int)), (26, .int .i64 (i : Int))] _
  have hle := strip_take_le b i
  by_cases h : i < n + 1
  · obtain ⟨x, hx⟩ : ∃ x, b[i]? = some x := ⟨_, List.getElem?_eq_getElem (by omega)⟩
    have hcx := hri i x (Nat.le_refl _) hx
    have hst := strip_snoc hx
    have hx8 := x.toNat_lt
    by_cases h13 : x.toNat = 13
    · rw [show nonl x = false by simp [nonl, h13], if_neg (by simp), List.append_nil] at hst
      refine C.seq ?_
      refine C.reg ?_
      refine W.y (y_lssT rfl rfl (by omega)) rfl ?_
      refine W.fin ?_
      refine E.next ?_
      refine C.seq ?_
      refine C.yes rfl ?_
      refine C.skip ?_
      refine E.next ?_
      refine C.seq ?_
      refine C.block ?_
      refine C.seq ?_
      refine C.reg ?_
      refine W.y (y_move rfl) rfl ?_
      refine W.y (y_ixn rfl rfl Tryd.underlying22 siz5 (by omega)) rfl ?_
      refine W.y (y_load rfl pl5 (Bk.at_ hb2 hcx)) rfl ?_
      refine W.y (y_assign rfl) rfl ?_
      refine W.y (y_assign rfl) rfl ?_
      refine W.fin ?_
      refine E.next ?_
      refine C.seq ?_
      refine C.reg ?_
      refine W.y (y_move rfl) rfl ?_
      refine W.y (y_neqF rfl rfl (by omega)) rfl ?_
      refine W.y (y_move rfl) rfl ?_
      refine W.gn rfl rfl rfl ?_
      refine W.gn rfl rfl rfl ?_
      refine W.y (y_pick rfl rfl) rfl ?_
      refine W.fin ?_
      refine E.next ?_
      refine C.no rfl ?_
      refine C.skip ?_
      refine E.blockNormal ?_
      refine E.next ?_
      refine C.reg ?_
      refine W.y (y_add rfl rfl (wi64 (by omega) (by omega))) rfl ?_
      refine W.y (y_move rfl) rfl ?_
      refine W.fin ?_
      exact E.again (i + 1, d2) ⟨by omega, hko, hb2, hz2, hO2, by rw [hst]; exact hh2, fun j y hj hy => hri j y (by omega) hy, hg2⟩ (Sub.cons rfl (Sub.cons rfl (Sub.cons rfl (Sub.cons rfl (Sub.cons (congrArg (fun y : List UInt8 => some (Value.int .i64 (y.length : Int))) hst.symm) (Sub.cons rfl (Sub.cons rfl (Sub.cons rfl (Sub.nil _))))))))) (by show n + 1 - (i + 1) < n + 1 - i; omega)
    by_cases h10 : x.toNat = 10
    · rw [show nonl x = false by simp [nonl, h10], if_neg (by simp), List.append_nil] at hst
      refine C.seq ?_
      refine C.reg ?_
      refine W.y (y_lssT rfl rfl (by omega)) rfl ?_
      refine W.fin ?_
      refine E.next ?_
      refine C.seq ?_
      refine C.yes rfl ?_
      refine C.skip ?_
      refine E.next ?_
      refine C.seq ?_
      refine C.block ?_
      refine C.seq ?_
      refine C.reg ?_
      refine W.y (y_move rfl) rfl ?_
      refine W.y (y_ixn rfl rfl Tryd.underlying22 siz5 (by omega)) rfl ?_
      refine W.y (y_load rfl pl5 (Bk.at_ hb2 hcx)) rfl ?_
      refine W.y (y_assign rfl) rfl ?_
      refine W.y (y_assign rfl) rfl ?_
      refine W.fin ?_
      refine E.next ?_
      refine C.seq ?_
      refine C.reg ?_
      refine W.y (y_move rfl) rfl ?_
      refine W.y (y_neqT rfl rfl (by omega)) rfl ?_
      refine W.y (y_move rfl) rfl ?_
      refine W.gy rfl rfl (y_move rfl) rfl ?_
      refine W.gy rfl rfl (y_neqF rfl rfl (by omega)) rfl ?_
      refine W.y (y_pick rfl rfl) rfl ?_
      refine W.fin ?_
      refine E.next ?_
      refine C.no rfl ?_
      refine C.skip ?_
      refine E.blockNormal ?_
      refine E.next ?_
      refine C.reg ?_
      refine W.y (y_add rfl rfl (wi64 (by omega) (by omega))) rfl ?_
      refine W.y (y_move rfl) rfl ?_
      refine W.fin ?_
      exact E.again (i + 1, d2) ⟨by omega, hko, hb2, hz2, hO2, by rw [hst]; exact hh2, fun j y hj hy => hri j y (by omega) hy, hg2⟩ (Sub.cons rfl (Sub.cons rfl (Sub.cons rfl (Sub.cons rfl (Sub.cons (congrArg (fun y : List UInt8 => some (Value.int .i64 (y.length : Int))) hst.symm) (Sub.cons rfl (Sub.cons rfl (Sub.cons rfl (Sub.nil _))))))))) (by show n + 1 - (i + 1) < n + 1 - i; omega)
    rw [show nonl x = true by simp [nonl, h13, h10], if_pos rfl] at hst
    have hsl : (strip (b.take (i + 1))).length = (strip (b.take i)).length + 1 := by rw [hst, List.length_append]; rfl
    by_cases he : i = (strip (b.take i)).length
    · skip
      refine C.seq ?_
      refine C.reg ?_
      refine W.y (y_lssT rfl rfl (by omega)) rfl ?_
      refine W.fin ?_
      refine E.next ?_
      refine C.seq ?_
      refine C.yes rfl ?_
      refine C.skip ?_
      refine E.next ?_
      refine C.seq ?_
      refine C.block ?_
      refine C.seq ?_
      refine C.reg ?_
      refine W.y (y_move rfl) rfl ?_
      refine W.y (y_ixn rfl rfl Tryd.underlying22 siz5 (by omega)) rfl ?_
      refine W.y (y_load rfl pl5 (Bk.at_ hb2 hcx)) rfl ?_
      refine W.y (y_assign rfl) rfl ?_
      refine W.y (y_assign rfl) rfl ?_
      refine W.fin ?_
      refine E.next ?_
      refine C.seq ?_
      refine C.reg ?_
      refine W.y (y_move rfl) rfl ?_
      refine W.y (y_neqT rfl rfl (by omega)) rfl ?_
      refine W.y (y_move rfl) rfl ?_
      refine W.gy rfl rfl (y_move rfl) rfl ?_
      refine W.gy rfl rfl (y_neqT rfl rfl (by omega)) rfl ?_
      refine W.y (y_pick rfl rfl) rfl ?_
      refine W.fin ?_
      refine E.next ?_
      refine C.yes rfl ?_
      refine C.seq ?_
      refine C.seq ?_
      refine C.reg ?_
      refine W.y (y_move rfl) rfl ?_
      refine W.y (y_move rfl) rfl ?_
      refine W.y (y_neqF rfl rfl (by omega)) rfl ?_
      refine W.fin ?_
      refine E.next ?_
      refine C.no rfl ?_
      refine C.skip ?_
      refine E.next ?_
      refine C.reg ?_
      refine W.y (y_move rfl) rfl ?_
      refine W.y (Does.as (y_add rfl rfl (wi64 (by omega) (by omega))) (vint (b := (((strip (b.take (i + 1))).length : Nat) : Int)) (by omega))) rfl ?_
      refine W.y (y_assign rfl) rfl ?_
      refine W.fin ?_
      refine E.blockNormal ?_
      refine E.next ?_
      refine C.reg ?_
      refine W.y (y_add rfl rfl (wi64 (by omega) (by omega))) rfl ?_
      refine W.y (y_move rfl) rfl ?_
      refine W.fin ?_
      exact E.again (i + 1, d2) ⟨by omega, hko, hb2, hz2, hO2, by
        rw [hst]
        intro j y hy
        by_cases hj : j < (strip (b.take i)).length
        · rw [List.getElem?_append_left hj] at hy
          exact hh2 j y hy
        · have hjl := get_lt hy
          rw [List.length_append, List.length_singleton] at hjl
          have e : j = (strip (b.take i)).length := by omega
          subst e
          rw [List.getElem?_append_right (Nat.le_refl _), Nat.sub_self] at hy
          injection hy with hy
          rw [← he, ← hy]
          exact hcx, fun j y hj hy => hri j y (by omega) hy, hg2⟩ (Sub.cons rfl (Sub.cons rfl (Sub.cons rfl (Sub.cons rfl (Sub.cons rfl (Sub.cons rfl (Sub.cons rfl (Sub.cons rfl (Sub.nil _))))))))) (by show n + 1 - (i + 1) < n + 1 - i; omega)
    refine C.seq ?_
    refine C.reg ?_
    refine W.y (y_lssT rfl rfl (by omega)) rfl ?_
    refine W.fin ?_
    refine E.next ?_
    refine C.seq ?_
    refine C.yes rfl ?_
    refine C.skip ?_
    refine E.next ?_
    refine C.seq ?_
    refine C.block ?_
    refine C.seq ?_
    refine C.reg ?_
    refine W.y (y_move rfl) rfl ?_
    refine W.y (y_ixn rfl rfl Tryd.underlying22 siz5 (by omega)) rfl ?_
    refine W.y (y_load rfl pl5 (Bk.at_ hb2 hcx)) rfl ?_
    refine W.y (y_assign rfl) rfl ?_
    refine W.y (y_assign rfl) rfl ?_
    refine W.fin ?_
    refine E.next ?_
    refine C.seq ?_
    refine C.reg ?_
    refine W.y (y_move rfl) rfl ?_
    refine W.y (y_neqT rfl rfl (by omega)) rfl ?_
    refine W.y (y_move rfl) rfl ?_
    refine W.gy rfl rfl (y_move rfl) rfl ?_
    refine W.gy rfl rfl (y_neqT rfl rfl (by omega)) rfl ?_
    refine W.y (y_pick rfl rfl) rfl ?_
    refine W.fin ?_
    refine E.next ?_
    refine C.yes rfl ?_
    refine C.seq ?_
    refine C.seq ?_
    refine C.reg ?_
    refine W.y (y_move rfl) rfl ?_
    refine W.y (y_move rfl) rfl ?_
    refine W.y (y_neqT rfl rfl (by omega)) rfl ?_
    refine W.fin ?_
    refine E.next ?_
    refine C.yes rfl ?_
    refine C.reg ?_
    refine W.y (y_move rfl) rfl ?_
    refine W.y (y_move rfl) rfl ?_
    refine W.y (y_move rfl) rfl ?_
    refine W.y (y_ixn rfl rfl Tryd.underlying22 siz5 (by omega)) rfl ?_
    refine W.s (s_store rfl rfl rfl siz5 (Bk.some hb2 (by omega)) (Bk.frozen hb2 (by omega))) ?_
    refine W.fin ?_
    refine E.next ?_
    refine C.reg ?_
    refine W.y (y_move rfl) rfl ?_
    refine W.y (Does.as (y_add rfl rfl (wi64 (by omega) (by omega))) (vint (b := (((strip (b.take (i + 1))).length : Nat) : Int)) (by omega))) rfl ?_
    refine W.y (y_assign rfl) rfl ?_
    refine W.fin ?_
    refine E.blockNormal ?_
    refine E.next ?_
    refine C.reg ?_
    refine W.y (y_add rfl rfl (wi64 (by omega) (by omega))) rfl ?_
    refine W.y (y_move rfl) rfl ?_
    refine W.fin ?_
    exact E.again (i + 1, _) ⟨by omega, hko.set (.inl (.inr (.inr rfl))) _, Bk.set hb2 (off + (strip (b.take i)).length) (u8 x), by rw [Array.size_setIfInBounds]; exact hz2, hO2.set (by omega) (by omega), by
      rw [hst]
      intro j y hy
      by_cases hj : j < (strip (b.take i)).length
      · rw [List.getElem?_append_left hj] at hy
        rw [Array.getElem?_setIfInBounds, if_neg (by omega)]
        exact hh2 j y hy
      · have hjl := get_lt hy
        rw [List.length_append, List.length_singleton] at hjl
        have e : j = (strip (b.take i)).length := by omega
        subst e
        rw [List.getElem?_append_right (Nat.le_refl _), Nat.sub_self] at hy
        injection hy with hy
        rw [Array.getElem?_setIfInBounds, if_pos rfl, if_pos (by omega), hy], fun j y hj hy => by
      rw [Array.getElem?_setIfInBounds, if_neg (by omega)]
      exact hri j y (by omega) hy, hg2.kept ((Kp.refl (· = gp) w2).set (.inl rfl) _) (fun e => h2 e.symm) (fun e => h3 e.symm)⟩ (Sub.cons rfl (Sub.cons rfl (Sub.cons rfl (Sub.cons rfl (Sub.cons rfl (Sub.cons rfl (Sub.cons rfl (Sub.cons rfl (Sub.nil _))))))))) (by show n + 1 - (i + 1) < n + 1 - i; omega)
  obtain rfl : i = n + 1 := by omega
  rw [List.take_of_length_le (by omega)] at hh2 hle
  have hbt : b.take (n + 1) = b := List.take_of_length_le (by omega)
  refine C.seq ?_
  refine C.reg ?_
  refine W.y (y_lssF rfl rfl (by omega)) rfl ?_
  refine W.fin ?_
  refine E.next ?_
  refine C.seq ?_
  refine C.no rfl ?_
  refine C.exit ?_
  refine E.thenExit ?_
  refine E.thenExit ?_
  refine E.blockOut ?_
  refine E.next ?_
  refine C.seq ?_
  refine C.seq ?_
  rw [hbt]
  by_cases hs0 : 0 < (strip b).length
  · skip
    refine C.reg ?_
    refine W.y (y_move rfl) rfl ?_
    refine W.y (y_gtrT rfl rfl (by omega)) rfl ?_
    refine W.fin ?_
    refine E.next ?_
    refine C.yes rfl ?_
    refine C.seq ?_
    refine C.reg ?_
    refine W.y (y_move rfl) rfl ?_
    refine W.y (y_move rfl) rfl ?_
    refine W.y (y_assign rfl) rfl ?_
    refine W.y (y_assign rfl) rfl ?_
    refine W.fin ?_
    refine E.next ?_
    refine C.ret ?_
    refine E.thenRet ?_
    refine E.blockRet ?_
    refine E.thenRet ?_
    refine E.blockRet ?_
    refine E.thenRet ?_
    exact E.ret2 rfl rfl rfl ⟨hko, .inr ⟨(strip b).length, by omega, by omega, by rw [← hsi, List.length_append]; omega, rfl, ⟨d2, hb2, hz2, hO2, by rw [← hsi, List.take_left]; exact hh2⟩, hrest w2 hko hg2⟩⟩
  have hsb0 : strip b = [] := List.eq_nil_of_length_eq_zero (by omega)
  have hTR2 : strip T' = R := by rw [← hsi, hsb0]; rfl
  have hEq : w2.cell? ⟨0, 0, none⟩ = some (.iface 116 (.pointer (some ae))) := by rw [← hEof]; exact World.cell?_of_block (hko.block 0 (World.block_lt_of_cell? w _ hEof) (by omega))
  refine C.reg ?_
  refine W.y (y_move rfl) rfl ?_
  refine W.y (y_gtrF rfl rfl (by omega)) rfl ?_
  refine W.fin ?_
  refine E.next ?_
  refine C.no rfl ?_
  refine C.skip ?_
  refine E.next ?_
  refine C.reg ?_
  refine W.y (y_move rfl) rfl ?_
  refine W.y (y_nilp rfl) rfl ?_
  refine W.y (y_field rfl fld83_0) rfl ?_
  refine W.y (y_load rfl pl51 (Bk.at_ (i := 0) (hbf.kept hko (by omega)) rfl)) rfl ?_
  refine W.y (y_move rfl) rfl ?_
  refine W.inv ent57 methGive rfl rfl (giver_ret hg2 hEq hb2 h1 h2 h3 h0 hm (by omega) hfd) rfl ?_
  rintro x1 w3 ⟨hk3, hres⟩
  have hk03 := hko.trans hk3
  obtain ⟨n1, b1, T1, d1, e1, hv1, rfl, hb1, hz1, ho1, hg1, hs1, hl1, hn1, hh1, hT1, hmu⟩ : ∃ (n1 : Nat) (b1 T1 : List UInt8) (d1 : Array Value) (e1 : Value), (e1 = bif n1 == 0 then ((.iface 116 (.pointer (some ae))) : Value) else Value.nilIface) ∧ x1 = Value.tuple #[.int .i64 ((n1 : Nat) : Int), e1] ∧ Bk w3 gp d1 td fd ∧ d1.size = ds.size ∧ Outs ds d1 off m ∧ Gv w3 gg gr 57 9 T1 ∧ strip (b1 ++ T1) = R ∧ b1.length = n1 ∧ n1 ≤ m ∧ Hd d1 off b1 ∧ (n1 = 0 → T1 = []) ∧ b1.length + T1.length ≤ T'.length := by
    rcases hres with ⟨e, rfl, hb, hg⟩ | ⟨k, hk1', hk2', hk3', rfl, hb, hg⟩
    · subst e
      exact ⟨0, [], [], d2, _, rfl, rfl, hb, hz2, hO2, hg, hTR2, rfl, by omega, Hd.nil _ _, (fun _ => rfl), Nat.le_refl _⟩
    · have hlk : (T'.take k).length = k := by rw [List.length_take]; omega
      exact ⟨k, T'.take k, T'.drop k, _, _, (by cases k with | zero => omega | succ k => rfl), rfl, hb, by rw [splice_size]; exact hz2, hO2.splice (by omega) (by rw [bv_length]; omega) (by rw [bv_length]; omega), hg, by rw [List.take_append_drop]; exact hTR2, hlk, hk2', Hd.of_splice (by omega), (fun e => by omega), by rw [List.length_drop]; omega⟩
  subst hv1
  refine W.y (y_move rfl) rfl ?_
  refine W.y (y_ext rfl rfl) rfl ?_
  refine W.y (y_ext rfl rfl) rfl ?_
  refine W.y (y_assign rfl) rfl ?_
  refine W.y (y_assign rfl) rfl ?_
  refine W.fin ?_
  refine E.blockNormal ?_
  exact E.again (n1, b1, T1, d1) ⟨hk03, hb1, hz1, ho1, hg1, hs1, hl1, hn1, hh1, hT1⟩ (Sub.cons rfl (Sub.cons rfl (Sub.cons rfl (Sub.cons rfl (Sub.nil _))))) (by show b1.length + T1.length < b.length + T'.length; omega)
set_option maxRecDepth 4000 in
theorem newDecoder64_ret {w : World} {gc gg : Nat} : Ret Tryd.prog 28 #[.pointer (some ⟨gc, 0, none⟩), .iface 55 (.pointer (some ⟨gg, 0, none⟩))] w fun r w' => r = .iface 80 (.pointer (some ⟨w.heap.size + 1, 0, none⟩)) ∧
    Bk w' w.heap.size #[.iface 55 (.pointer (some ⟨gg, 0, none⟩))] 83 (0, 0) ∧ (∃ ds, Bk w' (w.heap.size + 1) ds 86 (0, 0) ∧ DF 768 ds .nilIface .nilIface (.pointer (some ⟨gc, 0, none⟩)) (.iface 81 (.pointer (some ⟨w.heap.size, 0, none⟩))) [] 0 ∧ OF 768 ds (w.heap.size + 1) []) ∧ Kp (fun _ => False) w w' ∧ w'.heap.size = w.heap.size + 2 := by
  obtain ⟨z1, z2, z3, z4, z5⟩ := zcDec64
  have hbd := fun gf w => buildDec64 gc gf w
  generalize zc Tryd.prog 86 = Z at hbd z1 z2 z3 z4 z5
  have hDF : DF 768 ((Z.setIfInBounds 2 (.pointer (some ⟨gc, 0, none⟩))).setIfInBounds 3 (.iface 81 (.pointer (some ⟨w.heap.size, 0, none⟩)))) .nilIface .nilIface (.pointer (some ⟨gc, 0, none⟩)) (.iface 81 (.pointer (some ⟨w.heap.size, 0, none⟩))) [] 0 := ⟨by rw [Array.size_setIfInBounds, Array.size_setIfInBounds, z1], by rw [Array.getElem?_setIfInBounds, if_neg (by omega), Array.getElem?_setIfInBounds, if_neg (by omega)]; exact z2, by rw [Array.getElem?_setIfInBounds, if_neg (by omega), Array.getElem?_setIfInBounds, if_neg (by omega)]; exact z3, by rw [Array.getElem?_setIfInBounds, if_neg (by omega), Array.getElem?_setIfInBounds, if_pos rfl, if_pos (by omega)], by rw [Array.getElem?_setIfInBounds, if_pos rfl, if_pos (by simp only [Array.size_setIfInBounds]; omega)], Hd.nil _ _, by rw [Array.getElem?_setIfInBounds, if_neg (by omega), Array.getElem?_setIfInBounds, if_neg (by omega)]; exact z4⟩
  have hOF : OF 768 ((Z.setIfInBounds 2 (.pointer (some ⟨gc, 0, none⟩))).setIfInBounds 3 (.iface 81 (.pointer (some ⟨w.heap.size, 0, none⟩)))) (w.heap.size + 1) [] := OF.none (by rw [Array.getElem?_setIfInBounds, if_neg (by omega), Array.getElem?_setIfInBounds, if_neg (by omega)]; exact z5)
  refine ret_of Tryd.func28 rfl Tryd.ntmps28 (Nat.le_of_ble_eq_true rfl) ?_
  have hs1 : (w.alloc (.cells #[.iface 55 (.pointer (some ⟨gg, 0, none⟩))] 83)).heap.size = w.heap.size + 1 := by simp
  refine C.seq ?_
  refine C.reg ?_
  refine W.y (y_assign rfl) rfl ?_
  refine W.fin ?_
  refine E.next ?_
  refine C.seq ?_
  refine C.reg ?_
  refine W.y (y_move rfl) rfl ?_
  refine W.y (y_move rfl) rfl ?_
  refine W.y (y_build1 rfl (buildFil64 gg _)) rfl ?_
  refine W.y (y_box rfl) rfl ?_
  refine W.y (y_iff rfl Tryd.underlying81 rfl) rfl ?_
  refine W.y (y_build2 rfl rfl (hbd w.heap.size _)) rfl ?_
  refine W.y (y_box rfl) rfl ?_
  refine W.y (y_iff rfl Tryd.underlying80 rfl) rfl ?_
  refine W.y (y_assign rfl) rfl ?_
  refine W.fin ?_
  refine E.next ?_
  refine C.ret ?_
  exact E.ret1 rfl rfl ⟨by rw [← hs1]; rfl, (Bk.new w _ 83).alloc _, ⟨_, by have := Bk.new (w.alloc (.cells #[.iface 55 (.pointer (some ⟨gg, 0, none⟩))] 83)) ((Z.setIfInBounds 2 (.pointer (some ⟨gc, 0, none⟩))).setIfInBounds 3 (.iface 81 (.pointer (some ⟨w.heap.size, 0, none⟩)))) 86; rw [hs1] at this; exact this, hDF, hOF⟩, ((Kp.refl _ w).alloc _).alloc _, by simp⟩
end Go.Proofs.YtlcbcedhbahbbaaDoor
