/-
  Walk: newlineFilteringReader.Read (base32).
-/
import Derived.Test.YtlcbcedhbahbbaaDoorS1
namespace Go.Proofs.YtlcbcedhbahbbaaDoor
open Go.RowKit
theorem pl51 : Plain Tryd.prog 51 := plain_of Tryd.underlying51 rfl
theorem fld72_0 : Fld Tryd.prog 72 0 0 := fld_of (k := 0) Tryd.underlying72 (by kernel_rfl)
theorem ent57 : Enters Tryd.prog 57 := enters_of Tryd.func57 (by kernel_rfl) rfl
theorem ent66 : Enters Tryd.prog 66 := enters_of Tryd.func66 (by kernel_rfl) rfl
theorem methGive : Meth Tryd.prog 55 "Read" 57 := fun a w => by kernel_rfl

set_option maxRecDepth 4000 in
theorem filter32_ret {w : World} {gf gg gr gp off m c : Nat} {R : List UInt8} {ds : Array Value} {td : TypeId} {fd : Nat × Nat} {ae : Addr} (hS : Src 72 55 57 9 w gf gg gr (R)) (hEof : w.cell? ⟨0, 0, none⟩ = some (.iface 116 (.pointer (some ae)))) (hD : Bk w gp ds td fd)
    (h1 : gg ≠ gr) (h2 : gp ≠ gg) (h3 : gp ≠ gr) (h4 : gp ≠ gf) (h5 : gf ≠ gg) (h6 : gf ≠ gr) (h0 : gg ≠ 0 ∧ gr ≠ 0 ∧ gp ≠ 0) (hm : 1 ≤ m) (hmc : m ≤ c) (ho : off + m ≤ ds.size) (hfd : off + m ≤ fd.1 ∨ fd.2 ≤ off) (hM : m ≤ 1000000000000) :
    Ret Tryd.prog 65 #[.pointer (some ⟨gf, 0, none⟩), .slice (some ⟨gp, off, none⟩) m c] w fun v w' => Kp (fun k => k = gg ∨ k = gr ∨ k = gp) w w' ∧ ((R = [] ∧ v = .tuple #[.int .i64 0, (.iface 116 (.pointer (some ae)))] ∧ (∃ ds', Bk w' gp ds' td fd ∧ ds'.size = ds.size ∧ Outs ds ds' off m) ∧ Src 72 55 57 9 w' gf gg gr ([])) ∨
      ∃ k : Nat, 1 ≤ k ∧ k ≤ m ∧ k ≤ R.length ∧ v = .tuple #[.int .i64 (k : Int), .nilIface] ∧ (∃ ds', Bk w' gp ds' td fd ∧ ds'.size = ds.size ∧ Outs ds ds' off m ∧ Hd ds' off (R.take k)) ∧ Src 72 55 57 9 w' gf gg gr (R.drop k)) := by
  obtain ⟨hbf, T, hG, hTR⟩ := hS
  refine ret_of Tryd.func65 rfl Tryd.ntmps65 (Nat.le_of_ble_eq_true rfl) ?_
  refine C.seq ?_
  refine C.reg ?_
  refine W.y (y_assign rfl) rfl ?_
  refine W.y (y_assign rfl) rfl ?_
  refine W.fin ?_
  refine E.next ?_
  refine C.seq ?_
  refine C.reg ?_
  refine W.y (y_move rfl) rfl ?_
  refine W.y (y_nilp rfl) rfl ?_
  refine W.y (y_field rfl fld72_0) rfl ?_
  refine W.y (y_load rfl pl51 (Bk.at_ (i := 0) hbf rfl)) rfl ?_
  refine W.y (y_move rfl) rfl ?_
  refine W.inv ent57 methGive rfl rfl (giver_ret hG hEof hD h1 h2 h3 h0 hm ho hfd) rfl ?_
  rintro x1 w1 ⟨hk1, hres⟩
  obtain ⟨n1, b1, T1, d1, e1, hv1, rfl, hb1, hz1, ho1, hg1, hs1, hl1, hn1, hh1, hT1⟩ : ∃ (n1 : Nat) (b1 T1 : List UInt8) (d1 : Array Value) (e1 : Value), (e1 = bif n1 == 0 then ((.iface 116 (.pointer (some ae))) : Value) else Value.nilIface) ∧ x1 = Value.tuple #[.int .i64 ((n1 : Nat) : Int), e1] ∧ Bk w1 gp d1 td fd ∧ d1.size = ds.size ∧ Outs ds d1 off m ∧ Gv w1 gg gr 57 9 T1 ∧ strip (b1 ++ T1) = R ∧ b1.length = n1 ∧ n1 ≤ m ∧ Hd d1 off b1 ∧ (n1 = 0 → T1 = []) := by
    rcases hres with ⟨rfl, rfl, hb, hg⟩ | ⟨k, hk1', hk2, hk3, rfl, hb, hg⟩
    · exact ⟨0, [], [], ds, _, rfl, rfl, hb, rfl, Outs.refl _ _ _, hg, hTR, rfl, by omega, Hd.nil _ _, fun _ => rfl⟩
    · have hlk : (T.take k).length = k := by rw [List.length_take]; omega
      exact ⟨k, T.take k, T.drop k, _, _, (by cases k with | zero => omega | succ k => rfl), rfl, hb, by rw [splice_size], (Outs.refl _ _ _).splice (by omega) (by rw [bv_length]; omega) (by rw [bv_length]; omega), hg, by rw [List.take_append_drop]; exact hTR, hlk, hk2, Hd.of_splice (by omega), fun e => by omega⟩
  subst hv1
  refine W.y (y_move rfl) rfl ?_
  refine W.y (y_ext rfl rfl) rfl ?_
  refine W.y (y_ext rfl rfl) rfl ?_
  refine W.y (y_assign rfl) rfl ?_
  refine W.y (y_assign rfl) rfl ?_
  refine W.fin ?_
  refine E.next ?_
  refine C.seq ?_
  refine C.block ?_
  refine C.loop (σ := Nat × List UInt8 × List UInt8 × Array Value) (fun (n, b, T', di) w' => Kp (fun k => k = gg ∨ k = gr ∨ k = gp) w w' ∧ Bk w' gp di td fd ∧ di.size = ds.size ∧ Outs ds di off m ∧ Gv w' gg gr 57 9 T' ∧ strip (b ++ T') = R ∧ b.length = n ∧ n ≤ m ∧ Hd di off b ∧ (n = 0 → T' = [])) (fun (n, _, _, _) => [(0, .pointer (some ⟨gf, 0, none⟩)), (1, .slice (some ⟨gp, off, none⟩) m c), (6, .int .i64 (n : Int)), (7, bif n == 0 then (.iface 116 (.pointer (some ae))) else .nilIface)]) (fun (_, b, T', _) => b.length + T'.length) (n1, b1, T1, d1) ?_ ?_ ?_
  · exact ⟨hk1, hb1, hz1, ho1, hg1, hs1, hl1, hn1, hh1, hT1⟩
  · exact (Sub.cons rfl (Sub.cons rfl (Sub.cons rfl (Sub.cons rfl (Sub.nil _)))))
  rintro ⟨n, b, T', di⟩ wi ⟨hki, hbi, hzi, hoi, hgi, hsi, hli, hni, hhi, hTi⟩
  show C _ _ _ _ [(0, .pointer (some ⟨gf, 0, none⟩)), (1, .slice (some ⟨gp, off, none⟩) m c), (6, .int .i64 (n : Int)), (7, bif n == 0 then (.iface 116 (.pointer (some ae))) else .nilIface)] _
  have hbfi : Bk wi gf #[.iface 55 (.pointer (some ⟨gg, 0, none⟩))] 72 (0, 0) := hbf.kept hki (by omega)
  rcases Nat.eq_zero_or_pos n with rfl | hn0
  · have hT0 := hTi rfl
    subst hT0
    have hb0 : b = [] := List.eq_nil_of_length_eq_zero hli
    subst hb0
    refine C.seq ?_
    refine C.seq ?_
    refine C.reg ?_
    refine W.y (y_move rfl) rfl ?_
    refine W.y (y_gtrF rfl rfl (by omega)) rfl ?_
    refine W.fin ?_
    refine E.next ?_
    refine C.no rfl ?_
    refine C.exit ?_
    refine E.thenExit ?_
    refine E.thenExit ?_
    refine E.blockOut ?_
    refine E.next ?_
    refine C.seq ?_
    refine C.reg ?_
    refine W.y (y_move rfl) rfl ?_
    refine W.y (y_move rfl) rfl ?_
    refine W.y (y_assign rfl) rfl ?_
    refine W.y (y_assign rfl) rfl ?_
    refine W.fin ?_
    refine E.next ?_
    refine C.ret ?_
    exact E.ret2 rfl rfl rfl ⟨hki, .inl ⟨hsi.symm, rfl, ⟨di, hbi, hzi, hoi⟩, hbfi, [], hgi, rfl⟩⟩
  obtain ⟨n, rfl⟩ : ∃ n0, n = n0 + 1 := ⟨n - 1, by omega⟩
  rw [strip_append] at hsi
  have hsb := strip_le b
  have hrest : ∀ W, Kp (fun k => k = gg ∨ k = gr ∨ k = gp) w W → Gv W gg gr 57 9 T' → Src 72 55 57 9 W gf gg gr (R.drop (strip b).length) := fun W hk hg => ⟨hbf.kept hk (by omega), T', hg, by rw [← hsi, List.drop_left]⟩
  refine C.seq ?_
  refine C.seq ?_
  refine C.reg ?_
  refine W.y (y_move rfl) rfl ?_
  refine W.y (y_gtrT rfl rfl (by omega)) rfl ?_
  refine W.fin ?_
  refine E.next ?_
  refine C.yes rfl ?_
  refine C.skip ?_
  refine E.next ?_
  refine C.block ?_
  refine C.seq ?_
  refine C.reg ?_
  refine W.y (y_move rfl) rfl ?_
  refine W.y (y_move rfl) rfl ?_
  refine W.y (y_cutlh (i := 0) rfl rfl rfl Tryd.underlying22 siz5 (by omega) (by omega)) rfl ?_
  rw [cut_addr (j := off) (by omega) (by omega)]
  refine W.y (y_assign rfl) rfl ?_
  refine W.fin ?_
  refine E.next ?_
  refine C.seq ?_
  refine C.reg ?_
  refine W.y (y_move rfl) rfl ?_
  refine W.y (y_move rfl) rfl ?_
  refine W.call ent66 rfl (stripG_ret hbi hhi (by omega) (by omega) (by omega) (by omega) (by omega)) rfl ?_
  rintro _ w2 ⟨rfl, ⟨d2, hb2, hz2, ho2, hh2⟩, hk2⟩
  have hko : Kp (fun k => k = gg ∨ k = gr ∨ k = gp) w w2 := hki.trans' hk2 (fun _ _ e => .inr (.inr e))
  have hg2 := hgi.kept hk2 (by omega) (by omega)
  have hO2 : Outs ds d2 off m := hoi.trans (ho2.wide (by omega) (by omega))
  refine W.y (y_assign rfl) rfl ?_
  refine W.fin ?_
  refine E.next ?_
  refine C.seq ?_
  refine C.seq ?_
  by_cases hs0 : 0 < (strip b).length
  · skip
    refine C.reg ?_
    refine W.y (y_move rfl) rfl ?_
    refine W.y (y_nenil rfl eqNil47) rfl ?_
    refine W.y (y_move rfl) rfl ?_
    refine W.gy rfl rfl (y_move rfl) rfl ?_
    refine W.gy rfl rfl (y_gtrT rfl rfl (by omega)) rfl ?_
    refine W.y (y_pick rfl rfl) rfl ?_
    refine W.fin ?_
    refine E.next ?_
    refine C.yes rfl ?_
    refine C.seq ?_
    refine C.reg ?_
    refine W.y (y_move rfl) rfl ?_
    refine W.y (y_move rfl) rfl ?_
    refine W.y (y_assign rfl) rfl ?_
    refine W.y (y_assign rfl) rfl ?_
    refine W.fin ?_
    refine E.next ?_
    refine C.ret ?_
    refine E.thenRet ?_
    refine E.blockRet ?_
    refine E.thenRet ?_
    refine E.blockRet ?_
    refine E.thenRet ?_
    exact E.ret2 rfl rfl rfl ⟨hko, .inr ⟨(strip b).length, by omega, by omega, by rw [← hsi, List.length_append]; omega, rfl, ⟨d2, hb2, hz2.trans hzi, hO2, by rw [← hsi, List.take_left]; exact hh2⟩, hrest w2 hko hg2⟩⟩
  have hsb0 : strip b = [] := List.eq_nil_of_length_eq_zero (by omega)
  have hTR2 : strip T' = R := by rw [← hsi, hsb0]; rfl
  have hEq : w2.cell? ⟨0, 0, none⟩ = some (.iface 116 (.pointer (some ae))) := by rw [← hEof]; exact World.cell?_of_block (hko.block 0 (World.block_lt_of_cell? w _ hEof) (by omega))
  refine C.reg ?_
  refine W.y (y_move rfl) rfl ?_
  refine W.y (y_nenil rfl eqNil47) rfl ?_
  refine W.y (y_move rfl) rfl ?_
  refine W.gy rfl rfl (y_move rfl) rfl ?_
  refine W.gy rfl rfl (y_gtrF rfl rfl (by omega)) rfl ?_
  refine W.y (y_pick rfl rfl) rfl ?_
  refine W.fin ?_
  refine E.next ?_
  refine C.no rfl ?_
  refine C.skip ?_
  refine E.next ?_
  refine C.reg ?_
  refine W.y (y_move rfl) rfl ?_
  refine W.y (y_nilp rfl) rfl ?_
  refine W.y (y_field rfl fld72_0) rfl ?_
  refine W.y (y_load rfl pl51 (Bk.at_ (i := 0) (hbf.kept hko (by omega)) rfl)) rfl ?_
  refine W.y (y_move rfl) rfl ?_
  refine W.inv ent57 methGive rfl rfl (giver_ret hg2 hEq hb2 h1 h2 h3 h0 hm (by omega) hfd) rfl ?_
  rintro x1 w3 ⟨hk3, hres⟩
  have hk03 := hko.trans hk3
  obtain ⟨n1, b1, T1, d1, e1, hv1, rfl, hb1, hz1, ho1, hg1, hs1, hl1, hn1, hh1, hT1, hmu⟩ : ∃ (n1 : Nat) (b1 T1 : List UInt8) (d1 : Array Value) (e1 : Value), (e1 = bif n1 == 0 then ((.iface 116 (.pointer (some ae))) : Value) else Value.nilIface) ∧ x1 = Value.tuple #[.int .i64 ((n1 : Nat) : Int), e1] ∧ Bk w3 gp d1 td fd ∧ d1.size = ds.size ∧ Outs ds d1 off m ∧ Gv w3 gg gr 57 9 T1 ∧ strip (b1 ++ T1) = R ∧ b1.length = n1 ∧ n1 ≤ m ∧ Hd d1 off b1 ∧ (n1 = 0 → T1 = []) ∧ b1.length + T1.length ≤ T'.length := by
    rcases hres with ⟨e, rfl, hb, hg⟩ | ⟨k, hk1', hk2', hk3', rfl, hb, hg⟩
    · subst e
      exact ⟨0, [], [], d2, _, rfl, rfl, hb, hz2.trans hzi, hO2, hg, hTR2, rfl, by omega, Hd.nil _ _, (fun _ => rfl), Nat.le_refl _⟩
    · have hlk : (T'.take k).length = k := by rw [List.length_take]; omega
      exact ⟨k, T'.take k, T'.drop k, _, _, (by cases k with | zero => omega | succ k => rfl), rfl, hb, by rw [splice_size]; exact hz2.trans hzi, hO2.splice (by omega) (by rw [bv_length]; omega) (by rw [bv_length]; omega), hg, by rw [List.take_append_drop]; exact hTR2, hlk, hk2', Hd.of_splice (by omega), (fun e => by omega), by rw [List.length_drop]; omega⟩
  subst hv1
  refine W.y (y_move rfl) rfl ?_
  refine W.y (y_ext rfl rfl) rfl ?_
  refine W.y (y_ext rfl rfl) rfl ?_
  refine W.y (y_assign rfl) rfl ?_
  refine W.y (y_assign rfl) rfl ?_
  refine W.fin ?_
  refine E.blockNormal ?_
  exact E.again (n1, b1, T1, d1) ⟨hk03, hb1, hz1, ho1, hg1, hs1, hl1, hn1, hh1, hT1⟩ (Sub.cons rfl (Sub.cons rfl (Sub.cons rfl (Sub.cons rfl (Sub.nil _))))) (by show b1.length + T1.length < b.length + T'.length; omega)
end Go.Proofs.YtlcbcedhbahbbaaDoor
