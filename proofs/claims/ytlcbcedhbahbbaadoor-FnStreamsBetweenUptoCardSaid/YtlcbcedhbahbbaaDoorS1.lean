/-
  Walks: giver.Read, stripNewlines.
-/
import Derived.Test.YtlcbcedhbahbbaaDoorM32
import Derived.Test.YtlcbcedhbahbbaaDoorSto
import Derived.Test.YtlcbcedhbahbbaaDoorD64
import Derived.Test.YtlcbcedhbahbbaaDoorM64
namespace Go.Proofs.YtlcbcedhbahbbaaDoor
open Go.RowKit
theorem siz9 : Siz Tryd.prog 9 1 := siz_of (by kernel_rfl)
theorem siz28 : Siz Tryd.prog 28 1 := siz_of (by kernel_rfl)
theorem pl9 : Plain Tryd.prog 9 := plain_of Tryd.underlying9 rfl
theorem pl28 : Plain Tryd.prog 28 := plain_of Tryd.underlying28 rfl
theorem fld57_0 : Fld Tryd.prog 57 0 0 := fld_of (k := 0) Tryd.underlying57 (by kernel_rfl)
theorem ifpE : Ifp Tryd.prog 47 116 := ⟨⟨_, Tryd.underlying47⟩, fun a w => run_eql_iface_ptr_same (i := (Tryd.prog.info? 116).get (by kernel_rfl)) (j := (Tryd.prog.info? 154).get (by kernel_rfl)) w a Tryd.underlying47 Tryd.underlying116 (Option.some_get _).symm (by kernel_rfl) (Option.some_get _).symm⟩

set_option maxRecDepth 4000 in
theorem giver_ret {w : World} {gg gr gp off m c : Nat} {T : List UInt8} {ds : Array Value} {td : TypeId} {fd : Nat × Nat} {ae : Addr} (hG : Gv w gg gr 57 9 T) (hEof : w.cell? ⟨0, 0, none⟩ = some (.iface 116 (.pointer (some ae)))) (hD : Bk w gp ds td fd)
    (h1 : gg ≠ gr) (h2 : gp ≠ gg) (h3 : gp ≠ gr) (h0 : gg ≠ 0 ∧ gr ≠ 0 ∧ gp ≠ 0) (hm : 1 ≤ m) (ho : off + m ≤ ds.size) (hfd : off + m ≤ fd.1 ∨ fd.2 ≤ off) :
    Ret Tryd.prog 57 #[.pointer (some ⟨gg, 0, none⟩), .slice (some ⟨gp, off, none⟩) m c] w fun v w' => Kp (fun k => k = gg ∨ k = gr ∨ k = gp) w w' ∧ ((T = [] ∧ v = .tuple #[.int .i64 0, (.iface 116 (.pointer (some ae)))] ∧ Bk w' gp ds td fd ∧ Gv w' gg gr 57 9 []) ∨
      ∃ k : Nat, 1 ≤ k ∧ k ≤ m ∧ k ≤ T.length ∧ v = .tuple #[.int .i64 (k : Int), .nilIface] ∧ Bk w' gp (splice ds off (bv (T.take k))) td fd ∧ Gv w' gg gr 57 9 (T.drop k)) := by
  obtain ⟨A0, n0, c0, o0, rows, ts0, hg0, hr0, rfl, hnc, hors, hA0, hts0, hT0, hTl, hn12⟩ := hG
  have hz : ([] : List (List UInt8)).length = 0 := rfl
  refine ret_of Tryd.func57 rfl Tryd.ntmps57 (Nat.le_of_ble_eq_true rfl) ?_
  refine C.seq ?_
  refine C.reg ?_
  refine W.y (y_assign rfl) rfl ?_
  refine W.y (y_assign rfl) rfl ?_
  refine W.fin ?_
  refine E.next ?_
  refine C.seq ?_
  refine C.block ?_
  refine C.loop (σ := Option Addr × Nat × Nat × List (List UInt8)) (fun (A, cc, o, ts) w' => Bk w' gg #[.slice A ts.length cc] 57 (0, 0) ∧ Bk w' gr rows 9 (0, 0) ∧ ts.length ≤ cc ∧ o + ts.length ≤ rows.size ∧ (0 < ts.length → A = some ⟨gr, o, none⟩) ∧ (∀ (i : Nat) (s : List UInt8), ts[i]? = some s → rows[o + i]? = some (str s)) ∧ ts.flatten = T ∧ ts.length ≤ 1000000000000 ∧ Bk w' gp ds td fd ∧ Kp (fun k => k = gg ∨ k = gr ∨ k = gp) w w') (fun _ => [(0, .pointer (some ⟨gg, 0, none⟩)), (1, .slice (some ⟨gp, off, none⟩) m c)]) (fun (_, _, _, ts) => ts.length) (A0, c0, o0, ts0) ?_ ?_ ?_
  · exact ⟨hg0, hr0, hnc, hors, hA0, hts0, hT0, hn12, hD, Kp.refl _ _⟩
  · exact (Sub.cons rfl (Sub.cons rfl (Sub.nil _)))
  rintro ⟨A, cc, o, ts⟩ wi ⟨hgi, hri, hcc, hoi, hAi, hti, hTi, hni, hDi, hki⟩
  show C _ _ _ _ [(0, .pointer (some ⟨gg, 0, none⟩)), (1, .slice (some ⟨gp, off, none⟩) m c)] _
  rcases ts with _ | ⟨s, rest⟩
  · have hEi : wi.cell? ⟨0, 0, none⟩ = some (.iface 116 (.pointer (some ae))) := by rw [← hEof]; exact World.cell?_of_block (hki.block 0 (World.block_lt_of_cell? w _ hEof) (by omega))
    have hTn : T = [] := hTi.symm
    refine C.seq ?_
    refine C.seq ?_
    refine C.reg ?_
    refine W.y (y_move rfl) rfl ?_
    refine W.y (y_nilp rfl) rfl ?_
    refine W.y (y_field rfl fld57_0) rfl ?_
    refine W.y (y_load rfl pl28 (Bk.at_ (i := 0) hgi rfl)) rfl ?_
    refine W.y (y_len rfl Tryd.underlying28) rfl ?_
    refine W.y (y_gtrF rfl rfl (by omega)) rfl ?_
    refine W.y (y_move rfl) rfl ?_
    refine W.gn rfl rfl rfl ?_
    refine W.gn rfl rfl rfl ?_
    refine W.gn rfl rfl rfl ?_
    refine W.gn rfl rfl rfl ?_
    refine W.gn rfl rfl rfl ?_
    refine W.gn rfl rfl rfl ?_
    refine W.gn rfl rfl rfl ?_
    refine W.y (y_pick rfl rfl) rfl ?_
    refine W.fin ?_
    refine E.next ?_
    refine C.no rfl ?_
    refine C.exit ?_
    refine E.thenExit ?_
    refine E.thenExit ?_
    refine E.blockOut ?_
    refine E.next ?_
    refine C.seq ?_
    refine C.seq ?_
    refine C.reg ?_
    refine W.y (y_move rfl) rfl ?_
    refine W.y (y_nilp rfl) rfl ?_
    refine W.y (y_field rfl fld57_0) rfl ?_
    refine W.y (y_load rfl pl28 (Bk.at_ (i := 0) hgi rfl)) rfl ?_
    refine W.y (y_len rfl Tryd.underlying28) rfl ?_
    refine W.y (y_eqlT rfl rfl (by omega)) rfl ?_
    refine W.fin ?_
    refine E.next ?_
    refine C.yes rfl ?_
    refine C.seq ?_
    refine C.still mixed (by kernel_rfl) ?_
    refine S.y (y_load rfl pl47 hEi) rfl ?_
    refine S.y (y_assign rfl) rfl ?_
    refine S.y (y_assign rfl) rfl ?_
    refine S.end_ ?_
    refine E.next ?_
    refine C.ret ?_
    refine E.thenRet ?_
    exact E.ret2 rfl rfl rfl ⟨hki.drew, .inl ⟨hTn, rfl, hDi.drew, A, 0, cc, o, rows, [], hgi.drew, hri.drew, rfl, hcc, hoi, hAi, hti, rfl, by simp, by omega⟩⟩
  obtain rfl := hAi (by simp)
  have hl1 : (s :: rest).length = rest.length + 1 := rfl
  have hs0 := hti 0 s rfl
  have hcell : wi.cell? ⟨gr, o + 0, none⟩ = some (str s) := hri.at_ hs0
  by_cases hs : s = []
  · subst hs
    refine C.seq ?_
    refine C.seq ?_
    refine C.reg ?_
    refine W.y (y_move rfl) rfl ?_
    refine W.y (y_nilp rfl) rfl ?_
    refine W.y (y_field rfl fld57_0) rfl ?_
    refine W.y (y_load rfl pl28 (Bk.at_ (i := 0) hgi rfl)) rfl ?_
    refine W.y (y_len rfl Tryd.underlying28) rfl ?_
    refine W.y (y_gtrT rfl rfl (by omega)) rfl ?_
    refine W.y (y_move rfl) rfl ?_
    refine W.gy rfl rfl (y_move rfl) rfl ?_
    refine W.gy rfl rfl (y_nilp rfl) rfl ?_
    refine W.gy rfl rfl (y_field rfl fld57_0) rfl ?_
    refine W.gy rfl rfl (y_load rfl pl28 (Bk.at_ (i := 0) hgi rfl)) rfl ?_
    refine W.gy rfl rfl (y_ixn (i := 0) rfl rfl Tryd.underlying28 siz9 (by omega)) rfl ?_
    refine W.gy rfl rfl (y_load rfl pl9 hcell) rfl ?_
    refine W.gy rfl rfl (y_eqsT rfl rfl rfl) rfl ?_
    refine W.y (y_pick rfl rfl) rfl ?_
    refine W.fin ?_
    refine E.next ?_
    refine C.yes rfl ?_
    refine C.skip ?_
    refine E.next ?_
    refine C.block ?_
    refine C.reg ?_
    refine W.y (y_move rfl) rfl ?_
    refine W.y (y_move rfl) rfl ?_
    refine W.y (y_nilp rfl) rfl ?_
    refine W.y (y_field rfl fld57_0) rfl ?_
    refine W.y (y_load rfl pl28 (Bk.at_ (i := 0) hgi rfl)) rfl ?_
    refine W.y (y_cutl (i := 1) rfl rfl Tryd.underlying28 siz9 (by omega)) rfl ?_
    refine W.y (y_nilp rfl) rfl ?_
    refine W.y (y_field rfl fld57_0) rfl ?_
    refine W.s (s_store rfl rfl rfl siz28 (Bk.at_ (i := 0) hgi rfl) (Bk.melt hgi)) ?_
    refine W.fin ?_
    refine E.blockNormal ?_
    have hg2 := Bk.set hgi (0 + 0) (.slice (if cc = 1 then some ⟨gr, o, none⟩ else (some ⟨gr, o, none⟩ : Option Addr).map (·.add 1)) rest.length (cc - 1))
    exact E.again ((if cc = 1 then some ⟨gr, o, none⟩ else (some ⟨gr, o, none⟩ : Option Addr).map (·.add 1)), cc - 1, o + 1, rest) ⟨by simpa using hg2, hri.ne (by simp only; omega) _, by omega, by omega, fun h => cut_addr rfl (by omega), fun i s hi => by rw [show o + 1 + i = o + (i + 1) by omega]; exact hti (i + 1) s hi, by rw [← hTi]; rfl, by omega, hDi.ne (by simp only; omega) _, hki.set (.inl (.inl rfl)) _⟩ (Sub.cons rfl (Sub.cons rfl (Sub.nil _))) (by show rest.length < rest.length + 1; omega)
  obtain ⟨k, hk⟩ : ∃ k, Nat.min s.length m = k := ⟨_, rfl⟩
  have hsp : 0 < s.length := List.length_pos_iff.2 hs
  have hkb : 1 ≤ k ∧ k ≤ m ∧ k ≤ s.length := by
    have e : k = min s.length m := hk.symm
    omega
  have hTs : T = s ++ rest.flatten := by rw [← hTi]; rfl
  have hsl : (s.take k).length = k := by rw [List.length_take]; omega
  have hkp1 : Kp (· = gp) wi (setCells wi gp off (bv (s.take k))) := setCells_kp (S := (· = gp)) (.inl rfl) (Kp.refl _ wi)
  have hg1 := hgi.kept hkp1 (by omega)
  have hr1 := hri.kept hkp1 (by omega)
  have hD1 : Bk (setCells wi gp off (bv (s.take k))) gp (splice ds off (bv (s.take k))) td fd := setCells_bk hDi
  have hr2 := Bk.set hr1.drew (o + 0) (str (s.drop k))
  refine C.seq ?_
  refine C.seq ?_
  refine C.reg ?_
  refine W.y (y_move rfl) rfl ?_
  refine W.y (y_nilp rfl) rfl ?_
  refine W.y (y_field rfl fld57_0) rfl ?_
  refine W.y (y_load rfl pl28 (Bk.at_ (i := 0) hgi rfl)) rfl ?_
  refine W.y (y_len rfl Tryd.underlying28) rfl ?_
  refine W.y (y_gtrT rfl rfl (by omega)) rfl ?_
  refine W.y (y_move rfl) rfl ?_
  refine W.gy rfl rfl (y_move rfl) rfl ?_
  refine W.gy rfl rfl (y_nilp rfl) rfl ?_
  refine W.gy rfl rfl (y_field rfl fld57_0) rfl ?_
  refine W.gy rfl rfl (y_load rfl pl28 (Bk.at_ (i := 0) hgi rfl)) rfl ?_
  refine W.gy rfl rfl (y_ixn (i := 0) rfl rfl Tryd.underlying28 siz9 (by omega)) rfl ?_
  refine W.gy rfl rfl (y_load rfl pl9 hcell) rfl ?_
  refine W.gy rfl rfl (y_eqsF rfl rfl hs) rfl ?_
  refine W.y (y_pick rfl rfl) rfl ?_
  refine W.fin ?_
  refine E.next ?_
  refine C.no rfl ?_
  refine C.exit ?_
  refine E.thenExit ?_
  refine E.thenExit ?_
  refine E.blockOut ?_
  refine E.next ?_
  refine C.seq ?_
  refine C.seq ?_
  refine C.reg ?_
  refine W.y (y_move rfl) rfl ?_
  refine W.y (y_nilp rfl) rfl ?_
  refine W.y (y_field rfl fld57_0) rfl ?_
  refine W.y (y_load rfl pl28 (Bk.at_ (i := 0) hgi rfl)) rfl ?_
  refine W.y (y_len rfl Tryd.underlying28) rfl ?_
  refine W.y (y_eqlF rfl rfl (by omega)) rfl ?_
  refine W.fin ?_
  refine E.next ?_
  refine C.no rfl ?_
  refine C.skip ?_
  refine E.next ?_
  refine C.seq ?_
  refine C.reg ?_
  refine W.y (y_move rfl) rfl ?_
  refine W.y (y_move rfl) rfl ?_
  refine W.y (y_nilp rfl) rfl ?_
  refine W.y (y_field rfl fld57_0) rfl ?_
  refine W.y (y_load rfl pl28 (Bk.at_ (i := 0) hgi rfl)) rfl ?_
  refine W.y (y_ixn (i := 0) rfl rfl Tryd.underlying28 siz9 (by omega)) rfl ?_
  refine W.y (y_load rfl pl9 hcell) rfl ?_
  refine W.y (y_copy rfl rfl (run_copySm Tryd.underlying22 siz5 hDi hk (by omega) (by omega))) rfl ?_
  refine W.y (y_assign rfl) rfl ?_
  refine W.fin ?_
  refine E.next ?_
  refine C.seq ?_
  refine C.stillTail 13 mixed (by kernel_rfl) ?_
  refine S.y (y_move rfl) rfl ?_
  refine S.y (y_nilp rfl) rfl ?_
  refine S.y (y_field rfl fld57_0) rfl ?_
  refine S.y (y_load rfl pl28 (Bk.at_ (i := 0) hg1.drew rfl)) rfl ?_
  refine S.y (y_move rfl) rfl ?_
  refine S.y (y_nilp rfl) rfl ?_
  refine S.y (y_field rfl fld57_0) rfl ?_
  refine S.y (y_load rfl pl28 (Bk.at_ (i := 0) hg1.drew rfl)) rfl ?_
  refine S.y (y_ixn (i := 0) rfl rfl Tryd.underlying28 siz9 (by omega)) rfl ?_
  refine S.y (y_load rfl pl9 (hr1.drew.at_ hs0)) rfl ?_
  refine S.y (y_move rfl) rfl ?_
  refine S.y (y_scutl' rfl rfl Tryd.underlying9 (by omega)) rfl ?_
  refine S.y (y_ixn (i := 0) rfl rfl Tryd.underlying28 siz9 (by omega)) rfl ?_
  refine S.tail ?_
  refine W.s (s_store rfl rfl rfl siz9 (hr1.drew.at_ hs0) (Bk.melt hr1.drew)) ?_
  refine W.fin ?_
  refine E.next ?_
  refine C.seq ?_
  refine C.reg ?_
  refine W.y (y_move rfl) rfl ?_
  refine W.y (y_assign rfl) rfl ?_
  refine W.y (y_assign rfl) rfl ?_
  refine W.fin ?_
  refine E.next ?_
  refine C.ret ?_
  have htk : T.take k = s.take k := by rw [hTs, List.take_append_of_le_length hkb.2.2]
  have hdk : T.drop k = s.drop k ++ rest.flatten := by rw [hTs, List.drop_append_of_le_length hkb.2.2]
  have hTk : k ≤ T.length := by rw [hTs, List.length_append]; omega
  have hkf : Kp (fun k => k = gg ∨ k = gr ∨ k = gp) w ((setCells wi gp off (bv (s.take k))).drew.setCell ⟨gr, o + 0, none⟩ (str (s.drop k))) := ((hki.trans' hkp1 (fun _ _ e => .inr (.inr e))).drew).set (.inl (.inr (.inl rfl))) _
  have hGf : Gv ((setCells wi gp off (bv (s.take k))).drew.setCell ⟨gr, o + 0, none⟩ (str (s.drop k))) gg gr 57 9 (T.drop k) := ⟨some ⟨gr, o, none⟩, rest.length + 1, cc, o, _, s.drop k :: rest, hg1.drew.ne (by simp only; omega) _, hr2, rfl, by omega, by rw [Array.size_setIfInBounds]; omega, fun _ => rfl, fun i x hi => by
    match i, hi with
    | 0, hi =>
      injection hi with hi
      rw [Array.getElem?_setIfInBounds, if_pos rfl, if_pos (by omega), hi]
    | i + 1, hi =>
      rw [Array.getElem?_setIfInBounds, if_neg (by omega)]
      exact hti (i + 1) x hi, by rw [hdk]; rfl, by rw [List.length_drop]; omega, by omega⟩
  exact E.ret2 rfl rfl rfl ⟨hkf, .inr ⟨k, hkb.1, hkb.2.1, hTk, rfl, by rw [htk]; exact hD1.drew.ne (by simp only; omega) _, hGf⟩⟩
set_option maxRecDepth 4000 in
theorem stripG_ret {w : World} {g o m n c c2 : Nat} {ds : Array Value} {t : TypeId} {fz : Nat × Nat} {s : List UInt8} (hb : Bk w g ds t fz) (hs : Hd ds o s) (hn : s.length = n) (hm : n ≤ m) (hsz : o + n ≤ ds.size) (hf : o + n ≤ fz.1 ∨ fz.2 ≤ o) (hN : n ≤ 1000000000000) :
    Ret Tryd.prog 66 #[.slice (some ⟨g, o, none⟩) m c, .slice (some ⟨g, o, none⟩) n c2] w fun v w' => v = .int .i64 ((strip s).length : Int) ∧ (∃ ds', Bk w' g ds' t fz ∧ ds'.size = ds.size ∧ Outs ds ds' o n ∧ Hd ds' o (strip s)) ∧ Kp (· = g) w w' := by
  subst hn
  refine ret_of Tryd.func66 rfl Tryd.ntmps66 (Nat.le_of_ble_eq_true rfl) ?_
  refine C.seq ?_
  refine C.reg ?_
  refine W.y (y_assign rfl) rfl ?_
  refine W.fin ?_
  refine E.next ?_
  refine C.seq ?_
  refine C.reg ?_
  refine W.y (y_assign rfl) rfl ?_
  refine W.fin ?_
  refine E.next ?_
  refine C.seq ?_
  refine C.seq ?_
  refine C.reg ?_
  refine W.y (y_move rfl) rfl ?_
  refine W.y (y_len rfl Tryd.underlying22) rfl ?_
  refine W.y (y_move rfl) rfl ?_
  refine W.fin ?_
  refine E.next ?_
  refine C.block ?_
  refine C.loop (σ := Nat × Array Value) (fun (i, di) w' => i ≤ s.length ∧ Bk w' g di t fz ∧ di.size = ds.size ∧ Outs ds di o s.length ∧ Hd di o (strip (s.take i)) ∧ (∀ (j : Nat) (x : UInt8), i ≤ j → s[j]? = some x → di[o + j]? = some (u8 x)) ∧ Kp (· = g) w w') (fun (i, _) => [(0, .slice (some ⟨g, o, none⟩) m c), (5, .int .i64 ((strip (s.take i)).length : Int)), (8, .slice (some ⟨g, o, none⟩) s.length c2), (9, .int .i64 (s.length : Int)), (10, .int .i64 (i : Int))]) (fun (i, _) => s.length - i) (0, ds) ?_ ?_ ?_
  · exact ⟨by omega, hb, rfl, Outs.refl _ _ _, Hd.nil _ _, fun j x _ hx => hs j x hx, Kp.refl _ _⟩
  · exact (Sub.cons rfl (Sub.cons rfl (Sub.cons rfl (Sub.cons rfl (Sub.cons rfl (Sub.nil _))))))
  rintro ⟨i, di⟩ wi ⟨hi, hbi, hzi, hoi, hhi, hri, hki⟩
  show C _ _ _ _ [(0, .slice (some ⟨g, o, none⟩) m c), (5, .int .i64 ((strip (s.take i)).length : Int)), (8, .slice (some ⟨g, o, none⟩) s.length c2), (9, .int .i64 (s.length : Int)), (10, .int .i64 (i : Int))] _
  have hle := strip_take_le s i
  by_cases h : i < s.length
  · obtain ⟨x, hx⟩ : ∃ x, s[i]? = some x := ⟨_, List.getElem?_eq_getElem h⟩
    have hcx := hri i x (Nat.le_refl _) hx
    have hst := strip_snoc hx
    have hx8 := x.toNat_lt
    by_cases h13 : x.toNat = 13
    · rw [show nonl x = false by simp [nonl, h13], if_neg (by simp), List.append_nil] at hst
      refine C.seq ?_
      refine C.reg ?_
      refine W.y (y_lssT rfl rfl (by omega)) rfl ?_
      refine W.fin ?_
      refine E.next ?_
      refine C.seq ?_
      refine C.yes rfl ?_
      refine C.skip ?_
      refine E.next ?_
      refine C.seq ?_
      refine C.block ?_
      refine C.seq ?_
      refine C.reg ?_
      refine W.y (y_ixn rfl rfl Tryd.underlying22 siz5 (by omega)) rfl ?_
      refine W.y (y_load rfl pl5 (Bk.at_ hbi hcx)) rfl ?_
      refine W.y (y_assign rfl) rfl ?_
      refine W.fin ?_
      refine E.next ?_
      refine C.seq ?_
      refine C.seq ?_
      refine C.reg ?_
      refine W.y (y_move rfl) rfl ?_
      refine W.y (y_eqlT rfl rfl (by omega)) rfl ?_
      refine W.y (y_move rfl) rfl ?_
      refine W.gn rfl rfl rfl ?_
      refine W.gn rfl rfl rfl ?_
      refine W.y (y_pick rfl rfl) rfl ?_
      refine W.fin ?_
      refine E.next ?_
      refine C.yes rfl ?_
      refine C.exit ?_
      refine E.thenExit ?_
      refine E.blockOut ?_
      refine E.next ?_
      refine C.reg ?_
      refine W.y (y_add rfl rfl (wi64 (by omega) (by omega))) rfl ?_
      refine W.y (y_move rfl) rfl ?_
      refine W.fin ?_
      exact E.again (i + 1, di) ⟨by omega, hbi, hzi, hoi, by rw [hst]; exact hhi, fun j y hj hy => hri j y (by omega) hy, hki⟩ (Sub.cons rfl (Sub.cons (congrArg (fun y : List UInt8 => some (Value.int .i64 (y.length : Int))) hst.symm) (Sub.cons rfl (Sub.cons rfl (Sub.cons rfl (Sub.nil _)))))) (by show s.length - (i + 1) < s.length - i; omega)
    by_cases h10 : x.toNat = 10
    · rw [show nonl x = false by simp [nonl, h10], if_neg (by simp), List.append_nil] at hst
      refine C.seq ?_
      refine C.reg ?_
      refine W.y (y_lssT rfl rfl (by omega)) rfl ?_
      refine W.fin ?_
      refine E.next ?_
      refine C.seq ?_
      refine C.yes rfl ?_
      refine C.skip ?_
      refine E.next ?_
      refine C.seq ?_
      refine C.block ?_
      refine C.seq ?_
      refine C.reg ?_
      refine W.y (y_ixn rfl rfl Tryd.underlying22 siz5 (by omega)) rfl ?_
      refine W.y (y_load rfl pl5 (Bk.at_ hbi hcx)) rfl ?_
      refine W.y (y_assign rfl) rfl ?_
      refine W.fin ?_
      refine E.next ?_
      refine C.seq ?_
      refine C.seq ?_
      refine C.reg ?_
      refine W.y (y_move rfl) rfl ?_
      refine W.y (y_eqlF rfl rfl (by omega)) rfl ?_
      refine W.y (y_move rfl) rfl ?_
      refine W.gy rfl rfl (y_move rfl) rfl ?_
      refine W.gy rfl rfl (y_eqlT rfl rfl (by omega)) rfl ?_
      refine W.y (y_pick rfl rfl) rfl ?_
      refine W.fin ?_
      refine E.next ?_
      refine C.yes rfl ?_
      refine C.exit ?_
      refine E.thenExit ?_
      refine E.blockOut ?_
      refine E.next ?_
      refine C.reg ?_
      refine W.y (y_add rfl rfl (wi64 (by omega) (by omega))) rfl ?_
      refine W.y (y_move rfl) rfl ?_
      refine W.fin ?_
      exact E.again (i + 1, di) ⟨by omega, hbi, hzi, hoi, by rw [hst]; exact hhi, fun j y hj hy => hri j y (by omega) hy, hki⟩ (Sub.cons rfl (Sub.cons (congrArg (fun y : List UInt8 => some (Value.int .i64 (y.length : Int))) hst.symm) (Sub.cons rfl (Sub.cons rfl (Sub.cons rfl (Sub.nil _)))))) (by show s.length - (i + 1) < s.length - i; omega)
    rw [show nonl x = true by simp [nonl, h13, h10], if_pos rfl] at hst
    have hsl : (strip (s.take (i + 1))).length = (strip (s.take i)).length + 1 := by rw [hst, List.length_append]; rfl
    refine C.seq ?_
    refine C.reg ?_
    refine W.y (y_lssT rfl rfl (by omega)) rfl ?_
    refine W.fin ?_
    refine E.next ?_
    refine C.seq ?_
    refine C.yes rfl ?_
    refine C.skip ?_
    refine E.next ?_
    refine C.seq ?_
    refine C.block ?_
    refine C.seq ?_
    refine C.reg ?_
    refine W.y (y_ixn rfl rfl Tryd.underlying22 siz5 (by omega)) rfl ?_
    refine W.y (y_load rfl pl5 (Bk.at_ hbi hcx)) rfl ?_
    refine W.y (y_assign rfl) rfl ?_
    refine W.fin ?_
    refine E.next ?_
    refine C.seq ?_
    refine C.seq ?_
    refine C.reg ?_
    refine W.y (y_move rfl) rfl ?_
    refine W.y (y_eqlF rfl rfl (by omega)) rfl ?_
    refine W.y (y_move rfl) rfl ?_
    refine W.gy rfl rfl (y_move rfl) rfl ?_
    refine W.gy rfl rfl (y_eqlF rfl rfl (by omega)) rfl ?_
    refine W.y (y_pick rfl rfl) rfl ?_
    refine W.fin ?_
    refine E.next ?_
    refine C.no rfl ?_
    refine C.skip ?_
    refine E.next ?_
    refine C.seq ?_
    refine C.reg ?_
    refine W.y (y_move rfl) rfl ?_
    refine W.y (y_move rfl) rfl ?_
    refine W.y (y_move rfl) rfl ?_
    refine W.y (y_ixn rfl rfl Tryd.underlying22 siz5 (by omega)) rfl ?_
    refine W.s (s_store rfl rfl rfl siz5 (Bk.some hbi (by omega)) (Bk.frozen hbi (by omega))) ?_
    refine W.fin ?_
    refine E.next ?_
    refine C.reg ?_
    refine W.y (y_move rfl) rfl ?_
    refine W.y (Does.as (y_add rfl rfl (wi64 (by omega) (by omega))) (vint (b := (((strip (s.take (i + 1))).length : Nat) : Int)) (by omega))) rfl ?_
    refine W.y (y_assign rfl) rfl ?_
    refine W.fin ?_
    refine E.blockNormal ?_
    refine E.next ?_
    refine C.reg ?_
    refine W.y (y_add rfl rfl (wi64 (by omega) (by omega))) rfl ?_
    refine W.y (y_move rfl) rfl ?_
    refine W.fin ?_
    exact E.again (i + 1, _) ⟨by omega, Bk.set hbi (o + (strip (s.take i)).length) (u8 x), by rw [Array.size_setIfInBounds]; exact hzi, hoi.set (by omega) (by omega), by
      rw [hst]
      intro j y hy
      rw [Array.getElem?_setIfInBounds]
      by_cases hj : j < (strip (s.take i)).length
      · rw [if_neg (by omega)]
        rw [List.getElem?_append_left hj] at hy
        exact hhi j y hy
      · have hjl := get_lt hy
        rw [List.length_append, List.length_singleton] at hjl
        have e : j = (strip (s.take i)).length := by omega
        subst e
        rw [List.getElem?_append_right (Nat.le_refl _), Nat.sub_self] at hy
        injection hy with hy
        rw [if_pos rfl, if_pos (by omega), hy], fun j y hj hy => by
      rw [Array.getElem?_setIfInBounds, if_neg (by omega)]
      exact hri j y (by omega) hy, hki.set (.inl rfl) _⟩ (Sub.cons rfl (Sub.cons rfl (Sub.cons rfl (Sub.cons rfl (Sub.cons rfl (Sub.nil _)))))) (by show s.length - (i + 1) < s.length - i; omega)
  obtain rfl : i = s.length := by omega
  rw [List.take_length] at hhi
  refine C.seq ?_
  refine C.reg ?_
  refine W.y (y_lssF rfl rfl (by omega)) rfl ?_
  refine W.fin ?_
  refine E.next ?_
  refine C.seq ?_
  refine C.no rfl ?_
  refine C.exit ?_
  refine E.thenExit ?_
  refine E.thenExit ?_
  refine E.blockOut ?_
  refine E.next ?_
  refine C.seq ?_
  refine C.reg ?_
  refine W.y (y_move rfl) rfl ?_
  refine W.y (y_assign rfl) rfl ?_
  refine W.fin ?_
  refine E.next ?_
  refine C.ret ?_
  exact E.ret1 rfl rfl ⟨by rw [List.take_length], ⟨di, hbi, hzi, hoi, hhi⟩, hki⟩
end Go.Proofs.YtlcbcedhbahbbaaDoor
