/-
  Walks: keeper.Write, encoder.Write.
-/
import Derived.Test.YtmbglgepomeilaaWA
import Derived.Test.YtmbglgepomeilaaStr
import Derived.Test.YtmbglgepomeilaaLG
namespace Go.Proofs.Ytmbglgepomeilaa
open Go.RowKit
theorem siz3 : Siz Try.prog 3 1 := siz_of (by kernel_rfl)
theorem siz51 : Siz Try.prog 51 1 := siz_of (by kernel_rfl)
theorem pl3 : Plain Try.prog 3 := plain_of Try.underlying3 rfl
theorem pl51 : Plain Try.prog 51 := plain_of Try.underlying51 rfl
theorem pl53 : Plain Try.prog 53 := plain_of Try.underlying53 rfl
theorem pl75 : Plain Try.prog 75 := plain_of Try.underlying75 rfl
theorem fld61_0 : Fld Try.prog 61 0 0 := fld_of (k := 0) Try.underlying61 (by kernel_rfl)
theorem fld80_0 : Fld Try.prog 80 0 0 := fld_of (k := 0) Try.underlying80 (by kernel_rfl)
theorem fld80_1 : Fld Try.prog 80 1 1 := fld_of (k := 0) Try.underlying80 (by kernel_rfl)
theorem fld80_2 : Fld Try.prog 80 2 2 := fld_of (k := 0) Try.underlying80 (by kernel_rfl)
theorem fld80_3 : Fld Try.prog 80 3 3 := fld_of (k := 2) Try.underlying80 (by kernel_rfl)
theorem fld80_4 : Fld Try.prog 80 4 6 := fld_of (k := 0) Try.underlying80 (by kernel_rfl)
theorem fld80_5 : Fld Try.prog 80 5 7 := fld_of (k := 1023) Try.underlying80 (by kernel_rfl)
theorem ent69 : Enters Try.prog 69 := enters_of Try.func69 (by kernel_rfl) rfl
theorem eqNil51 : ∀ w, (Op.equal 51 .nilIface .nilIface).run Try.prog w = .ok true w := fun w => by kernel_rfl
theorem methKeep : Meth Try.prog 59 "Write" 69 := fun a w => by kernel_rfl

theorem keeperWrite_ret {w : World} {gk c n : Nat} {tk : TypeId} {A : Option Addr} {v : Value} {s p : List UInt8} (hk : Bk w gk #[v] tk (0, 0)) (ho : Own w 5 v (bv s)) (hne : v.ownBlock ≠ some gk) (hp : Rd w A (bv p)) (hn : p.length = n)
    (hb : s.length + p.length ≤ 70368744177664) :
    Ret Try.prog 69 #[.pointer (some ⟨gk, 0, none⟩), .slice A n c] w fun r w' => r = .tuple #[.int .i64 (n : Int), .nilIface] ∧ ∃ v', Bk w' gk #[v'] tk (0, 0) ∧ Own w' 5 v' (bv (s ++ p)) ∧
      (v'.ownBlock = v.ownBlock ∨ v'.ownBlock = some w.heap.size) ∧ Kp (fun k => k = gk ∨ v.ownBlock = some k) w w' := by
  subst hn
  obtain ⟨v1, w1, hr1, ho1, hg1, ha1⟩ := run_app (ty := 24) (c := c) el24 ho hp (one_u8 p) (by simp only [bv_length]; omega) (by omega)
  rw [bv_length] at hr1
  have hk1 : Bk w1 gk #[v] tk (0, 0) := (hg1.block gk hk.lt (fun e => hne e.symm)).trans hk
  have hK1 : Kp (fun k => k = gk ∨ v.ownBlock = some k) w w1 := (Kp.refl _ w).grown hg1 (fun _ e => .inl (.inr e))
  have hne1 : ∀ k, v1.ownBlock = some k → k ≠ gk := by
    intro k hk2 e
    have := hk.lt
    rcases ha1 with h | h
    · exact hne (by rw [← h, hk2, e])
    · rw [h] at hk2; injection hk2; omega
  refine ret_of Try.func69 rfl Try.ntmps69 (Nat.le_of_ble_eq_true rfl) ?_
  refine C.seq ?_
  refine C.reg ?_
  refine W.y (y_assign rfl) rfl ?_
  refine W.y (y_assign rfl) rfl ?_
  refine W.fin ?_
  refine E.next ?_
  refine C.seq ?_
  refine C.reg ?_
  refine W.y (y_move rfl) rfl ?_
  refine W.y (y_move rfl) rfl ?_
  refine W.y (y_nilp rfl) rfl ?_
  refine W.y (y_field rfl fld61_0) rfl ?_
  refine W.y (y_load rfl pl24 (Bk.at_ hk rfl)) rfl ?_
  refine W.y (y_move rfl) rfl ?_
  refine W.y (y_app rfl rfl hr1) rfl ?_
  refine W.y (y_nilp rfl) rfl ?_
  refine W.y (y_field rfl fld61_0) rfl ?_
  refine W.s (s_store rfl rfl ho1.one siz24 (Bk.at_ hk1 rfl) (Bk.melt hk1)) ?_
  refine W.fin ?_
  refine E.next ?_
  refine C.seq ?_
  refine C.reg ?_
  refine W.y (y_move rfl) rfl ?_
  refine W.y (y_len rfl Try.underlying24) rfl ?_
  refine W.y (y_assign rfl) rfl ?_
  refine W.y (y_assign rfl) rfl ?_
  refine W.fin ?_
  refine E.next ?_
  refine C.ret ?_
  exact E.ret2 rfl rfl rfl ⟨rfl, v1, Bk.set hk1 0 v1, by rw [bv_append]; exact ho1.kept ((Kp.refl (· = gk) w1).set (.inl rfl) _) hne1, ha1, hK1.set (.inl (.inl rfl)) _⟩
set_option maxRecDepth 4000 in
set_option maxHeartbeats 4000000 in
theorem encWrite64_ret {w : World} {B ge gc gk c n : Nat} {A : Option Addr} {cs : Array Value} {v : Value} {al : List UInt8} {pad : Int} {all p : List UInt8} (h : ES 3 6 64 80 85 61 59 5 w B ge gc gk cs v al pad all) (hf : Fit 64 al pad) (hp : Rd w A (bv p))
    (hA : ∀ a : Addr, A = some a → a.block ≠ ge ∧ a.block ≠ gk ∧ v.ownBlock ≠ some a.block) (hc : p.length ≤ c) (hn : p.length = n) (hN : all.length + p.length ≤ 1000000000000) :
    Ret Try.prog 71 #[.pointer (some ⟨ge, 0, none⟩), .slice A n c] w fun r w' => r = .tuple #[.int .i64 (n : Int), .nilIface] ∧ ∃ v', ES 3 6 64 80 85 61 59 5 w' B ge gc gk cs v' al pad (all ++ p) ∧ Kp (fun k => k = ge ∨ k = gk ∨ v.ownBlock = some k) w w' ∧ (v'.ownBlock = v.ownBlock ∨ ∃ k, v'.ownBlock = some k ∧ w.heap.size ≤ k) := by
  subst hn
  obtain ⟨es, hbe, hes⟩ := h.be
  obtain ⟨n1, n2, n3, n4, n5, n6⟩ := h.ne
  have hpl : (all.drop (all.length / 3 * 3)).length = all.length % 3 := by rw [List.length_drop]; omega
  have hes0 := hes.size
  refine ret_of Try.func71 rfl Try.ntmps71 (Nat.le_of_ble_eq_true rfl) ?_
  refine C.seq ?_
  refine C.reg ?_
  refine W.y (y_assign rfl) rfl ?_
  refine W.y (y_assign rfl) rfl ?_
  refine W.fin ?_
  refine E.next ?_
  refine C.seq ?_
  refine C.seq ?_
  refine C.reg ?_
  refine W.y (y_move rfl) rfl ?_
  refine W.y (y_nilp rfl) rfl ?_
  refine W.y (y_field rfl fld80_0) rfl ?_
  refine W.y (y_load rfl pl51 (Bk.at_ hbe hes.err)) rfl ?_
  refine W.y (y_nenil rfl eqNil51) rfl ?_
  refine W.fin ?_
  refine E.next ?_
  refine C.no rfl ?_
  refine C.skip ?_
  refine E.next ?_
  refine C.mid (σ := List UInt8 × List UInt8 × Option Addr × Nat × Value × Int) (fun (all1, p1, A1, c1, v1, n1) w' => all1 ++ p1 = all ++ p ∧ all1.length % 3 = 0 ∧ p1.length ≤ c1 ∧ (n1 : Int) + p1.length = p.length ∧ 0 ≤ (n1 : Int) ∧ Rd w A1 (bv p1) ∧ (∀ a : Addr, A1 = some a → a.block ≠ ge ∧ a.block ≠ gk ∧ v.ownBlock ≠ some a.block) ∧ ES 3 6 64 80 85 61 59 5 w' B ge gc gk cs v1 al pad all1 ∧ Kp (fun k => k = ge ∨ k = gk ∨ v.ownBlock = some k) w w' ∧ (v1.ownBlock = v.ownBlock ∨ ∃ k, v1.ownBlock = some k ∧ w.heap.size ≤ k)) (fun (all1, p1, A1, c1, v1, n1) => [(0, .pointer (some ⟨ge, 0, none⟩)), (1, .slice A1 p1.length c1), (4, .int .i64 n1), (5, .nilIface)]) ?_ ?_
  · by_cases hq : all.length % 3 = 0
    · skip
      refine C.seq ?_
      refine C.reg ?_
      refine W.y (y_move rfl) rfl ?_
      refine W.y (y_nilp rfl) rfl ?_
      refine W.y (y_field rfl fld80_4) rfl ?_
      refine W.y (y_load rfl pl3 (Bk.at_ hbe hes.nb)) rfl ?_
      refine W.y (y_gtrF rfl rfl (by omega)) rfl ?_
      refine W.fin ?_
      refine E.next ?_
      refine C.no rfl ?_
      refine C.skip ?_
      exact E.mid (all, p, A, c, v, 0) ⟨rfl, hq, hc, by omega, by omega, hp, hA, h, Kp.refl _ _, .inl rfl⟩ (Sub.cons rfl (Sub.cons rfl (Sub.cons rfl (Sub.cons rfl (Sub.nil _)))))
    · generalize hpd : all.drop (all.length / 3 * 3) = pend at *
      refine C.seq ?_
      refine C.reg ?_
      refine W.y (y_move rfl) rfl ?_
      refine W.y (y_nilp rfl) rfl ?_
      refine W.y (y_field rfl fld80_4) rfl ?_
      refine W.y (y_load rfl pl3 (Bk.at_ hbe hes.nb)) rfl ?_
      refine W.y (y_gtrT rfl rfl (by omega)) rfl ?_
      refine W.fin ?_
      refine E.next ?_
      refine C.yes rfl ?_
      refine C.seq ?_
      refine C.reg ?_
      refine W.y (y_assign rfl) rfl ?_
      refine W.fin ?_
      refine E.next ?_
      refine C.mid (σ := Nat) (fun i w' => i ≤ p.length ∧ pend.length + i ≤ 3 ∧ (i = p.length ∨ pend.length + i = 3) ∧ (∃ es, Bk w' ge es 80 (0, 0) ∧ Es 3 es gc gk 59 (pend ++ p.take i)) ∧ Kp (· = ge) w w') (fun i => [(0, .pointer (some ⟨ge, 0, none⟩)), (1, .slice A p.length c), (4, .int .i64 0), (5, .nilIface), (6, .int .i64 (i : Int))]) ?_ ?_
      · refine C.seq ?_
        refine C.reg ?_
        refine W.y (y_assign rfl) rfl ?_
        refine W.fin ?_
        refine E.next ?_
        refine C.block ?_
        refine C.loop (σ := Nat) (fun i w' => i ≤ p.length ∧ pend.length + i ≤ 3 ∧ (∃ es, Bk w' ge es 80 (0, 0) ∧ Es 3 es gc gk 59 (pend ++ p.take i)) ∧ Kp (· = ge) w w') (fun i => [(0, .pointer (some ⟨ge, 0, none⟩)), (1, .slice A p.length c), (4, .int .i64 0), (5, .nilIface), (6, .int .i64 (i : Int))]) (fun i => p.length - i) 0 ?_ ?_ ?_
        · exact ⟨by omega, by omega, ⟨es, hbe, by simpa using hes⟩, Kp.refl _ _⟩
        · exact (Sub.cons rfl (Sub.cons rfl (Sub.cons rfl (Sub.cons rfl (Sub.cons rfl (Sub.nil _))))))
        rintro i wi ⟨hi, hi5, ⟨ei, hbi, hei⟩, hki⟩
        show C _ _ _ _ [(0, .pointer (some ⟨ge, 0, none⟩)), (1, .slice A p.length c), (4, .int .i64 0), (5, .nilIface), (6, .int .i64 (i : Int))] _
        have hli : (pend ++ p.take i).length = pend.length + i := by rw [List.length_append, List.length_take]; omega
        have hsi := hei.size
        by_cases h1 : i < p.length
        · by_cases h2 : pend.length + i < 3
          · obtain ⟨sb, so, rfl, hB⟩ := hp.bs.resolve_left (by omega)
            obtain ⟨ch, hch⟩ : ∃ ch, p[i]? = some ch := ⟨_, List.getElem?_eq_getElem h1⟩
            have hBi := hB.kept hki (hA ⟨sb, so, none⟩ rfl).1
            have hpu := hei.push (by omega) ch
            have hb2 := Bk.set (Bk.drew hbi) (0 + 3 + (pend ++ p.take i).length) (u8 ch)
            refine C.seq ?_
            refine C.seq ?_
            refine C.reg ?_
            refine W.y (y_move rfl) rfl ?_
            refine W.y (y_move rfl) rfl ?_
            refine W.y (y_len rfl Try.underlying24) rfl ?_
            refine W.y (y_lssT rfl rfl (by omega)) rfl ?_
            refine W.y (y_move rfl) rfl ?_
            refine W.gy rfl rfl (y_move rfl) rfl ?_
            refine W.gy rfl rfl (y_nilp rfl) rfl ?_
            refine W.gy rfl rfl (y_field rfl fld80_4) rfl ?_
            refine W.gy rfl rfl (y_load rfl pl3 (Bk.at_ hbi hei.nb)) rfl ?_
            refine W.gy rfl rfl (y_lssT rfl rfl (by omega)) rfl ?_
            refine W.y (y_pick rfl rfl) rfl ?_
            refine W.fin ?_
            refine E.next ?_
            refine C.yes rfl ?_
            refine C.skip ?_
            refine E.next ?_
            refine C.seq ?_
            refine C.block ?_
            refine C.seq ?_
            refine C.stillTail 12 mixed (by kernel_rfl) ?_
            refine S.y (y_move rfl) rfl ?_
            refine S.y (y_move rfl) rfl ?_
            refine S.y (y_nilp rfl) rfl ?_
            refine S.y (y_field rfl fld80_4) rfl ?_
            refine S.y (y_load rfl pl3 (Bk.at_ hbi.drew hei.nb)) rfl ?_
            refine S.y (y_move rfl) rfl ?_
            refine S.y (y_move rfl) rfl ?_
            refine S.y (y_ixn rfl rfl Try.underlying24 siz5 (by omega)) rfl ?_
            refine S.y (y_load rfl pl5 (hBi.drew i ch hch)) rfl ?_
            refine S.y (y_nilp rfl) rfl ?_
            refine S.y (y_field rfl fld80_3) rfl ?_
            refine S.y (y_ixa rfl rfl Try.underlying77 siz5 (by omega)) rfl ?_
            refine S.tail ?_
            refine W.s (s_store rfl rfl rfl siz5 (Bk.some hbi.drew (by omega)) (Bk.melt hbi.drew)) ?_
            refine W.fin ?_
            refine E.next ?_
            refine C.reg ?_
            refine W.y (y_move rfl) rfl ?_
            refine W.y (y_nilp rfl) rfl ?_
            refine W.y (y_field rfl fld80_4) rfl ?_
            refine W.y (y_load rfl pl3 (Bk.at_ hb2 (by rw [Array.getElem?_setIfInBounds, if_neg (by omega)]; exact hei.nb))) rfl ?_
            refine W.y (y_add rfl rfl (wi64 (by omega) (by omega))) rfl ?_
            refine W.y (y_nilp rfl) rfl ?_
            refine W.y (y_field rfl fld80_4) rfl ?_
            refine W.s (s_store rfl rfl rfl siz3 (Bk.some hb2 (by simp only [Array.size_setIfInBounds]; omega)) (Bk.melt hb2)) ?_
            refine W.fin ?_
            refine E.blockNormal ?_
            refine E.next ?_
            refine C.reg ?_
            refine W.y (y_move rfl) rfl ?_
            refine W.y (y_add rfl rfl (wi64 (by omega) (by omega))) rfl ?_
            refine W.y (y_assign rfl) rfl ?_
            refine W.fin ?_
            have ht : p.take (i + 1) = p.take i ++ [ch] := by rw [List.take_add_one, hch]; rfl
            refine E.again (i + 1) ⟨by omega, by omega, ⟨_, Bk.set hb2 _ _, ?_⟩, Kp.set (Kp.set (Kp.drew hki) (.inl rfl) _) (.inl rfl) _⟩ (Sub.cons rfl (Sub.cons rfl (Sub.cons rfl (Sub.cons rfl (Sub.cons rfl (Sub.nil _)))))) (by omega)
            rw [ht, ← List.append_assoc]
            exact hpu
          · skip
            refine C.seq ?_
            refine C.seq ?_
            refine C.reg ?_
            refine W.y (y_move rfl) rfl ?_
            refine W.y (y_move rfl) rfl ?_
            refine W.y (y_len rfl Try.underlying24) rfl ?_
            refine W.y (y_lssT rfl rfl (by omega)) rfl ?_
            refine W.y (y_move rfl) rfl ?_
            refine W.gy rfl rfl (y_move rfl) rfl ?_
            refine W.gy rfl rfl (y_nilp rfl) rfl ?_
            refine W.gy rfl rfl (y_field rfl fld80_4) rfl ?_
            refine W.gy rfl rfl (y_load rfl pl3 (Bk.at_ hbi hei.nb)) rfl ?_
            refine W.gy rfl rfl (y_lssF rfl rfl (by omega)) rfl ?_
            refine W.y (y_pick rfl rfl) rfl ?_
            refine W.fin ?_
            refine E.next ?_
            refine C.no rfl ?_
            refine C.exit ?_
            refine E.thenExit ?_
            refine E.thenExit ?_
            refine E.blockOut ?_
            exact E.mid i ⟨hi, hi5, .inr (by omega), ⟨ei, hbi, hei⟩, hki⟩ (Sub.cons rfl (Sub.cons rfl (Sub.cons rfl (Sub.cons rfl (Sub.cons rfl (Sub.nil _))))))
        · skip
          refine C.seq ?_
          refine C.seq ?_
          refine C.reg ?_
          refine W.y (y_move rfl) rfl ?_
          refine W.y (y_move rfl) rfl ?_
          refine W.y (y_len rfl Try.underlying24) rfl ?_
          refine W.y (y_lssF rfl rfl (by omega)) rfl ?_
          refine W.y (y_move rfl) rfl ?_
          refine W.gn rfl rfl rfl ?_
          refine W.gn rfl rfl rfl ?_
          refine W.gn rfl rfl rfl ?_
          refine W.gn rfl rfl rfl ?_
          refine W.gn rfl rfl rfl ?_
          refine W.y (y_pick rfl rfl) rfl ?_
          refine W.fin ?_
          refine E.next ?_
          refine C.no rfl ?_
          refine C.exit ?_
          refine E.thenExit ?_
          refine E.thenExit ?_
          refine E.blockOut ?_
          exact E.mid i ⟨hi, hi5, .inl (by omega), ⟨ei, hbi, hei⟩, hki⟩ (Sub.cons rfl (Sub.cons rfl (Sub.cons rfl (Sub.cons rfl (Sub.cons rfl (Sub.nil _))))))
      rintro i wi ⟨hi, hi5, hie, ⟨ei, hbi, hei⟩, hki⟩
      show C _ _ _ _ [(0, .pointer (some ⟨ge, 0, none⟩)), (1, .slice A p.length c), (4, .int .i64 0), (5, .nilIface), (6, .int .i64 (i : Int))] _
      have hli : (pend ++ p.take i).length = pend.length + i := by rw [List.length_append, List.length_take]; omega
      have hsi := hei.size
      have hbci := h.bc.kept hki (fun e => n1 e.symm)
      have hbki := h.bk.kept hki (fun e => n2 e.symm)
      have howi := h.ow.kept hki (fun k hk e => (h.ob k hk).2.1 e)
      have hkI : Kp (fun k => k = ge ∨ k = gk ∨ v.ownBlock = some k) w wi := hki.mono (fun _ _ e => .inl e)
      by_cases h5 : pend.length + i < 3
      · have hip : i = p.length := by omega
        have hwl : all.length / 3 * 3 ≤ all.length := by omega
        have eL : (all ++ p).length / 3 * 3 = all.length / 3 * 3 := by rw [List.length_append]; omega
        have eT : (all ++ p).take (all.length / 3 * 3) = all.take (all.length / 3 * 3) := List.take_append_of_le_length hwl
        have eD : (all ++ p).drop (all.length / 3 * 3) = pend ++ p := by rw [List.drop_append_of_le_length hwl, hpd]
        refine C.seq ?_
        refine C.reg ?_
        refine W.y (y_move rfl) rfl ?_
        refine W.y (y_move rfl) rfl ?_
        refine W.y (y_add rfl rfl (wi64 (by omega) (by omega))) rfl ?_
        refine W.y (y_assign rfl) rfl ?_
        refine W.fin ?_
        refine E.next ?_
        refine C.seq ?_
        refine C.reg ?_
        refine W.y (y_move rfl) rfl ?_
        refine W.y (y_move rfl) rfl ?_
        refine W.y (y_cutl rfl rfl Try.underlying24 siz5 (by omega)) rfl ?_
        refine W.y (y_assign rfl) rfl ?_
        refine W.fin ?_
        refine E.next ?_
        refine C.seq ?_
        refine C.seq ?_
        refine C.reg ?_
        refine W.y (y_move rfl) rfl ?_
        refine W.y (y_nilp rfl) rfl ?_
        refine W.y (y_field rfl fld80_4) rfl ?_
        refine W.y (y_load rfl pl3 (Bk.at_ hbi hei.nb)) rfl ?_
        refine W.y (y_lssT rfl rfl (by omega)) rfl ?_
        refine W.fin ?_
        refine E.next ?_
        refine C.yes rfl ?_
        refine C.ret ?_
        refine E.thenRet ?_
        refine E.thenRet ?_
        exact E.ret2 rfl rfl rfl ⟨by rw [hip]; exact congrArg (fun z => Value.tuple #[.int .i64 z, .nilIface]) (by omega), v, ⟨hbci, h.ec, ⟨ei, hbi, by rw [eL, eD]; rw [hip, List.take_of_length_le (Nat.le_refl _)] at hei; exact hei⟩, hbki, by rw [eL, eT]; exact howi, h.ob, h.ne⟩, hkI, .inl rfl⟩
      · have h55 : (pend ++ p.take i).length = 3 := by omega
        have htx : Pl.text 6 4 al pad (pend ++ p.take i) = Pl.letters 6 al (pend ++ p.take i) := text_of_whole (by rw [h55]; rfl)
        have htl : (Pl.letters 6 al (pend ++ p.take i)).length = 4 := by rw [Pl.letters_length, h55]; rfl
        have hsrc : Bs wi.drew ge 3 (pend ++ p.take i) := Bs.of_row hbi.drew (fun j x hx => hei.buf j x hx)
        refine C.seq ?_
        refine C.reg ?_
        refine W.y (y_move rfl) rfl ?_
        refine W.y (y_move rfl) rfl ?_
        refine W.y (y_add rfl rfl (wi64 (by omega) (by omega))) rfl ?_
        refine W.y (y_assign rfl) rfl ?_
        refine W.fin ?_
        refine E.next ?_
        refine C.seq ?_
        refine C.reg ?_
        refine W.y (y_move rfl) rfl ?_
        refine W.y (y_move rfl) rfl ?_
        refine W.y (y_cutl rfl rfl Try.underlying24 siz5 (by omega)) rfl ?_
        refine W.y (y_assign rfl) rfl ?_
        refine W.fin ?_
        refine E.next ?_
        refine C.seq ?_
        refine C.seq ?_
        refine C.reg ?_
        refine W.y (y_move rfl) rfl ?_
        refine W.y (y_nilp rfl) rfl ?_
        refine W.y (y_field rfl fld80_4) rfl ?_
        refine W.y (y_load rfl pl3 (Bk.at_ hbi hei.nb)) rfl ?_
        refine W.y (y_lssF rfl rfl (by omega)) rfl ?_
        refine W.fin ?_
        refine E.next ?_
        refine C.no rfl ?_
        refine C.skip ?_
        refine E.next ?_
        refine C.seq ?_
        refine C.any mixed ?_
        refine AN.take 0 rfl (by kernel_rfl) (by kernel_rfl) (by kernel_rfl) (fun _ => y_move rfl) rfl ?_
        refine AN.take 1 rfl (by kernel_rfl) (by kernel_rfl) (by kernel_rfl) (fun _ => y_nilp rfl) rfl ?_
        refine AN.take 2 rfl (by kernel_rfl) (by kernel_rfl) (by kernel_rfl) (fun _ => y_field rfl fld80_1) rfl ?_
        refine AN.take 4 rfl (by kernel_rfl) (by kernel_rfl) (by kernel_rfl) (fun _ => y_move rfl) rfl ?_
        refine AN.take 5 rfl (by kernel_rfl) (by kernel_rfl) (by kernel_rfl) (fun _ => y_nilp rfl) rfl ?_
        refine AN.take 6 rfl (by kernel_rfl) (by kernel_rfl) (by kernel_rfl) (fun _ => y_field rfl fld80_5) rfl ?_
        refine AN.take 7 rfl (by kernel_rfl) (by kernel_rfl) (by kernel_rfl) (fun _ => y_arr rfl Try.underlying78 siz5 ) rfl ?_
        refine AN.take 8 rfl (by kernel_rfl) (by kernel_rfl) (by kernel_rfl) (fun _ => y_move rfl) rfl ?_
        refine AN.take 9 rfl (by kernel_rfl) (by kernel_rfl) (by kernel_rfl) (fun _ => y_nilp rfl) rfl ?_
        refine AN.take 10 rfl (by kernel_rfl) (by kernel_rfl) (by kernel_rfl) (fun _ => y_field rfl fld80_3) rfl ?_
        refine AN.take 11 rfl (by kernel_rfl) (by kernel_rfl) (by kernel_rfl) (fun _ => y_arr rfl Try.underlying77 siz5 ) rfl ?_
        refine AN.one 3 rfl (by kernel_rfl) (y_load rfl pl53 (Bk.at_ hbi.drew hei.enc)) rfl ?_
        refine AN.oneCall 12 rfl (by kernel_rfl) ent46 rfl (encode64_at (src := pend ++ p.take i) hbci.drew h.ec hf.lo hf.hi hbi.drew (fun e => n1 e.symm) (.inr ⟨rfl, hsrc⟩) h55 (by omega) (by omega) (by have := encLen64_le pad 3; rw [h55]; omega) (by omega) (by omega) (by omega)) rfl ?_
        rintro _ w2 ⟨rfl, hb2, hk2, hz2⟩
        rw [htx] at hb2
        have he2 := hei.out (by omega) (vs := bv (Pl.letters 6 al (pend ++ p.take i))) (by rw [bv_length]; omega)
        have hk2I : Kp (fun k => k = ge ∨ k = gk ∨ v.ownBlock = some k) w w2 := hkI.drew.trans (hk2.mono (fun _ _ e => .inl e))
        have hbk2 := hbki.drew.kept hk2 (fun e => n2 e.symm)
        have how2 := (howi.kept (Kp.refl (· = ge) wi).drew (fun k hk e => (h.ob k hk).2.1 e)).kept hk2 (fun k hk e => (h.ob k hk).2.1 e)
        have hbc2 := hbci.drew.kept hk2 (fun e => n1 e.symm)
        have hrd : Rd w2.drew (some ⟨ge, 7, none⟩) (bv (Pl.letters 6 al (pend ++ p.take i))) := Rd.of_bs (bs_spliced hb2.drew (by omega))
        refine AN.done (by kernel_rfl) ?_
        refine E.next ?_
        refine C.seq ?_
        refine C.seq ?_
        refine C.any mixed ?_
        refine AN.take 0 rfl (by kernel_rfl) (by kernel_rfl) (by kernel_rfl) (fun _ => y_move rfl) rfl ?_
        refine AN.take 1 rfl (by kernel_rfl) (by kernel_rfl) (by kernel_rfl) (fun _ => y_move rfl) rfl ?_
        refine AN.take 2 rfl (by kernel_rfl) (by kernel_rfl) (by kernel_rfl) (fun _ => y_nilp rfl) rfl ?_
        refine AN.take 3 rfl (by kernel_rfl) (by kernel_rfl) (by kernel_rfl) (fun _ => y_field rfl fld80_2) rfl ?_
        refine AN.take 5 rfl (by kernel_rfl) (by kernel_rfl) (by kernel_rfl) (fun _ => y_move rfl) rfl ?_
        refine AN.take 6 rfl (by kernel_rfl) (by kernel_rfl) (by kernel_rfl) (fun _ => y_nilp rfl) rfl ?_
        refine AN.take 7 rfl (by kernel_rfl) (by kernel_rfl) (by kernel_rfl) (fun _ => y_field rfl fld80_5) rfl ?_
        refine AN.take 8 rfl (by kernel_rfl) (by kernel_rfl) (by kernel_rfl) (fun _ => y_arrh (j := 4) rfl rfl Try.underlying78 siz5 (by omega)) rfl ?_
        refine AN.one 4 rfl (by kernel_rfl) (y_load rfl pl75 (Bk.at_ hb2.drew he2.wr)) rfl ?_
        refine AN.take 9 rfl (by kernel_rfl) (by kernel_rfl) (by kernel_rfl) (fun _ => y_nili rfl) rfl ?_
        refine AN.take 10 rfl (by kernel_rfl) (by kernel_rfl) (by kernel_rfl) (fun _ => y_move rfl) rfl ?_
        refine AN.oneInv 11 rfl (by kernel_rfl) ent69 methKeep rfl rfl (keeperWrite_ret (s := Pl.letters 6 al (all.take (all.length / 3 * 3))) (p := Pl.letters 6 al (pend ++ p.take i)) hbk2.drew (how2.kept (Kp.refl (fun _ => False) w2).drew (fun _ _ e => e)) (fun e => (h.ob gk e).2.2.2 rfl) hrd htl (by simp only [Pl.letters_length]; unfold Pl.nlet; rw [List.length_take]; omega)) rfl ?_
        rintro _ w3 ⟨rfl, v', hbk3, how3, hat3, hk3⟩
        have hb3 := hb2.drew.kept hk3 (fun e => e.elim n2 (fun e => (h.ob ge e).2.1 rfl))
        have hbc3 := hbc2.drew.kept hk3 (fun e => e.elim n3 (fun e => (h.ob gc e).2.2.1 rfl))
        have hb4 := Bk.set hb3 0 .nilIface
        refine AN.take 12 rfl (by kernel_rfl) (by kernel_rfl) (by kernel_rfl) (fun _ => y_move rfl) rfl ?_
        refine AN.take 13 rfl (by kernel_rfl) (by kernel_rfl) (by kernel_rfl) (fun _ => y_ext rfl rfl) rfl ?_
        refine AN.take 14 rfl (by kernel_rfl) (by kernel_rfl) (by kernel_rfl) (fun _ => y_ext rfl rfl) rfl ?_
        refine AN.take 15 rfl (by kernel_rfl) (by kernel_rfl) (by kernel_rfl) (fun _ => y_nilp rfl) rfl ?_
        refine AN.take 16 rfl (by kernel_rfl) (by kernel_rfl) (by kernel_rfl) (fun _ => y_field rfl fld80_0) rfl ?_
        refine AN.oneS 17 rfl (by kernel_rfl) (s_store rfl rfl rfl siz51 (Bk.some hb3 (by rw [splice_size]; omega)) (Bk.melt hb3)) ?_
        refine AN.done (by kernel_rfl) ?_
        refine E.next ?_
        refine C.seq ?_
        refine C.reg ?_
        refine W.y (y_move rfl) rfl ?_
        refine W.y (y_nilp rfl) rfl ?_
        refine W.y (y_field rfl fld80_0) rfl ?_
        refine W.y (y_load rfl pl51 (Bk.at_ hb4 he2.err0.err)) rfl ?_
        refine W.y (y_nenil rfl eqNil51) rfl ?_
        refine W.fin ?_
        refine E.next ?_
        refine C.no rfl ?_
        refine C.skip ?_
        refine E.next ?_
        refine C.reg ?_
        refine W.y (y_move rfl) rfl ?_
        refine W.y (y_nilp rfl) rfl ?_
        refine W.y (y_field rfl fld80_4) rfl ?_
        refine W.s (s_store rfl rfl rfl siz3 (Bk.some hb4 (by simp only [Array.size_setIfInBounds, splice_size]; omega)) (Bk.melt hb4)) ?_
        refine W.fin ?_
        have hat : ∀ k, v'.ownBlock = some k → B ≤ k ∧ k ≠ ge ∧ k ≠ gc ∧ k ≠ gk := by
          intro k hk
          have q1 := hbe.lt
          have q2 := h.bc.lt
          have q3 := h.bk.lt
          have q4 := hk2I.size
          rcases hat3 with e | e
          · exact h.ob k (by rw [← e, hk])
          · rw [e] at hk; injection hk with hk; simp only [World.size_drew] at hk; omega
        have hfr : v'.ownBlock = v.ownBlock ∨ ∃ k, v'.ownBlock = some k ∧ w.heap.size ≤ k := hat3.imp id (fun e => ⟨_, e, by have := hk2I.size; simp only [World.size_drew]; exact this⟩)
        have hal : (all ++ p.take i).length % 3 = 0 := by rw [List.length_append, List.length_take]; omega
        have haw := all_whole (by omega) (q := []) hal (by simp)
        simp only [List.append_nil] at haw
        have eL : all.take (all.length / 3 * 3) ++ (pend ++ p.take i) = all ++ p.take i := by rw [← hpd, ← List.append_assoc, List.take_append_drop]
        have hown : Own w3 5 v' (bv (Pl.letters 6 al (all ++ p.take i))) := by
          rw [← eL, Pl.letters_append (k := 4 * (all.length / 3)) (by omega) al _ _ (by rw [List.length_take]; omega)]
          exact how3
        refine E.mid (all ++ p.take i, p.drop i, _, c - i, v', (0 + (i : Int))) ⟨by rw [List.append_assoc, List.take_append_drop], hal, by rw [List.length_drop]; omega, by rw [List.length_drop]; omega, by omega, ?_, ?_, ⟨?_, h.ec, ⟨_, Bk.set hb4 _ _, by rw [haw.2]; exact he2.err0.clear⟩, ?_, ?_, hat, h.ne⟩, ?_, hfr⟩ (Sub.cons rfl (Sub.cons (by rw [List.length_drop]; rfl) (Sub.cons rfl (Sub.cons rfl (Sub.nil _)))))
        · have := hp.cut i (c := c) (by rw [bv_length]; omega) (by rw [bv_length]; omega)
          rwa [bv_drop] at this
        · exact cut_far (fun k => k ≠ ge ∧ k ≠ gk ∧ v.ownBlock ≠ some k) hA
        · exact Bk.ne (Bk.ne hbc3 (fun e => n1 e.symm) _) (fun e => n1 e.symm) _
        · exact Bk.ne (Bk.ne hbk3 (fun e => n2 e.symm) _) (fun e => n2 e.symm) _
        · rw [haw.1]; exact hown.kept (S := (· = ge)) (Kp.set (Kp.set (Kp.refl (· = ge) w3) (.inl rfl) _) (.inl rfl) _) (fun k hk e => (hat k hk).2.1 e)
        · exact Kp.set (Kp.set (hk2I.drew.trans (hk3.mono (fun _ _ e => .inr e))) (.inl (.inl rfl)) _) (.inl (.inl rfl)) _
  rintro ⟨all0, p0, A0, c0, v0, m0⟩ w0 hM
  show C _ _ _ _ [(0, .pointer (some ⟨ge, 0, none⟩)), (1, .slice A0 p0.length c0), (4, .int .i64 m0), (5, .nilIface)] _
  refine C.seq ?_
  refine C.block ?_
  refine C.loop (σ := List UInt8 × List UInt8 × Option Addr × Nat × Value × Int) (fun (all1, p1, A1, c1, v1, n1) w' => all1 ++ p1 = all ++ p ∧ all1.length % 3 = 0 ∧ p1.length ≤ c1 ∧ (n1 : Int) + p1.length = p.length ∧ 0 ≤ (n1 : Int) ∧ Rd w A1 (bv p1) ∧ (∀ a : Addr, A1 = some a → a.block ≠ ge ∧ a.block ≠ gk ∧ v.ownBlock ≠ some a.block) ∧ ES 3 6 64 80 85 61 59 5 w' B ge gc gk cs v1 al pad all1 ∧ Kp (fun k => k = ge ∨ k = gk ∨ v.ownBlock = some k) w w' ∧ (v1.ownBlock = v.ownBlock ∨ ∃ k, v1.ownBlock = some k ∧ w.heap.size ≤ k)) (fun (all1, p1, A1, c1, v1, n1) => [(0, .pointer (some ⟨ge, 0, none⟩)), (1, .slice A1 p1.length c1), (4, .int .i64 n1), (5, .nilIface)]) (fun (_, p1, _, _, _, _) => p1.length) (all0, p0, A0, c0, v0, m0) ?_ ?_ ?_
  · exact hM
  · exact (Sub.cons rfl (Sub.cons rfl (Sub.cons rfl (Sub.cons rfl (Sub.nil _)))))
  rintro ⟨all1, p1, A1, c1, v1, m1⟩ w1 ⟨hap, hmod, hc1, hn1, hn0, hp1, hA1, h1, hk1, hv1⟩
  clear hM
  show C _ _ _ _ [(0, .pointer (some ⟨ge, 0, none⟩)), (1, .slice A1 p1.length c1), (4, .int .i64 m1), (5, .nilIface)] _
  have hpl1 : all1.length + p1.length = all.length + p.length := by have := congrArg List.length hap; simpa using this
  obtain ⟨e1, hbe1, hes1⟩ := h1.be
  have hs1 := hes1.size
  have hrd1 : Rd w1 A1 (bv p1) := hp1.kept hk1 (fun g o e hs => hs.elim (hA1 _ e).1 (fun hs => hs.elim (hA1 _ e).2.1 (hA1 _ e).2.2))
  have haw1 := all_whole (by omega) (q := []) hmod (by simp)
  simp only [List.append_nil] at haw1
  by_cases h5 : 3 ≤ p1.length
  · obtain ⟨sb, so, rfl, hB⟩ := hrd1.bs.resolve_left (by omega)
    refine C.seq ?_
    refine C.seq ?_
    refine C.reg ?_
    refine W.y (y_move rfl) rfl ?_
    refine W.y (y_len rfl Try.underlying24) rfl ?_
    refine W.y (y_geqT rfl rfl (by omega)) rfl ?_
    refine W.fin ?_
    refine E.next ?_
    refine C.yes rfl ?_
    refine C.skip ?_
    refine E.next ?_
    refine C.block ?_
    refine C.seq ?_
    refine C.reg ?_
    refine W.y (y_assign rfl) rfl ?_
    refine W.fin ?_
    refine E.next ?_
    refine C.mid (σ := Nat) (fun nn w' => w1 = w' ∧ 3 ≤ nn ∧ nn ≤ 768 ∧ nn ≤ p1.length ∧ nn % 3 = 0) (fun nn => [(0, .pointer (some ⟨ge, 0, none⟩)), (1, .slice (some ⟨sb, so, none⟩) p1.length c1), (4, .int .i64 m1), (5, .nilIface), (7, .int .i64 (nn : Int))]) ?_ ?_
    · by_cases hbig : p1.length < 768
      · skip
        refine C.seq ?_
        refine C.reg ?_
        refine W.y (y_move rfl) rfl ?_
        refine W.y (y_move rfl) rfl ?_
        refine W.y (y_len rfl Try.underlying24) rfl ?_
        refine W.y (y_gtrT rfl rfl (by omega)) rfl ?_
        refine W.fin ?_
        refine E.next ?_
        refine C.yes rfl ?_
        refine C.seq ?_
        refine C.reg ?_
        refine W.y (y_move rfl) rfl ?_
        refine W.y (y_len rfl Try.underlying24) rfl ?_
        refine W.y (y_assign rfl) rfl ?_
        refine W.fin ?_
        refine E.next ?_
        refine C.reg ?_
        refine W.y (y_move rfl) rfl ?_
        refine W.y (y_move rfl) rfl ?_
        refine W.y (y_rem rfl rfl (by omega) (by omega)) rfl ?_
        refine W.y (y_sub rfl rfl (wi64 (by omega) (by omega))) rfl ?_
        refine W.y (y_assign rfl) rfl ?_
        refine W.fin ?_
        exact E.mid (p1.length - p1.length % 3) ⟨rfl, by omega, by omega, by omega, by omega⟩ (Sub.cons rfl (Sub.cons rfl (Sub.cons rfl (Sub.cons rfl (Sub.cons (congrArg (fun z => some (Value.int .i64 z)) (by omega)) (Sub.nil _))))))
      · skip
        refine C.seq ?_
        refine C.reg ?_
        refine W.y (y_move rfl) rfl ?_
        refine W.y (y_move rfl) rfl ?_
        refine W.y (y_len rfl Try.underlying24) rfl ?_
        refine W.y (y_gtrF rfl rfl (by omega)) rfl ?_
        refine W.fin ?_
        refine E.next ?_
        refine C.no rfl ?_
        refine C.skip ?_
        exact E.mid 768 ⟨rfl, by omega, by omega, by omega, by omega⟩ (Sub.cons rfl (Sub.cons rfl (Sub.cons rfl (Sub.cons rfl (Sub.cons rfl (Sub.nil _))))))
    rintro nn _ ⟨rfl, m1a, m1b, m1c, m1d⟩
    show C _ _ _ _ [(0, .pointer (some ⟨ge, 0, none⟩)), (1, .slice (some ⟨sb, so, none⟩) p1.length c1), (4, .int .i64 m1), (5, .nilIface), (7, .int .i64 (nn : Int))] _
    have htl0 : (p1.take nn).length = nn := by rw [List.length_take]; omega
    have htx : Pl.text 6 4 al pad (p1.take nn) = Pl.letters 6 al (p1.take nn) := text_of_whole (by rw [htl0, Pl.nlet_whole (k := nn / 3 * 4) (by omega) (by omega)]; omega)
    have htl : (Pl.letters 6 al (p1.take nn)).length = nn / 3 * 4 := by rw [Pl.letters_length, htl0, Pl.nlet_whole (k := nn / 3 * 4) (by omega) (by omega)]
    have hel : encLen64 pad nn = nn / 3 * 4 := by unfold encLen64; split <;> omega
    have hA2 := hA1 ⟨sb, so, none⟩ rfl
    refine C.seq ?_
    refine C.any mixed ?_
    refine AN.take 0 rfl (by kernel_rfl) (by kernel_rfl) (by kernel_rfl) (fun _ => y_move rfl) rfl ?_
    refine AN.take 1 rfl (by kernel_rfl) (by kernel_rfl) (by kernel_rfl) (fun _ => y_nilp rfl) rfl ?_
    refine AN.take 2 rfl (by kernel_rfl) (by kernel_rfl) (by kernel_rfl) (fun _ => y_field rfl fld80_1) rfl ?_
    refine AN.take 4 rfl (by kernel_rfl) (by kernel_rfl) (by kernel_rfl) (fun _ => y_move rfl) rfl ?_
    refine AN.take 5 rfl (by kernel_rfl) (by kernel_rfl) (by kernel_rfl) (fun _ => y_nilp rfl) rfl ?_
    refine AN.take 6 rfl (by kernel_rfl) (by kernel_rfl) (by kernel_rfl) (fun _ => y_field rfl fld80_5) rfl ?_
    refine AN.take 7 rfl (by kernel_rfl) (by kernel_rfl) (by kernel_rfl) (fun _ => y_arr rfl Try.underlying78 siz5 ) rfl ?_
    refine AN.take 8 rfl (by kernel_rfl) (by kernel_rfl) (by kernel_rfl) (fun _ => y_move rfl) rfl ?_
    refine AN.take 9 rfl (by kernel_rfl) (by kernel_rfl) (by kernel_rfl) (fun _ => y_move rfl) rfl ?_
    refine AN.take 10 rfl (by kernel_rfl) (by kernel_rfl) (by kernel_rfl) (fun _ => y_cuth rfl rfl Try.underlying24 siz5 (by omega)) rfl ?_
    refine AN.one 3 rfl (by kernel_rfl) (y_load rfl pl53 (Bk.at_ hbe1.drew hes1.enc)) rfl ?_
    refine AN.oneCall 11 rfl (by kernel_rfl) ent46 rfl (encode64_at (sb := sb) (so := so) (src := p1.take nn) h1.bc.drew h1.ec hf.lo hf.hi hbe1.drew (fun e => n1 e.symm) (.inr ⟨by first | rfl | (split <;> simp [Addr.add_zero']), (hB.take nn).drew⟩) (by omega) (by omega) (by omega) (by rw [htl0, hel]; omega) (by omega) (.inl hA2.1) (by omega)) rfl ?_
    rintro _ w2 ⟨rfl, hb2, hk2, hz2⟩
    rw [htx] at hb2
    have he2 := hes1.out (by rw [haw1.2]; simp) (vs := bv (Pl.letters 6 al (p1.take nn))) (by rw [bv_length]; omega)
    have hk2I : Kp (fun k => k = ge ∨ k = gk ∨ v.ownBlock = some k) w w2 := hk1.drew.trans (hk2.mono (fun _ _ e => .inl e))
    have hbk2 := h1.bk.drew.kept hk2 (fun e => n2 e.symm)
    have how2 := (h1.ow.kept (Kp.refl (· = ge) w1).drew (fun k hk e => (h1.ob k hk).2.1 e)).kept hk2 (fun k hk e => (h1.ob k hk).2.1 e)
    have hbc2 := h1.bc.drew.kept hk2 (fun e => n1 e.symm)
    have hrd : Rd w2.drew (some ⟨ge, 7, none⟩) (bv (Pl.letters 6 al (p1.take nn))) := Rd.of_bs (bs_spliced hb2.drew (by omega))
    refine AN.done (by kernel_rfl) ?_
    refine E.next ?_
    refine C.seq ?_
    refine C.seq ?_
    refine C.any mixed ?_
    refine AN.take 0 rfl (by kernel_rfl) (by kernel_rfl) (by kernel_rfl) (fun _ => y_move rfl) rfl ?_
    refine AN.take 1 rfl (by kernel_rfl) (by kernel_rfl) (by kernel_rfl) (fun _ => y_move rfl) rfl ?_
    refine AN.take 2 rfl (by kernel_rfl) (by kernel_rfl) (by kernel_rfl) (fun _ => y_nilp rfl) rfl ?_
    refine AN.take 3 rfl (by kernel_rfl) (by kernel_rfl) (by kernel_rfl) (fun _ => y_field rfl fld80_2) rfl ?_
    refine AN.take 5 rfl (by kernel_rfl) (by kernel_rfl) (by kernel_rfl) (fun _ => y_move rfl) rfl ?_
    refine AN.take 6 rfl (by kernel_rfl) (by kernel_rfl) (by kernel_rfl) (fun _ => y_nilp rfl) rfl ?_
    refine AN.take 7 rfl (by kernel_rfl) (by kernel_rfl) (by kernel_rfl) (fun _ => y_field rfl fld80_5) rfl ?_
    refine AN.take 8 rfl (by kernel_rfl) (by kernel_rfl) (by kernel_rfl) (fun _ => y_move rfl) rfl ?_
    refine AN.take 9 rfl (by kernel_rfl) (by kernel_rfl) (by kernel_rfl) (fun _ => y_quo rfl rfl (by omega) (by omega) (by omega)) rfl ?_
    refine AN.take 10 rfl (by kernel_rfl) (by kernel_rfl) (by kernel_rfl) (fun _ => y_mul rfl rfl (wi64 (by omega) (by omega))) rfl ?_
    refine AN.take 11 rfl (by kernel_rfl) (by kernel_rfl) (by kernel_rfl) (fun _ => y_arrlh (i := 0) (j := nn / 3 * 4) rfl rfl rfl Try.underlying78 siz5 (by omega) (by omega) (by omega)) rfl ?_
    refine AN.one 4 rfl (by kernel_rfl) (y_load rfl pl75 (Bk.at_ hb2.drew he2.wr)) rfl ?_
    refine AN.take 12 rfl (by kernel_rfl) (by kernel_rfl) (by kernel_rfl) (fun _ => y_nili rfl) rfl ?_
    refine AN.take 13 rfl (by kernel_rfl) (by kernel_rfl) (by kernel_rfl) (fun _ => y_move rfl) rfl ?_
    refine AN.oneInv 14 rfl (by kernel_rfl) ent69 methKeep rfl rfl (keeperWrite_ret (s := Pl.letters 6 al (all1.take (all1.length / 3 * 3))) (p := Pl.letters 6 al (p1.take nn)) hbk2.drew (how2.kept (Kp.refl (fun _ => False) w2).drew (fun _ _ e => e)) (fun e => (h1.ob gk e).2.2.2 rfl) hrd htl (by simp only [Pl.letters_length]; unfold Pl.nlet; rw [List.length_take]; omega)) rfl ?_
    rintro _ w3 ⟨rfl, v', hbk3, how3, hat3, hk3⟩
    have hb3 := hb2.drew.kept hk3 (fun e => e.elim n2 (fun e => (h1.ob ge e).2.1 rfl))
    have hbc3 := hbc2.drew.kept hk3 (fun e => e.elim n3 (fun e => (h1.ob gc e).2.2.1 rfl))
    have hb4 := Bk.set hb3 0 .nilIface
    refine AN.take 15 rfl (by kernel_rfl) (by kernel_rfl) (by kernel_rfl) (fun _ => y_move rfl) rfl ?_
    refine AN.take 16 rfl (by kernel_rfl) (by kernel_rfl) (by kernel_rfl) (fun _ => y_ext rfl rfl) rfl ?_
    refine AN.take 17 rfl (by kernel_rfl) (by kernel_rfl) (by kernel_rfl) (fun _ => y_ext rfl rfl) rfl ?_
    refine AN.take 18 rfl (by kernel_rfl) (by kernel_rfl) (by kernel_rfl) (fun _ => y_nilp rfl) rfl ?_
    refine AN.take 19 rfl (by kernel_rfl) (by kernel_rfl) (by kernel_rfl) (fun _ => y_field rfl fld80_0) rfl ?_
    refine AN.oneS 20 rfl (by kernel_rfl) (s_store rfl rfl rfl siz51 (Bk.some hb3 (by rw [splice_size]; omega)) (Bk.melt hb3)) ?_
    refine AN.done (by kernel_rfl) ?_
    refine E.next ?_
    refine C.seq ?_
    refine C.reg ?_
    refine W.y (y_move rfl) rfl ?_
    refine W.y (y_nilp rfl) rfl ?_
    refine W.y (y_field rfl fld80_0) rfl ?_
    refine W.y (y_load rfl pl51 (Bk.at_ hb4 he2.err0.err)) rfl ?_
    refine W.y (y_nenil rfl eqNil51) rfl ?_
    refine W.fin ?_
    refine E.next ?_
    refine C.no rfl ?_
    refine C.skip ?_
    refine E.next ?_
    refine C.seq ?_
    refine C.reg ?_
    refine W.y (y_move rfl) rfl ?_
    refine W.y (y_move rfl) rfl ?_
    refine W.y (y_add rfl rfl (wi64 (by omega) (by omega))) rfl ?_
    refine W.y (y_assign rfl) rfl ?_
    refine W.fin ?_
    refine E.next ?_
    refine C.reg ?_
    refine W.y (y_move rfl) rfl ?_
    refine W.y (y_move rfl) rfl ?_
    refine W.y (y_cutl rfl rfl Try.underlying24 siz5 (by omega)) rfl ?_
    refine W.y (y_assign rfl) rfl ?_
    refine W.fin ?_
    refine E.blockNormal ?_
    have hat : ∀ k, v'.ownBlock = some k → B ≤ k ∧ k ≠ ge ∧ k ≠ gc ∧ k ≠ gk := by
      intro k hk
      have q1 := hbe.lt
      have q2 := h.bc.lt
      have q3 := h.bk.lt
      have q4 := hk2I.size
      rcases hat3 with e | e
      · exact h1.ob k (by rw [← e, hk])
      · rw [e] at hk; injection hk with hk; simp only [World.size_drew] at hk; omega
    have hfr : v'.ownBlock = v.ownBlock ∨ ∃ k, v'.ownBlock = some k ∧ w.heap.size ≤ k := by
      rcases hat3 with e | e
      · rw [e]; exact hv1
      · exact .inr ⟨_, e, by have := hk2I.size; simp only [World.size_drew]; exact this⟩
    have hk3I : Kp (fun k => k = ge ∨ k = gk ∨ v.ownBlock = some k) w w3 := hk2I.drew.trans' hk3 (fun k hk e => by
      rcases e with e | e
      · exact .inr (.inl e)
      · rcases hv1 with e1 | ⟨j, e1, e2⟩
        · exact .inr (.inr (by rw [← e1, e]))
        · rw [e1] at e; injection e with e; omega)
    have hal : (all1 ++ p1.take nn).length % 3 = 0 := by rw [List.length_append, htl0]; omega
    have haw := all_whole (by omega) (q := []) hal (by simp)
    simp only [List.append_nil] at haw
    have hown : Own w3 5 v' (bv (Pl.letters 6 al (all1 ++ p1.take nn))) := by
      rw [haw1.1] at how3
      rw [Pl.letters_append (k := 4 * (all1.length / 3)) (by omega) al _ _ (by omega)]
      exact how3
    refine E.again (all1 ++ p1.take nn, p1.drop nn, _, c1 - nn, v', (m1 + (nn : Int))) ⟨by rw [List.append_assoc, List.take_append_drop]; exact hap, hal, by rw [List.length_drop]; omega, by rw [List.length_drop]; omega, by omega, ?_, ?_, ⟨?_, h1.ec, ⟨_, hb4, by rw [haw.2, ← haw1.2]; exact he2.err0⟩, ?_, ?_, hat, h1.ne⟩, ?_, hfr⟩ (Sub.cons rfl (Sub.cons (by rw [List.length_drop]; rfl) (Sub.cons rfl (Sub.cons rfl (Sub.nil _))))) (by show (p1.drop nn).length < p1.length; rw [List.length_drop]; omega)
    · have := hp1.cut nn (c := c1) (by rw [bv_length]; omega) (by rw [bv_length]; omega)
      rwa [bv_drop] at this
    · exact cut_far (fun k => k ≠ ge ∧ k ≠ gk ∧ v.ownBlock ≠ some k) hA1
    · exact Bk.ne hbc3 (fun e => n1 e.symm) _
    · exact Bk.ne hbk3 (fun e => n2 e.symm) _
    · rw [haw.1]; exact hown.kept (S := (· = ge)) (Kp.set (Kp.refl (· = ge) w3) (.inl rfl) _) (fun k hk e => (hat k hk).2.1 e)
    · exact Kp.set hk3I (.inl (.inl rfl)) _
  · have hfw := all_whole (by omega) (q := p1) hmod (by omega)
    have hcp := run_copyB (P := Try.prog) (dT := 24) (sT := 24) (ty := 3) (o := 0 + 3) (dl := 3) (dc := 3) (sc := c1) (sl := p1.length) Try.underlying24 siz5 hbe1 hrd1 (by rw [bv_length]; exact (Nat.min_eq_left (by omega)).symm) (one_u8 p1) (by rw [bv_length]; omega) (.inr (Nat.zero_le _))
    rw [bv_length] at hcp
    have hb2 := setCells_bk (vs := bv p1) (o := 0 + 3) hbe1
    have hk2 : Kp (· = ge) w1 (setCells w1 ge (0 + 3) (bv p1)) := setCells_kp (S := (· = ge)) (.inl rfl) (Kp.refl (· = ge) w1)
    have hfi := hes1.fill (p := p1) (by omega)
    refine C.seq ?_
    refine C.seq ?_
    refine C.reg ?_
    refine W.y (y_move rfl) rfl ?_
    refine W.y (y_len rfl Try.underlying24) rfl ?_
    refine W.y (y_geqF rfl rfl (by omega)) rfl ?_
    refine W.fin ?_
    refine E.next ?_
    refine C.no rfl ?_
    refine C.exit ?_
    refine E.thenExit ?_
    refine E.thenExit ?_
    refine E.blockOut ?_
    refine E.next ?_
    refine C.seq ?_
    refine C.reg ?_
    refine W.y (y_move rfl) rfl ?_
    refine W.y (y_nilp rfl) rfl ?_
    refine W.y (y_field rfl fld80_3) rfl ?_
    refine W.y (y_arr rfl Try.underlying77 siz5 ) rfl ?_
    refine W.y (y_move rfl) rfl ?_
    refine W.y (y_copy rfl rfl hcp) rfl ?_
    refine W.fin ?_
    refine E.next ?_
    refine C.seq ?_
    refine C.reg ?_
    refine W.y (y_move rfl) rfl ?_
    refine W.y (y_move rfl) rfl ?_
    refine W.y (y_len rfl Try.underlying24) rfl ?_
    refine W.y (y_nilp rfl) rfl ?_
    refine W.y (y_field rfl fld80_4) rfl ?_
    refine W.s (s_store rfl rfl rfl siz3 (Bk.some hb2 (by rw [splice_size]; omega)) (Bk.melt hb2)) ?_
    refine W.fin ?_
    refine E.next ?_
    refine C.seq ?_
    refine C.reg ?_
    refine W.y (y_move rfl) rfl ?_
    refine W.y (y_move rfl) rfl ?_
    refine W.y (y_len rfl Try.underlying24) rfl ?_
    refine W.y (y_add rfl rfl (wi64 (by omega) (by omega))) rfl ?_
    refine W.y (y_assign rfl) rfl ?_
    refine W.fin ?_
    refine E.next ?_
    refine C.ret ?_
    have hk3 : Kp (· = ge) w1 ((setCells w1 ge (0 + 3) (bv p1)).setCell ⟨ge, 0 + 6, none⟩ (.int .i64 (p1.length : Int))) := hk2.set (.inl rfl) _
    have hkf := hk1.trans (hk3.mono (S' := (fun k => k = ge ∨ k = gk ∨ v.ownBlock = some k)) (fun _ _ e => .inl e))
    have hfin : ES 3 6 64 80 85 61 59 5 ((setCells w1 ge (0 + 3) (bv p1)).setCell ⟨ge, 0 + 6, none⟩ (.int .i64 (p1.length : Int))) B ge gc gk cs v1 al pad (all ++ p) := ⟨h1.bc.kept hk3 (fun e => n1 e.symm), h1.ec, ⟨_, Bk.set hb2 _ _, by rw [← hap, hfw.2]; exact hfi⟩, h1.bk.kept hk3 (fun e => n2 e.symm), by rw [← hap, hfw.1]; have := h1.ow; rw [haw1.1] at this; exact this.kept hk3 (fun k hk e => (h1.ob k hk).2.1 e), h1.ob, h1.ne⟩
    exact E.ret2 rfl rfl rfl ⟨congrArg (fun z => Value.tuple #[.int .i64 z, .nilIface]) (by omega), v1, hfin, hkf, hv1⟩
end Go.Proofs.Ytmbglgepomeilaa
