/-
  Walks: encoder.Close, NewEncoder, writeAll, write32, EncodeStream32, EncodeOpen32.
-/
import Derived.Test.YtmbglgepomeilaaWC
import Derived.Test.YtmbglgepomeilaaWB
import Derived.Test.YtmbglgepomeilaaHd
namespace Go.Proofs.Ytmbglgepomeilaa
open Go.RowKit
theorem ent30 : Enters Try.prog 30 := enters_of Try.func30 (by kernel_rfl) rfl
theorem ent38 : Enters Try.prog 38 := enters_of Try.func38 (by kernel_rfl) rfl
theorem ent39 : Enters Try.prog 39 := enters_of Try.func39 (by kernel_rfl) rfl
theorem ent70 : Enters Try.prog 70 := enters_of Try.func70 (by kernel_rfl) rfl
theorem ent71 : Enters Try.prog 71 := enters_of Try.func71 (by kernel_rfl) rfl
theorem methEnc64 : Meth Try.prog 76 "Write" 71 := fun a w => by kernel_rfl
theorem methClose64 : Meth Try.prog 76 "Close" 70 := fun a w => by kernel_rfl
theorem buildEnc64 (gc gk : Nat) (w : World) : (Instr.build 80 #[(1, .pointer (some ⟨gc, 0, none⟩)), (2, .iface 59 (.pointer (some ⟨gk, 0, none⟩)))]).run Try.prog w = .ok (.agg (((zc Try.prog 80).setIfInBounds 1 (.pointer (some ⟨gc, 0, none⟩))).setIfInBounds 2 (.iface 59 (.pointer (some ⟨gk, 0, none⟩))))) w := by kernel_rfl
theorem zcEnc64 : (zc Try.prog 80).size = 1031 ∧ (zc Try.prog 80)[0]? = some .nilIface ∧ (zc Try.prog 80)[6]? = some (.int .i64 0) := ⟨by kernel_rfl, by kernel_rfl, by kernel_rfl⟩
theorem nilEnc64 : NilA Try.prog 76 "Write" := fun a w => by kernel_rfl
theorem buildKeep (w : World) : (Instr.build 61 #[]).run Try.prog w = .ok (.agg #[.slice none 0 0]) w := by kernel_rfl

set_option maxRecDepth 4000 in
theorem encClose64_ret {w : World} {B ge gc gk : Nat} {cs : Array Value} {v : Value} {al : List UInt8} {pad : Int} {all : List UInt8} (h : ES 3 6 64 80 85 61 59 5 w B ge gc gk cs v al pad all) (hf : Fit 64 al pad) (hN : all.length ≤ 1000000000000) :
    Ret Try.prog 70 #[.pointer (some ⟨ge, 0, none⟩)] w fun r w' => r = .nilIface ∧ ∃ v', Bk w' gk #[v'] 61 (0, 0) ∧ Own w' 5 v' (bv (Pl.text 6 4 al pad all)) ∧ Kp (fun k => k = ge ∨ k = gk ∨ v.ownBlock = some k) w w' := by
  obtain ⟨es, hbe, hes⟩ := h.be
  obtain ⟨n1, n2, n3, n4, n5, n6⟩ := h.ne
  have hs0 := hes.size
  have hpl : (all.drop (all.length / 3 * 3)).length = all.length % 3 := by rw [List.length_drop]; omega
  have htx : Pl.text 6 4 al pad all = Pl.letters 6 al (all.take (all.length / 3 * 3)) ++ Pl.text 6 4 al pad (all.drop (all.length / 3 * 3)) := by
    have := text_split (bits := 6) (block := 4) (k := all.length / 3) (by omega) (al := al) (pad := pad) (a := all.take (all.length / 3 * 3)) (q := all.drop (all.length / 3 * 3)) (by rw [List.length_take]; omega)
    rwa [List.take_append_drop] at this
  generalize all.drop (all.length / 3 * 3) = pend at *
  by_cases hq : pend.length = 0
  · have hp0 : pend = [] := List.eq_nil_of_length_eq_zero hq
    have hte : Pl.text 6 4 al pad [] = [] := text_of_whole (by simp [Pl.nlet])
    rw [hp0, hte, List.append_nil] at htx
    refine ret_of Try.func70 rfl Try.ntmps70 (Nat.le_of_ble_eq_true rfl) ?_
    refine C.seq ?_
    refine C.reg ?_
    refine W.y (y_assign rfl) rfl ?_
    refine W.fin ?_
    refine E.next ?_
    refine C.seq ?_
    refine C.seq ?_
    refine C.reg ?_
    refine W.y (y_move rfl) rfl ?_
    refine W.y (y_nilp rfl) rfl ?_
    refine W.y (y_field rfl fld80_0) rfl ?_
    refine W.y (y_load rfl pl51 (Bk.at_ hbe hes.err)) rfl ?_
    refine W.y (y_eqnil rfl eqNil51) rfl ?_
    refine W.y (y_move rfl) rfl ?_
    refine W.gy rfl rfl (y_move rfl) rfl ?_
    refine W.gy rfl rfl (y_nilp rfl) rfl ?_
    refine W.gy rfl rfl (y_field rfl fld80_4) rfl ?_
    refine W.gy rfl rfl (y_load rfl pl3 (Bk.at_ hbe hes.nb)) rfl ?_
    refine W.gy rfl rfl (y_gtrF rfl rfl (by omega)) rfl ?_
    refine W.y (y_pick rfl rfl) rfl ?_
    refine W.fin ?_
    refine E.next ?_
    refine C.no rfl ?_
    refine C.skip ?_
    refine E.next ?_
    refine C.seq ?_
    refine C.reg ?_
    refine W.y (y_move rfl) rfl ?_
    refine W.y (y_nilp rfl) rfl ?_
    refine W.y (y_field rfl fld80_0) rfl ?_
    refine W.y (y_load rfl pl51 (Bk.at_ hbe hes.err)) rfl ?_
    refine W.y (y_assign rfl) rfl ?_
    refine W.fin ?_
    refine E.next ?_
    refine C.ret ?_
    exact E.ret1 rfl rfl ⟨rfl, v, h.bk, by rw [htx]; exact h.ow, Kp.refl _ _⟩
  · have hsrc : Bs w.drew ge 3 pend := Bs.of_row hbe.drew (fun j x hx => hes.buf j x hx)
    have hle := encLen64_le pad pend.length
    have htl := text_length64 (al := al) hf.lo pend
    refine ret_of Try.func70 rfl Try.ntmps70 (Nat.le_of_ble_eq_true rfl) ?_
    refine C.seq ?_
    refine C.reg ?_
    refine W.y (y_assign rfl) rfl ?_
    refine W.fin ?_
    refine E.next ?_
    refine C.seq ?_
    refine C.seq ?_
    refine C.reg ?_
    refine W.y (y_move rfl) rfl ?_
    refine W.y (y_nilp rfl) rfl ?_
    refine W.y (y_field rfl fld80_0) rfl ?_
    refine W.y (y_load rfl pl51 (Bk.at_ hbe hes.err)) rfl ?_
    refine W.y (y_eqnil rfl eqNil51) rfl ?_
    refine W.y (y_move rfl) rfl ?_
    refine W.gy rfl rfl (y_move rfl) rfl ?_
    refine W.gy rfl rfl (y_nilp rfl) rfl ?_
    refine W.gy rfl rfl (y_field rfl fld80_4) rfl ?_
    refine W.gy rfl rfl (y_load rfl pl3 (Bk.at_ hbe hes.nb)) rfl ?_
    refine W.gy rfl rfl (y_gtrT rfl rfl (by omega)) rfl ?_
    refine W.y (y_pick rfl rfl) rfl ?_
    refine W.fin ?_
    refine E.next ?_
    refine C.yes rfl ?_
    refine C.seq ?_
    refine C.stillTail 16 mixed (by kernel_rfl) ?_
    refine S.y (y_move rfl) rfl ?_
    refine S.y (y_nilp rfl) rfl ?_
    refine S.y (y_field rfl fld80_1) rfl ?_
    refine S.y (y_load rfl pl53 (Bk.at_ hbe.drew hes.enc)) rfl ?_
    refine S.y (y_move rfl) rfl ?_
    refine S.y (y_nilp rfl) rfl ?_
    refine S.y (y_field rfl fld80_5) rfl ?_
    refine S.y (y_arr rfl Try.underlying78 siz5 ) rfl ?_
    refine S.y (y_move rfl) rfl ?_
    refine S.y (y_nilp rfl) rfl ?_
    refine S.y (y_field rfl fld80_3) rfl ?_
    refine S.y (y_move rfl) rfl ?_
    refine S.y (y_nilp rfl) rfl ?_
    refine S.y (y_field rfl fld80_4) rfl ?_
    refine S.y (y_load rfl pl3 (Bk.at_ hbe.drew hes.nb)) rfl ?_
    refine S.y (y_arrh (j := pend.length) rfl rfl Try.underlying77 siz5 (by omega)) rfl ?_
    refine S.tail ?_
    refine W.call ent46 rfl (encode64_at (src := pend) h.bc.drew h.ec hf.lo hf.hi hbe.drew (fun e => n1 e.symm) (.inr ⟨rfl, hsrc⟩) rfl (by omega) (by omega) (by omega) (by omega) (by omega) (by omega)) rfl ?_
    rintro _ w2 ⟨rfl, hb2, hk2, hz2⟩
    have he2 := hes.out (by omega) (vs := bv (Pl.text 6 4 al pad pend)) (by rw [bv_length]; omega)
    have hk2I : Kp (fun k => k = ge ∨ k = gk ∨ v.ownBlock = some k) w w2 := (Kp.drew (Kp.refl _ w)).trans (hk2.mono (fun _ _ e => .inl e))
    have hbk2 := h.bk.drew.kept hk2 (fun e => n2 e.symm)
    have how2 := (h.ow.kept (Kp.refl (· = ge) w).drew (fun k hk e => (h.ob k hk).2.1 e)).kept hk2 (fun k hk e => (h.ob k hk).2.1 e)
    have hbc2 := h.bc.drew.kept hk2 (fun e => n1 e.symm)
    have hbk3 : Bk w2.drew gk #[v] 61 (0, 0) := hbk2.drew
    have how3 : Own w2.drew 5 v _ := how2.kept (Kp.refl (· = ge) w2).drew (fun k hk e => (h.ob k hk).2.1 e)
    have hrd : Rd w2.drew (some ⟨ge, 7, none⟩) (bv (Pl.text 6 4 al pad pend)) := Rd.of_bs (Bs.of_row hb2.drew (fun j x hx => by have := (bs_spliced hb2 (by omega)) j x hx; rwa [hb2.cell] at this))
    have hS0 := And.intro (Bk.at_ hb2.drew he2.enc) (And.intro (Bk.at_ hb2.drew he2.wr) (Bk.at_ hb2.drew he2.nb))
    refine W.fin ?_
    refine E.next ?_
    refine C.seq ?_
    refine C.held (fun w' => w'.cell? ⟨ge, 1, none⟩ = some (.pointer (some ⟨gc, 0, none⟩)) ∧ w'.cell? ⟨ge, 2, none⟩ = some (.iface 59 (.pointer (some ⟨gk, 0, none⟩))) ∧ w'.cell? ⟨ge, 6, none⟩ = some (.int .i64 (pend.length : Int))) mixed ?_
    refine AH.take 0 rfl (by kernel_rfl) (by kernel_rfl) (by kernel_rfl) (fun _ _ => y_move rfl) hS0 rfl ?_
    refine AH.take 1 rfl (by kernel_rfl) (by kernel_rfl) (by kernel_rfl) (fun _ _ => y_move rfl) hS0 rfl ?_
    refine AH.take 2 rfl (by kernel_rfl) (by kernel_rfl) (by kernel_rfl) (fun _ _ => y_nilp rfl) hS0 rfl ?_
    refine AH.take 3 rfl (by kernel_rfl) (by kernel_rfl) (by kernel_rfl) (fun _ _ => y_field rfl fld80_2) hS0 rfl ?_
    refine AH.take 4 rfl (by kernel_rfl) (by kernel_rfl) (by kernel_rfl) (fun _ hw => y_load rfl pl75 hw.2.1) hS0 rfl ?_
    refine AH.take 5 rfl (by kernel_rfl) (by kernel_rfl) (by kernel_rfl) (fun _ _ => y_move rfl) hS0 rfl ?_
    refine AH.take 6 rfl (by kernel_rfl) (by kernel_rfl) (by kernel_rfl) (fun _ _ => y_nilp rfl) hS0 rfl ?_
    refine AH.take 7 rfl (by kernel_rfl) (by kernel_rfl) (by kernel_rfl) (fun _ _ => y_field rfl fld80_5) hS0 rfl ?_
    refine AH.take 8 rfl (by kernel_rfl) (by kernel_rfl) (by kernel_rfl) (fun _ _ => y_move rfl) hS0 rfl ?_
    refine AH.take 9 rfl (by kernel_rfl) (by kernel_rfl) (by kernel_rfl) (fun _ _ => y_nilp rfl) hS0 rfl ?_
    refine AH.take 10 rfl (by kernel_rfl) (by kernel_rfl) (by kernel_rfl) (fun _ _ => y_field rfl fld80_1) hS0 rfl ?_
    refine AH.take 11 rfl (by kernel_rfl) (by kernel_rfl) (by kernel_rfl) (fun _ hw => y_load rfl pl53 hw.1) hS0 rfl ?_
    refine AH.take 12 rfl (by kernel_rfl) (by kernel_rfl) (by kernel_rfl) (fun _ _ => y_move rfl) hS0 rfl ?_
    refine AH.take 13 rfl (by kernel_rfl) (by kernel_rfl) (by kernel_rfl) (fun _ _ => y_nilp rfl) hS0 rfl ?_
    refine AH.take 14 rfl (by kernel_rfl) (by kernel_rfl) (by kernel_rfl) (fun _ _ => y_field rfl fld80_4) hS0 rfl ?_
    refine AH.take 15 rfl (by kernel_rfl) (by kernel_rfl) (by kernel_rfl) (fun _ hw => y_load rfl pl3 hw.2.2) hS0 rfl ?_
    refine AH.take 18 rfl (by kernel_rfl) (by kernel_rfl) (by kernel_rfl) (fun _ _ => y_nili rfl) hS0 rfl ?_
    refine AH.take 19 rfl (by kernel_rfl) (by kernel_rfl) (by kernel_rfl) (fun _ _ => y_move rfl) hS0 rfl ?_
    refine AH.oneCall 16 rfl (by kernel_rfl) ent45 rfl (encodedLen64_ret hbc2.drew h.ec (by omega)) rfl ?_
    rintro _ _ ⟨rfl, rfl⟩
    refine ⟨hS0, ?_⟩
    refine AH.take 17 rfl (by kernel_rfl) (by kernel_rfl) (by kernel_rfl) (fun _ _ => y_arrh (j := encLen64 pad pend.length) rfl rfl Try.underlying78 siz5 (by omega)) hS0 rfl ?_
    refine AH.oneInv 20 rfl (by kernel_rfl) ent69 methKeep rfl rfl (keeperWrite_ret (s := Pl.letters 6 al (all.take (all.length / 3 * 3))) (p := Pl.text 6 4 al pad pend) hbk3 how3 (fun e => (h.ob gk e).2.2.2 rfl) hrd (by omega) (by simp only [Pl.letters_length]; unfold Pl.nlet; rw [List.length_take]; omega)) rfl ?_
    rintro _ w3 ⟨rfl, v', hbk5, how5, hat5, hk5⟩
    have hb4 := hb2.drew.kept hk5 (fun e => e.elim n2 (fun e => (h.ob ge e).2.1 rfl))
    have hb5 := Bk.set hb4 0 .nilIface
    have hS1 := And.intro (Bk.at_ hb4 he2.enc) (And.intro (Bk.at_ hb4 he2.wr) (Bk.at_ hb4 he2.nb))
    have hS2 := And.intro (Bk.at_ hb5 he2.err0.enc) (And.intro (Bk.at_ hb5 he2.err0.wr) (Bk.at_ hb5 he2.err0.nb))
    have hne5 : ∀ k, v'.ownBlock = some k → k ≠ ge := by
      intro k hk e
      have q1 := hbe.lt
      have q2 := hk2I.size
      rcases hat5 with e1 | e1
      · exact (h.ob k (by rw [← e1, hk])).2.1 e
      · rw [e1] at hk; injection hk with hk; simp only [World.size_drew] at hk; omega
    refine ⟨hS1, ?_⟩
    refine AH.take 21 rfl (by kernel_rfl) (by kernel_rfl) (by kernel_rfl) (fun _ _ => y_move rfl) hS1 rfl ?_
    refine AH.take 22 rfl (by kernel_rfl) (by kernel_rfl) (by kernel_rfl) (fun _ _ => y_ext rfl rfl) hS1 rfl ?_
    refine AH.take 23 rfl (by kernel_rfl) (by kernel_rfl) (by kernel_rfl) (fun _ _ => y_ext rfl rfl) hS1 rfl ?_
    refine AH.take 24 rfl (by kernel_rfl) (by kernel_rfl) (by kernel_rfl) (fun _ _ => y_nilp rfl) hS1 rfl ?_
    refine AH.take 25 rfl (by kernel_rfl) (by kernel_rfl) (by kernel_rfl) (fun _ _ => y_field rfl fld80_0) hS1 rfl ?_
    refine AH.oneS 26 rfl (by kernel_rfl) (s_store rfl rfl rfl siz51 (Bk.some hb4 (by simp only [splice_size]; omega)) (Bk.melt hb4)) hS2 ?_
    refine AH.done (by kernel_rfl) ?_
    refine E.next ?_
    refine C.reg ?_
    refine W.y (y_move rfl) rfl ?_
    refine W.y (y_nilp rfl) rfl ?_
    refine W.y (y_field rfl fld80_4) rfl ?_
    refine W.s (s_store rfl rfl rfl siz3 (Bk.some hb5 (by simp only [Array.size_setIfInBounds, splice_size]; omega)) (Bk.melt hb5)) ?_
    refine W.fin ?_
    refine E.next ?_
    refine C.seq ?_
    refine C.reg ?_
    refine W.y (y_move rfl) rfl ?_
    refine W.y (y_nilp rfl) rfl ?_
    refine W.y (y_field rfl fld80_0) rfl ?_
    refine W.y (y_load rfl pl51 (Bk.at_ (Bk.set hb5 6 (.int .i64 0)) he2.err0.clear.err)) rfl ?_
    refine W.y (y_assign rfl) rfl ?_
    refine W.fin ?_
    refine E.next ?_
    refine C.ret ?_
    exact E.ret1 rfl rfl ⟨rfl, v', Bk.ne (Bk.ne hbk5 (fun e => n2 e.symm) _) (fun e => n2 e.symm) _, by rw [htx, bv_append]; rw [bv_append] at how5; exact how5.kept (S := (· = ge)) (Kp.set (Kp.set (Kp.refl (· = ge) w3) (.inl rfl) _) (.inl rfl) _) hne5, Kp.set (Kp.set ((hk2I.drew).trans (hk5.mono (fun _ _ e => .inr e))) (.inl (.inl rfl)) _) (.inl (.inl rfl)) _⟩
set_option maxRecDepth 4000 in
theorem newEncoder64_ret {w : World} {gc gk : Nat} : Ret Try.prog 38 #[.pointer (some ⟨gc, 0, none⟩), .iface 59 (.pointer (some ⟨gk, 0, none⟩))] w fun r w' => r = .iface 76 (.pointer (some ⟨w.heap.size, 0, none⟩)) ∧
    (∃ es, Bk w' w.heap.size es 80 (0, 0) ∧ Es 3 es gc gk 59 []) ∧ Kp (fun _ => False) w w' ∧ w'.heap.size = w.heap.size + 1 := by
  obtain ⟨z1, z2, z3⟩ := zcEnc64
  have hbd := fun w => buildEnc64 gc gk w
  generalize zc Try.prog 80 = Z at hbd z1 z2 z3
  refine ret_of Try.func38 rfl Try.ntmps38 (Nat.le_of_ble_eq_true rfl) ?_
  refine C.seq ?_
  refine C.reg ?_
  refine W.y (y_assign rfl) rfl ?_
  refine W.fin ?_
  refine E.next ?_
  refine C.seq ?_
  refine C.reg ?_
  refine W.y (y_move rfl) rfl ?_
  refine W.y (y_move rfl) rfl ?_
  refine W.y (y_build2 rfl rfl (hbd _)) rfl ?_
  refine W.y (y_box rfl) rfl ?_
  refine W.y (y_iff rfl Try.underlying76 rfl) rfl ?_
  refine W.y (y_assign rfl) rfl ?_
  refine W.fin ?_
  refine E.next ?_
  refine C.ret ?_
  have hEs : Es 3 ((Z.setIfInBounds 1 (.pointer (some ⟨gc, 0, none⟩))).setIfInBounds 2 (.iface 59 (.pointer (some ⟨gk, 0, none⟩)))) gc gk 59 [] := by
    refine ⟨by rw [Array.size_setIfInBounds, Array.size_setIfInBounds, z1], ?_, ?_, ?_, ?_, fun i c hi => by simp at hi⟩
    · rw [Array.getElem?_setIfInBounds, if_neg (by omega), Array.getElem?_setIfInBounds, if_neg (by omega)]; exact z2
    · rw [Array.getElem?_setIfInBounds, if_neg (by omega), Array.getElem?_setIfInBounds, if_pos rfl, if_pos (by omega)]
    · rw [Array.getElem?_setIfInBounds, if_pos rfl, if_pos (by simp only [Array.size_setIfInBounds]; omega)]
    · rw [Array.getElem?_setIfInBounds, if_neg (by omega), Array.getElem?_setIfInBounds, if_neg (by omega)]; exact z3
  exact E.ret1 rfl rfl ⟨rfl, ⟨_, Bk.new w _ 80, hEs⟩, (Kp.refl _ w).alloc _, by simp⟩
theorem writeAll64_ret {w : World} {B ge gc gk c n : Nat} {A : Option Addr} {cs : Array Value} {v : Value} {al : List UInt8} {pad : Int} {all : List UInt8} {ps : List (List UInt8)} (h : ES 3 6 64 80 85 61 59 5 w B ge gc gk cs v al pad all) (hf : Fit 64 al pad) (hP : Pcs B w A ps) (hn : ps.length = n)
    (hN : all.length + ps.flatten.length ≤ 1000000000000) (hN2 : ps.length ≤ 1000000000000) :
    Ret Try.prog 39 #[.iface 76 (.pointer (some ⟨ge, 0, none⟩)), .slice A n c] w fun r w' => r = .int .i64 (ps.flatten.length : Int) ∧ ∃ v', ES 3 6 64 80 85 61 59 5 w' B ge gc gk cs v' al pad (all ++ ps.flatten) ∧ Kp (fun k => B ≤ k) w w' := by
  subst hn
  refine ret_of Try.func39 rfl Try.ntmps39 (Nat.le_of_ble_eq_true rfl) ?_
  refine C.seq ?_
  refine C.reg ?_
  refine W.y (y_assign rfl) rfl ?_
  refine W.fin ?_
  refine E.next ?_
  refine C.seq ?_
  refine C.reg ?_
  refine W.y (y_assign rfl) rfl ?_
  refine W.fin ?_
  refine E.next ?_
  refine C.seq ?_
  refine C.seq ?_
  refine C.reg ?_
  refine W.y (y_move rfl) rfl ?_
  refine W.y (y_len rfl Try.underlying22) rfl ?_
  refine W.y (y_move rfl) rfl ?_
  refine W.fin ?_
  refine E.next ?_
  refine C.block ?_
  refine C.loop (σ := Nat × Value) (fun (i, vi) w' => i ≤ ps.length ∧ ES 3 6 64 80 85 61 59 5 w' B ge gc gk cs vi al pad (all ++ (ps.take i).flatten) ∧ Kp (fun k => B ≤ k) w w') (fun (i, _) => [(0, .iface 76 (.pointer (some ⟨ge, 0, none⟩))), (5, .int .i64 ((ps.take i).flatten.length : Int)), (10, .slice A ps.length c), (11, .int .i64 (ps.length : Int)), (12, .int .i64 (i : Int))]) (fun (i, _) => ps.length - i) (0, v) ?_ ?_ ?_
  · exact ⟨by omega, by simpa using h, Kp.refl _ _⟩
  · exact (Sub.cons rfl (Sub.cons rfl (Sub.cons rfl (Sub.cons rfl (Sub.cons rfl (Sub.nil _))))))
  rintro ⟨i, vi⟩ wi ⟨hi, hs, hk⟩
  show C _ _ _ _ [(0, .iface 76 (.pointer (some ⟨ge, 0, none⟩))), (5, .int .i64 ((ps.take i).flatten.length : Int)), (10, .slice A ps.length c), (11, .int .i64 (ps.length : Int)), (12, .int .i64 (i : Int))] _
  have hfl := flat_take_le (ps := ps) (i := i)
  by_cases hlt : i < ps.length
  · obtain ⟨p, hp⟩ : ∃ p, ps[i]? = some p := ⟨_, List.getElem?_eq_getElem hlt⟩
    have hft := flat_take hp
    have hfl2 := flat_take_le (ps := ps) (i := i + 1)
    have hpl : (ps.take i).flatten.length + p.length ≤ ps.flatten.length := by rw [hft, List.length_append] at hfl2; exact hfl2
    obtain ⟨g, o, rfl, hg, hcs⟩ := (hP.kept hk).resolve_left (fun e => by rw [e] at hlt; simp at hlt)
    obtain ⟨A', c', hcell, hc', hrd, hlow⟩ := hcs i p hp
    obtain ⟨es, hbe, _⟩ := hs.be
    obtain ⟨v1, w1, hr1, ho1, hg1, ha1⟩ := run_app (w := wi.drew) (ty := 24) (c := c') el24 (Own.nil wi.drew 5) hrd.drew (one_u8 p) (by simp only [bv_length, List.length_nil]; omega) (by omega)
    rw [bv_length] at hr1
    rw [List.nil_append] at ho1
    obtain ⟨A1, c1, rfl, hrd1, hcap1, hob1⟩ := ho1.slice
    rw [bv_length] at hr1 hcap1
    have hk1 : Kp (fun _ => False) wi w1 := (Kp.drew (Kp.refl _ wi)).grown hg1 (fun _ e => by cases e)
    have hs1 : ES 3 6 64 80 85 61 59 5 w1 B ge gc gk cs vi al pad (all ++ (ps.take i).flatten) := ⟨hs.bc.kept hk1 id, hs.ec, (by obtain ⟨e, h1, h2⟩ := hs.be; exact ⟨e, h1.kept hk1 id, h2⟩), hs.bk.kept hk1 id, hs.ow.kept hk1 (fun _ _ => id), hs.ob, hs.ne⟩
    have hA1 : ∀ a : Addr, A1 = some a → a.block ≠ ge ∧ a.block ≠ gk ∧ vi.ownBlock ≠ some a.block := by
      intro a ha
      have e1 := hob1 a ha
      have e2 : a.block = wi.heap.size := by
        rcases ha1 with e | e
        · rw [e1] at e; cases e
        · rw [e1] at e; injection e
      have q1 := hbe.lt
      have q2 := hs.bk.lt
      refine ⟨by omega, by omega, fun e => ?_⟩
      have := hs.ow.lt e
      omega
    refine C.seq ?_
    refine C.reg ?_
    refine W.y (y_lssT rfl rfl (by omega)) rfl ?_
    refine W.fin ?_
    refine E.next ?_
    refine C.seq ?_
    refine C.yes rfl ?_
    refine C.skip ?_
    refine E.next ?_
    refine C.seq ?_
    refine C.block ?_
    refine C.seq ?_
    refine C.reg ?_
    refine W.y (y_ixn rfl rfl Try.underlying22 siz24 (by omega)) rfl ?_
    refine W.y (y_load rfl pl24 hcell) rfl ?_
    refine W.y (y_assign rfl) rfl ?_
    refine W.fin ?_
    refine E.next ?_
    refine C.seq ?_
    refine C.any mixed ?_
    refine AN.take 0 rfl (by kernel_rfl) (by kernel_rfl) (by kernel_rfl) (fun _ => y_move rfl) rfl ?_
    refine AN.take 1 rfl (by kernel_rfl) (by kernel_rfl) (by kernel_rfl) (fun _ => y_move rfl) rfl ?_
    refine AN.take 3 rfl (by kernel_rfl) (by kernel_rfl) (by kernel_rfl) (fun _ => y_mkf rfl) rfl ?_
    refine AN.take 4 rfl (by kernel_rfl) (by kernel_rfl) (by kernel_rfl) (fun _ => y_nilm rfl nilEnc64) rfl ?_
    refine AN.take 5 rfl (by kernel_rfl) (by kernel_rfl) (by kernel_rfl) (fun _ => y_move rfl) rfl ?_
    refine AN.one 2 rfl (by kernel_rfl) (y_app rfl rfl hr1) rfl ?_
    refine AN.oneInv 6 rfl (by kernel_rfl) ent71 methEnc64 rfl rfl (encWrite64_ret hs1 hf hrd1 hA1 hcap1 rfl (by rw [List.length_append]; omega)) rfl ?_
    rintro _ w2 ⟨rfl, v2, hs2, hk2, _⟩
    refine AN.take 7 rfl (by kernel_rfl) (by kernel_rfl) (by kernel_rfl) (fun _ => y_move rfl) rfl ?_
    refine AN.take 8 rfl (by kernel_rfl) (by kernel_rfl) (by kernel_rfl) (fun _ => y_ext rfl rfl) rfl ?_
    refine AN.take 9 rfl (by kernel_rfl) (by kernel_rfl) (by kernel_rfl) (fun _ => y_ext rfl rfl) rfl ?_
    refine AN.take 10 rfl (by kernel_rfl) (by kernel_rfl) (by kernel_rfl) (fun _ => y_assign rfl) rfl ?_
    refine AN.take 11 rfl (by kernel_rfl) (by kernel_rfl) (by kernel_rfl) (fun _ => y_assign rfl) rfl ?_
    refine AN.done (by kernel_rfl) ?_
    refine E.next ?_
    refine C.seq ?_
    refine C.seq ?_
    refine C.reg ?_
    refine W.y (y_move rfl) rfl ?_
    refine W.y (y_nenil rfl eqNil51) rfl ?_
    refine W.fin ?_
    refine E.next ?_
    refine C.no rfl ?_
    refine C.skip ?_
    refine E.next ?_
    refine C.reg ?_
    refine W.y (y_move rfl) rfl ?_
    refine W.y (y_move rfl) rfl ?_
    refine W.y (y_add rfl rfl (wi64 (by omega) (by omega))) rfl ?_
    refine W.y (y_assign rfl) rfl ?_
    refine W.fin ?_
    refine E.blockNormal ?_
    refine E.next ?_
    refine C.reg ?_
    refine W.y (y_add rfl rfl (wi64 (by omega) (by omega))) rfl ?_
    refine W.y (y_move rfl) rfl ?_
    refine W.fin ?_
    refine E.again (i + 1, v2) ⟨by omega, by rw [hft, ← List.append_assoc]; exact hs2, ?_⟩ (Sub.cons rfl (Sub.cons (congrArg (fun z => some (Value.int .i64 z)) (by rw [hft, List.length_append]; omega)) (Sub.cons rfl (Sub.cons rfl (Sub.cons rfl (Sub.nil _)))))) (by show ps.length - (i + 1) < ps.length - i; omega)
    exact (hk.trans (hk1.mono (fun _ _ e => e.elim))).trans (hk2.mono (fun k _ e => by
      rcases e with e | e | e
      · rw [e]; exact hs.ne.2.2.2.1
      · rw [e]; exact hs.ne.2.2.2.2.2
      · exact (hs.ob k e).1))
  · have hi2 : ps.take i = ps := List.take_of_length_le (by omega)
    rw [hi2] at hs
    refine C.seq ?_
    refine C.reg ?_
    refine W.y (y_lssF rfl rfl (by omega)) rfl ?_
    refine W.fin ?_
    refine E.next ?_
    refine C.seq ?_
    refine C.no rfl ?_
    refine C.exit ?_
    refine E.thenExit ?_
    refine E.thenExit ?_
    refine E.blockOut ?_
    refine E.next ?_
    refine C.seq ?_
    refine C.reg ?_
    refine W.y (y_move rfl) rfl ?_
    refine W.y (y_assign rfl) rfl ?_
    refine W.fin ?_
    refine E.next ?_
    refine C.ret ?_
    exact E.ret1 rfl rfl ⟨by rw [hi2], vi, hs, hk⟩
set_option maxRecDepth 4000 in
theorem write64_ret {w : World} {c n : Nat} {A : Option Addr} {al : List UInt8} {pad : Int} {ps : List (List UInt8)} (hf : Fit 64 al pad) (hP : Pcs w.heap.size w A ps) (hn : ps.length = n) (hN : ps.flatten.length ≤ 1000000000) (hN2 : ps.length ≤ 1000000000) (cl : Bool) :
    Ret Try.prog 30 #[str al, .int .i64 pad, .slice A n c, .bool cl] w fun r w' =>
      r = .tuple #[str (bif cl then Pl.text 6 4 al pad ps.flatten else Pl.letters 6 al (ps.flatten.take (ps.flatten.length / 3 * 3))), .int .i64 (ps.flatten.length : Int)] ∧ Kp (fun _ => False) w w' := by
  have hlo := hf.lo
  have hk0 : Bk (w.alloc (.cells #[.slice none 0 0] 61)) w.heap.size #[.slice none 0 0] 61 (0, 0) := Bk.new _ _ _
  have hkk : Kp (fun _ => False) w (w.alloc (.cells #[.slice none 0 0] 61)) := (Kp.refl _ w).alloc _
  have hle := encLen64_le pad ps.flatten.length
  have htl := text_length64 (al := al) hf.lo ps.flatten
  refine ret_of Try.func30 rfl Try.ntmps30 (Nat.le_of_ble_eq_true rfl) ?_
  refine C.seq ?_
  refine C.reg ?_
  refine W.y (y_assign rfl) rfl ?_
  refine W.y (y_assign rfl) rfl ?_
  refine W.fin ?_
  refine E.next ?_
  refine C.seq ?_
  refine C.reg ?_
  refine W.y (y_build0 (buildKeep _)) rfl ?_
  refine W.y (y_box rfl) rfl ?_
  refine W.y (y_assign rfl) rfl ?_
  refine W.fin ?_
  refine E.next ?_
  refine C.seq ?_
  refine C.reg ?_
  refine W.y (y_move rfl) rfl ?_
  refine W.y (y_move rfl) rfl ?_
  refine W.call ent34 rfl (encoding64_ret hf false) rfl ?_
  rintro _ w1 ⟨gc, cs, rfl, hgc, hbc, hec, _, hk1⟩
  refine W.y (y_move rfl) rfl ?_
  refine W.y (y_iff rfl Try.underlying59 rfl) rfl ?_
  refine W.call ent38 rfl newEncoder64_ret rfl ?_
  rintro _ w2 ⟨rfl, ⟨es, hbe, hes⟩, hk2, hz2⟩
  have hz1 := hk1.size
  simp only [World.size_alloc] at hz1
  have hq1 := hbc.lt
  have hS : ES 3 6 64 80 85 61 59 5 w2 w.heap.size w1.heap.size gc w.heap.size cs (.slice none 0 0) al pad [] := ⟨hbc.kept hk2 id, hec, ⟨es, hbe, by simpa using hes⟩, (hk0.kept hk1 id).kept hk2 id, by simpa [Pl.letters, Pl.nums, Pl.nlet, bv] using Own.nil w2 5, (fun k e => by cases e), ⟨by omega, by omega, by simp only [World.size_alloc] at hgc; omega, by omega, by simp only [World.size_alloc] at hgc; omega, Nat.le_refl _⟩⟩
  have hK2 : Kp (fun _ => False) w w2 := (hkk.trans hk1).trans hk2
  have hP2 := hP.kept (hK2.mono (fun _ _ e => e.elim))
  refine W.y (y_assign rfl) rfl ?_
  refine W.fin ?_
  refine E.next ?_
  refine C.seq ?_
  refine C.reg ?_
  refine W.y (y_move rfl) rfl ?_
  refine W.y (y_move rfl) rfl ?_
  refine W.call ent39 rfl (writeAll64_ret hS hf hP2 hn (by simp only [List.length_nil]; omega) (by omega)) rfl ?_
  rintro _ w3 ⟨rfl, v3, hS3, hk3⟩
  rw [List.nil_append] at hS3
  have hK3 : Kp (fun _ => False) w w3 := hK2.trans' hk3 (fun k hk e => by have : w.heap.size ≤ k := e; omega)
  refine W.y (y_assign rfl) rfl ?_
  refine W.fin ?_
  refine E.next ?_
  refine C.seq ?_
  refine C.seq ?_
  cases cl
  · obtain ⟨A3, c3, rfl, hrd3, _, _⟩ := hS3.ow.slice
    have hcv := run_b2s (P := Try.prog) (t := 24) (t' := 9) (c := c3) Try.underlying24 Try.underlying5 Try.underlying9 hrd3
    rw [← bv_length] at hcv
    refine C.reg ?_
    refine W.y (y_move rfl) rfl ?_
    refine W.y (y_move rfl) rfl ?_
    refine W.gn rfl rfl rfl ?_
    refine W.gn rfl rfl rfl ?_
    refine W.gn rfl rfl rfl ?_
    refine W.y (y_pick rfl rfl) rfl ?_
    refine W.fin ?_
    refine E.next ?_
    refine C.no rfl ?_
    refine C.skip ?_
    refine E.next ?_
    refine C.seq ?_
    refine C.reg ?_
    refine W.y (y_move rfl) rfl ?_
    refine W.y (y_nilp rfl) rfl ?_
    refine W.y (y_field rfl fld61_0) rfl ?_
    refine W.y (y_load rfl pl24 (Bk.at_ hS3.bk rfl)) rfl ?_
    refine W.y (y_cvt rfl hcv) rfl ?_
    refine W.y (y_move rfl) rfl ?_
    refine W.y (y_assign rfl) rfl ?_
    refine W.y (y_assign rfl) rfl ?_
    refine W.fin ?_
    refine E.next ?_
    refine C.ret ?_
    exact E.ret2 rfl rfl rfl ⟨rfl, hK3⟩
  · skip
    refine C.reg ?_
    refine W.y (y_move rfl) rfl ?_
    refine W.y (y_move rfl) rfl ?_
    refine W.gy rfl rfl (y_move rfl) rfl ?_
    refine W.gInv rfl rfl ent70 methClose64 rfl rfl (encClose64_ret hS3 hf (by omega)) rfl ?_
    rintro _ w4 ⟨rfl, v4, hbk4, how4, hk4⟩
    obtain ⟨A4, c4, rfl, hrd4, _, _⟩ := how4.slice
    have hcv := run_b2s (P := Try.prog) (t := 24) (t' := 9) (c := c4) Try.underlying24 Try.underlying5 Try.underlying9 hrd4
    rw [← bv_length] at hcv
    refine W.gy rfl rfl (y_nenil rfl eqNil51) rfl ?_
    refine W.y (y_pick rfl rfl) rfl ?_
    refine W.fin ?_
    refine E.next ?_
    refine C.no rfl ?_
    refine C.skip ?_
    refine E.next ?_
    refine C.seq ?_
    refine C.reg ?_
    refine W.y (y_move rfl) rfl ?_
    refine W.y (y_nilp rfl) rfl ?_
    refine W.y (y_field rfl fld61_0) rfl ?_
    refine W.y (y_load rfl pl24 (Bk.at_ hbk4 rfl)) rfl ?_
    refine W.y (y_cvt rfl hcv) rfl ?_
    refine W.y (y_move rfl) rfl ?_
    refine W.y (y_assign rfl) rfl ?_
    refine W.y (y_assign rfl) rfl ?_
    refine W.fin ?_
    refine E.next ?_
    refine C.ret ?_
    exact E.ret2 rfl rfl rfl ⟨rfl, hK3.trans' hk4 (fun k hk e => by
      rcases e with e | e | e
      · have := hS3.ne.2.2.2.1; omega
      · have := hS3.ne.2.2.2.2.2; omega
      · have := (hS3.ob k e).1; omega)⟩
theorem encodeStream64_ret {w : World} {c n : Nat} {A : Option Addr} {al : List UInt8} {pad : Int} {ps : List (List UInt8)} (hf : Fit 64 al pad) (hP : Pcs w.heap.size w A ps) (hn : ps.length = n) (hN : ps.flatten.length ≤ 1000000000) (hN2 : ps.length ≤ 1000000000) :
    Ret Try.prog 19 #[str al, .int .i64 pad, .slice A n c] w fun r w' => r = .tuple #[str (Pl.text 6 4 al pad ps.flatten), .int .i64 (ps.flatten.length : Int)] ∧ Kp (fun _ => False) w w' := by
  refine ret_of Try.func19 rfl Try.ntmps19 (Nat.le_of_ble_eq_true rfl) ?_
  refine C.seq ?_
  refine C.reg ?_
  refine W.y (y_assign rfl) rfl ?_
  refine W.y (y_assign rfl) rfl ?_
  refine W.fin ?_
  refine E.next ?_
  refine C.seq ?_
  refine C.reg ?_
  refine W.y (y_move rfl) rfl ?_
  refine W.y (y_move rfl) rfl ?_
  refine W.y (y_move rfl) rfl ?_
  refine W.call ent30 rfl (write64_ret hf hP hn hN hN2 true) rfl ?_
  rintro _ w1 ⟨rfl, hk1⟩
  refine W.y (y_ext rfl rfl) rfl ?_
  refine W.y (y_ext rfl rfl) rfl ?_
  refine W.y (y_assign rfl) rfl ?_
  refine W.y (y_assign rfl) rfl ?_
  refine W.fin ?_
  refine E.next ?_
  refine C.ret ?_
  exact E.ret2 rfl rfl rfl ⟨rfl, hk1⟩
theorem encodeOpen64_ret {w : World} {c n : Nat} {A : Option Addr} {al : List UInt8} {pad : Int} {ps : List (List UInt8)} (hf : Fit 64 al pad) (hP : Pcs w.heap.size w A ps) (hn : ps.length = n) (hN : ps.flatten.length ≤ 1000000000) (hN2 : ps.length ≤ 1000000000) :
    Ret Try.prog 17 #[str al, .int .i64 pad, .slice A n c] w fun r w' => r = .tuple #[str (Pl.letters 6 al (ps.flatten.take (ps.flatten.length / 3 * 3))), .int .i64 (ps.flatten.length : Int)] ∧ Kp (fun _ => False) w w' := by
  refine ret_of Try.func17 rfl Try.ntmps17 (Nat.le_of_ble_eq_true rfl) ?_
  refine C.seq ?_
  refine C.reg ?_
  refine W.y (y_assign rfl) rfl ?_
  refine W.y (y_assign rfl) rfl ?_
  refine W.fin ?_
  refine E.next ?_
  refine C.seq ?_
  refine C.reg ?_
  refine W.y (y_move rfl) rfl ?_
  refine W.y (y_move rfl) rfl ?_
  refine W.y (y_move rfl) rfl ?_
  refine W.call ent30 rfl (write64_ret hf hP hn hN hN2 false) rfl ?_
  rintro _ w1 ⟨rfl, hk1⟩
  refine W.y (y_ext rfl rfl) rfl ?_
  refine W.y (y_ext rfl rfl) rfl ?_
  refine W.y (y_assign rfl) rfl ?_
  refine W.y (y_assign rfl) rfl ?_
  refine W.fin ?_
  refine E.next ?_
  refine C.ret ?_
  exact E.ret2 rfl rfl rfl ⟨rfl, hk1⟩
end Go.Proofs.Ytmbglgepomeilaa
