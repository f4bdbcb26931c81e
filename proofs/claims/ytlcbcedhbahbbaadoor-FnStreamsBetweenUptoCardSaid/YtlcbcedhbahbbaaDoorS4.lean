/-
  Walk: decoder.Read (base32), what is left.
-/
import Derived.Test.YtlcbcedhbahbbaaDoorS3
import Derived.Test.YtlcbcedhbahbbaaDoorStq
import Derived.Test.YtlcbcedhbahbbaaDoorM32
namespace Go.Proofs.YtlcbcedhbahbbaaDoor
open Go.RowKit
theorem fld76_0 : Fld Tryd.prog 76 0 0 := fld_of (k := 0) Tryd.underlying76 (by kernel_rfl)
theorem fld76_6 : Fld Tryd.prog 76 6 1029 := fld_of (k := 0) Tryd.underlying76 (by kernel_rfl)
theorem ent64 : Enters Tryd.prog 64 := enters_of Tryd.func64 (by kernel_rfl) rfl

theorem decodedLen0_32_ret {w : World} {n : Nat} {pad : Int} (hp : 0 ≤ pad) (hN : n ≤ 1000000000000) :
    Ret Tryd.prog 64 #[.int .i64 (n : Int), .int .i32 pad] w fun v w' => v = .int .i64 ((n / 8 * 5 : Nat) : Int) ∧ w = w' := by
  refine ret_of Tryd.func64 rfl Tryd.ntmps64 (Nat.le_of_ble_eq_true rfl) ?_
  refine C.seq ?_
  refine C.reg ?_
  refine W.y (y_assign rfl) rfl ?_
  refine W.fin ?_
  refine E.next ?_
  refine C.seq ?_
  refine C.seq ?_
  refine C.reg ?_
  refine W.y (y_move rfl) rfl ?_
  refine W.y (y_eqlF rfl rfl (by omega)) rfl ?_
  refine W.fin ?_
  refine E.next ?_
  refine C.no rfl ?_
  refine C.skip ?_
  refine E.next ?_
  refine C.seq ?_
  refine C.reg ?_
  refine W.y (y_move rfl) rfl ?_
  refine W.y (y_quo rfl rfl (by omega) (by omega) (by omega)) rfl ?_
  refine W.y (Does.as (y_mul rfl rfl (wi64 (by omega) (by omega))) (vint (b := ((n / 8 * 5 : Nat) : Int)) (by omega))) rfl ?_
  refine W.y (y_assign rfl) rfl ?_
  refine W.fin ?_
  refine E.next ?_
  refine C.ret ?_
  exact E.ret1 rfl rfl ⟨rfl, rfl⟩
theorem decodedLen32_ret {w : World} {ge n : Nat} {cs : Array Value} {te : TypeId} {fz : Nat × Nat} {al : List UInt8} {pad : Int} (hE : Bk w ge cs te fz) (he : EncC 32 cs al pad) (hp : 0 ≤ pad) (hN : n ≤ 1000000000000) :
    Ret Tryd.prog 56 #[.pointer (some ⟨ge, 0, none⟩), .int .i64 (n : Int)] w fun v w' => v = .int .i64 ((n / 8 * 5 : Nat) : Int) ∧ w = w' := by
  refine ret_of Tryd.func56 rfl Tryd.ntmps56 (Nat.le_of_ble_eq_true rfl) ?_
  refine C.seq ?_
  refine C.reg ?_
  refine W.y (y_assign rfl) rfl ?_
  refine W.fin ?_
  refine E.next ?_
  refine C.seq ?_
  refine C.reg ?_
  refine W.y (y_move rfl) rfl ?_
  refine W.y (y_move rfl) rfl ?_
  refine W.y (y_nilp rfl) rfl ?_
  refine W.y (y_field rfl fld102_2) rfl ?_
  refine W.y (y_load rfl pl21 (Bk.at_ hE he.pad_)) rfl ?_
  refine W.call ent64 rfl (decodedLen0_32_ret hp hN) rfl ?_
  rintro _ _ ⟨rfl, rfl⟩
  refine W.y (y_assign rfl) rfl ?_
  refine W.fin ?_
  refine E.next ?_
  refine C.ret ?_
  exact E.ret1 rfl rfl ⟨rfl, rfl⟩
set_option maxRecDepth 4000 in
theorem read32A_ret {w : World} {gd gc gf gg gr gp m : Nat} {tp : TypeId} {ds ps : Array Value} {al : List UInt8} {pad : Int} {L R O : List UInt8} {vs : List Nat} {e : Bool} {ae : Addr} (hb : Bk w gd ds 76 (0, 0)) (hF : DF 640 ds .nilIface (.pointer (some ⟨gc, 0, none⟩)) (.iface 70 (.pointer (some ⟨gf, 0, none⟩))) (.bool e) L L.length) (hO : OF 640 ds gd O) (hS : Src 72 55 57 9 w gf gg gr (R)) (hL8 : L.length < 8) (hX : L ++ R = vs.map (Pl.letter al) ++ Pl.pads 8 pad vs.length) (hv : ∀ v ∈ vs, v < 32) (hq : ∃ q, vs.length = Pl.nlet 5 q) (he : e = true → vs = []) (hvl : vs.length ≤ 1000000000000)
    (hd : Dst gp gd gc gf gg gr) (hP : Bk w gp ps tp (0, 0)) (hps : ps.size = m) (hm : 1 ≤ m) (hO0 : O ≠ []) :
    Ret Tryd.prog 61 #[.pointer (some ⟨gd, 0, none⟩), .slice (some ⟨gp, 0, none⟩) m m] w fun v w' => Kp (fun k => k = gd ∨ k = gg ∨ k = gr ∨ k = gp) w w' ∧ ((O ++ Pl.unpack 5 vs = [] ∧ v = .tuple #[.int .i64 0, (.iface 116 (.pointer (some ae)))]) ∨ ∃ n : Nat, 1 ≤ n ∧ n ≤ m ∧ n ≤ (O ++ Pl.unpack 5 vs).length ∧ v = .tuple #[.int .i64 (n : Int), .nilIface] ∧ (∃ ps', Bk w' gp ps' tp (0, 0) ∧ ps'.size = m ∧ Hd ps' 0 ((O ++ Pl.unpack 5 vs).take n)) ∧ St32 76 70 72 55 57 9 w' gd gc gf gg gr al pad ((O ++ Pl.unpack 5 vs).drop n)) := by
  obtain ⟨oa, oc, ho1, ho2, ho3⟩ := hO
  obtain ⟨j, rfl, hoh, hoj⟩ := ho3.resolve_left hO0
  have hOp := List.length_pos_iff.2 hO0
  have hsz := hF.size
  obtain ⟨k, hk⟩ : ∃ k, k = Nat.min O.length m := ⟨_, rfl⟩
  have hk1 : 1 ≤ k ∧ k ≤ m ∧ k ≤ O.length := by
    have e : k = min O.length m := hk
    omega
  have hsl : (O.take k).length = k := by rw [List.length_take]; omega
  have hkp : Kp (· = gp) w (setCells w gp 0 (bv (O.take k))) := setCells_kp (S := (· = gp)) (.inl rfl) (Kp.refl _ w)
  have hb1 := hb.kept hkp hd.pd.symm
  have hP1 : Bk (setCells w gp 0 (bv (O.take k))) gp (splice ps 0 (bv (O.take k))) tp (0, 0) := setCells_bk hP
  have hb2 := Bk.set hb1 (0 + 1029) (.slice (if oc = k then some ⟨gd, 1030 + j, none⟩ else (some ⟨gd, 1030 + j, none⟩ : Option Addr).map (·.add k)) (O.length - k) (oc - k))
  have hrd : Rd w (some ⟨gd, 1030 + j, none⟩) (bv (O.take k)) := (hoh.take k).rd hb
  have hK2 : Kp (fun k => k = gd ∨ k = gg ∨ k = gr ∨ k = gp) w ((setCells w gp 0 (bv (O.take k))).setCell ⟨gd, 0 + 1029, none⟩ (.slice (if oc = k then some ⟨gd, 1030 + j, none⟩ else (some ⟨gd, 1030 + j, none⟩ : Option Addr).map (·.add k)) (O.length - k) (oc - k))) := (hkp.mono fun _ _ e => .inr (.inr (.inr e))).set (.inl (.inl rfl)) _
  skip
  skip
  have hk3 : Kp (fun x => x = gp ∨ x = gd) w ((setCells w gp 0 (bv (O.take k))).setCell ⟨gd, 0 + 1029, none⟩ (.slice (if oc = k then some ⟨gd, 1030 + j, none⟩ else (some ⟨gd, 1030 + j, none⟩ : Option Addr).map (·.add k)) (O.length - k) (oc - k))) := (hkp.mono fun _ _ e => .inl e).set (.inl (.inr rfl)) _
  have hSt : St32 76 70 72 55 57 9 ((setCells w gp 0 (bv (O.take k))).setCell ⟨gd, 0 + 1029, none⟩ (.slice (if oc = k then some ⟨gd, 1030 + j, none⟩ else (some ⟨gd, 1030 + j, none⟩ : Option Addr).map (·.add k)) (O.length - k) (oc - k))) gd gc gf gg gr al pad ((O ++ Pl.unpack 5 vs).drop k) := ⟨_, L, R, O.drop k, vs, e, hb2, hF.setO _ (by omega), OF.give hsz hoh hoj ho2 hk1.2.2 rfl, hS.kept hk3 hd.nf2 hd.ng2 hd.nr2, hL8, hX, hv, hq, he, by rw [List.drop_append_of_le_length hk1.2.2], hvl⟩
  have hPf : ∃ ps', Bk ((setCells w gp 0 (bv (O.take k))).setCell ⟨gd, 0 + 1029, none⟩ (.slice (if oc = k then some ⟨gd, 1030 + j, none⟩ else (some ⟨gd, 1030 + j, none⟩ : Option Addr).map (·.add k)) (O.length - k) (oc - k))) gp ps' tp (0, 0) ∧ ps'.size = m ∧ Hd ps' 0 ((O ++ Pl.unpack 5 vs).take k) := ⟨_, hP1.ne hd.pd _, by rw [splice_size]; exact hps, by rw [List.take_append_of_le_length hk1.2.2]; exact Hd.of_splice (by omega)⟩
  have hDl : k ≤ (O ++ Pl.unpack 5 vs).length := by rw [List.length_append]; omega
  refine ret_of Tryd.func61 rfl Tryd.ntmps61 (Nat.le_of_ble_eq_true rfl) ?_
  refine C.seq ?_
  refine C.reg ?_
  refine W.y (y_assign rfl) rfl ?_
  refine W.y (y_assign rfl) rfl ?_
  refine W.fin ?_
  refine E.next ?_
  refine C.seq ?_
  refine C.seq ?_
  refine C.reg ?_
  refine W.y (y_move rfl) rfl ?_
  refine W.y (y_nilp rfl) rfl ?_
  refine W.y (y_field rfl fld76_6) rfl ?_
  refine W.y (y_load rfl pl22 (hb.at_ ho1)) rfl ?_
  refine W.y (y_len rfl Tryd.underlying22) rfl ?_
  refine W.y (y_gtrT rfl rfl (by omega)) rfl ?_
  refine W.fin ?_
  refine E.next ?_
  refine C.yes rfl ?_
  refine C.seq ?_
  refine C.reg ?_
  refine W.y (y_move rfl) rfl ?_
  refine W.y (y_move rfl) rfl ?_
  refine W.y (y_nilp rfl) rfl ?_
  refine W.y (y_field rfl fld76_6) rfl ?_
  refine W.y (y_load rfl pl22 (hb.at_ ho1)) rfl ?_
  refine W.y (Does.as (y_copy rfl rfl (run_copyB Tryd.underlying22 siz5 hP hrd (by rw [bv_length, hsl]; exact hk) (one_u8 _) (by rw [bv_length]; omega) (.inr (Nat.zero_le _)))) (vint (b := (k : Int)) (by rw [bv_length, hsl]))) rfl ?_
  refine W.y (y_assign rfl) rfl ?_
  refine W.fin ?_
  refine E.next ?_
  refine C.seq ?_
  refine C.reg ?_
  refine W.y (y_move rfl) rfl ?_
  refine W.y (y_move rfl) rfl ?_
  refine W.y (y_nilp rfl) rfl ?_
  refine W.y (y_field rfl fld76_6) rfl ?_
  refine W.y (y_load rfl pl22 (hb1.at_ ho1)) rfl ?_
  refine W.y (y_move rfl) rfl ?_
  refine W.y (y_cutl rfl rfl Tryd.underlying22 siz5 (by omega)) rfl ?_
  refine W.y (y_nilp rfl) rfl ?_
  refine W.y (y_field rfl fld76_6) rfl ?_
  refine W.s (s_store rfl rfl rfl siz22 (hb1.at_ ho1) (Bk.melt hb1)) ?_
  refine W.fin ?_
  refine E.next ?_
  refine C.seq ?_
  refine C.seq ?_
  by_cases hz : O.length - k = 0
  · skip
    refine C.reg ?_
    refine W.y (y_move rfl) rfl ?_
    refine W.y (y_nilp rfl) rfl ?_
    refine W.y (y_field rfl fld76_6) rfl ?_
    refine W.y (y_load rfl pl22 (hb2.at_ (by rw [Array.getElem?_setIfInBounds, if_pos rfl, if_pos (by omega)]))) rfl ?_
    refine W.y (y_len rfl Tryd.underlying22) rfl ?_
    refine W.y (y_eqlT rfl rfl (by omega)) rfl ?_
    refine W.fin ?_
    refine E.next ?_
    refine C.yes rfl ?_
    refine C.seq ?_
    refine C.still mixed (by kernel_rfl) ?_
    refine S.y (y_move rfl) rfl ?_
    refine S.y (y_move rfl) rfl ?_
    refine S.y (y_nilp rfl) rfl ?_
    refine S.y (y_field rfl fld76_0) rfl ?_
    refine S.y (y_load rfl pl47 (hb2.drew.at_ (hF.setO _ (by omega)).c0)) rfl ?_
    refine S.y (y_assign rfl) rfl ?_
    refine S.y (y_assign rfl) rfl ?_
    refine S.end_ ?_
    refine E.next ?_
    refine C.ret ?_
    refine E.thenRet ?_
    refine E.thenRet ?_
    exact E.ret2 rfl rfl rfl ⟨hK2.drew, .inr ⟨k, hk1.1, hk1.2.1, hDl, rfl, hPf, hSt⟩⟩
  · skip
    refine C.reg ?_
    refine W.y (y_move rfl) rfl ?_
    refine W.y (y_nilp rfl) rfl ?_
    refine W.y (y_field rfl fld76_6) rfl ?_
    refine W.y (y_load rfl pl22 (hb2.at_ (by rw [Array.getElem?_setIfInBounds, if_pos rfl, if_pos (by omega)]))) rfl ?_
    refine W.y (y_len rfl Tryd.underlying22) rfl ?_
    refine W.y (y_eqlF rfl rfl (by omega)) rfl ?_
    refine W.fin ?_
    refine E.next ?_
    refine C.no rfl ?_
    refine C.skip ?_
    refine E.next ?_
    refine C.seq ?_
    refine C.reg ?_
    refine W.y (y_move rfl) rfl ?_
    refine W.y (y_assign rfl) rfl ?_
    refine W.y (y_assign rfl) rfl ?_
    refine W.fin ?_
    refine E.next ?_
    refine C.ret ?_
    refine E.thenRet ?_
    exact E.ret2 rfl rfl rfl ⟨hK2, .inr ⟨k, hk1.1, hk1.2.1, hDl, rfl, hPf, hSt⟩⟩
end Go.Proofs.YtlcbcedhbahbbaaDoor
