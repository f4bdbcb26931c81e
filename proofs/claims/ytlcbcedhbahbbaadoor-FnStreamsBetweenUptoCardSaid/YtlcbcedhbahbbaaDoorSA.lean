/-
  Walk: decoder.Read (base64).
-/
import Derived.Test.YtlcbcedhbahbbaaDoorS9
namespace Go.Proofs.YtlcbcedhbahbbaaDoor
open Go.RowKit
theorem fld86_0 : Fld Tryd.prog 86 0 0 := fld_of (k := 0) Tryd.underlying86 (by kernel_rfl)
theorem fld86_1 : Fld Tryd.prog 86 1 1 := fld_of (k := 0) Tryd.underlying86 (by kernel_rfl)
theorem fld86_2 : Fld Tryd.prog 86 2 2 := fld_of (k := 0) Tryd.underlying86 (by kernel_rfl)
theorem fld86_3 : Fld Tryd.prog 86 3 3 := fld_of (k := 0) Tryd.underlying86 (by kernel_rfl)
theorem fld86_4 : Fld Tryd.prog 86 4 4 := fld_of (k := 1023) Tryd.underlying86 (by kernel_rfl)
theorem fld86_5 : Fld Tryd.prog 86 5 1028 := fld_of (k := 0) Tryd.underlying86 (by kernel_rfl)
theorem fld86_6 : Fld Tryd.prog 86 6 1029 := fld_of (k := 0) Tryd.underlying86 (by kernel_rfl)
theorem fld86_7 : Fld Tryd.prog 86 7 1030 := fld_of (k := 767) Tryd.underlying86 (by kernel_rfl)
theorem ent68 : Enters Tryd.prog 68 := enters_of Tryd.func68 (by kernel_rfl) rfl
theorem ent74 : Enters Tryd.prog 74 := enters_of Tryd.func74 (by kernel_rfl) rfl
theorem methFil64 : Meth Tryd.prog 81 "Read" 74 := fun a w => by kernel_rfl

set_option maxRecDepth 4000 in
theorem read64A_ret {w : World} {gd gc gf gg gr gp m : Nat} {tp : TypeId} {ds ps : Array Value} {al : List UInt8} {pad : Int} {st : Bool} {L R O : List UInt8} {vs : List Nat} {re : Bool} {ae : Addr} (hb : Bk w gd ds 86 (0, 0)) (hF : DF 768 ds .nilIface (bif re then ((.iface 116 (.pointer (some ae))) : Value) else .nilIface) (.pointer (some ⟨gc, 0, none⟩)) (.iface 81 (.pointer (some ⟨gf, 0, none⟩))) L L.length) (hO : OF 768 ds gd O) (hS : Src 83 55 57 9 w gf gg gr (R)) (hL4 : L.length < 4) (hre : re = true → R = []) (hX : L ++ R = vs.map (Pl.letter al) ++ Pl.pads 4 pad vs.length) (hv : ∀ v ∈ vs, v < 64) (hq : ∃ q, vs.length = Pl.nlet 6 q) (hzs : st = true → ∃ s, vs = Pl.nums 6 s) (hvl : vs.length ≤ 1000000000000)
    (hd : Dst gp gd gc gf gg gr) (hP : Bk w gp ps tp (0, 0)) (hps : ps.size = m) (hm : 1 ≤ m) (hO0 : O ≠ []) :
    Ret Tryd.prog 67 #[.pointer (some ⟨gd, 0, none⟩), .slice (some ⟨gp, 0, none⟩) m m] w fun v w' => Kp (fun k => k = gd ∨ k = gg ∨ k = gr ∨ k = gp) w w' ∧ ((O ++ Pl.unpack 6 vs = [] ∧ v = .tuple #[.int .i64 0, (.iface 116 (.pointer (some ae)))]) ∨ ∃ n : Nat, 1 ≤ n ∧ n ≤ m ∧ n ≤ (O ++ Pl.unpack 6 vs).length ∧ v = .tuple #[.int .i64 (n : Int), .nilIface] ∧ (∃ ps', Bk w' gp ps' tp (0, 0) ∧ ps'.size = m ∧ Hd ps' 0 ((O ++ Pl.unpack 6 vs).take n)) ∧ St64 86 81 83 55 57 9 w' gd gc gf gg gr al pad st (.iface 116 (.pointer (some ae))) ((O ++ Pl.unpack 6 vs).drop n)) := by
  obtain ⟨oa, oc, ho1, ho2, ho3⟩ := hO
  obtain ⟨j, rfl, hoh, hoj⟩ := ho3.resolve_left hO0
  have hOp := List.length_pos_iff.2 hO0
  have hsz := hF.size
  obtain ⟨k, hk⟩ : ∃ k, k = Nat.min O.length m := ⟨_, rfl⟩
  have hk1 : 1 ≤ k ∧ k ≤ m ∧ k ≤ O.length := by
    have e : k = min O.length m := hk
    omega
  have hsl : (O.take k).length = k := by rw [List.length_take]; omega
  have hkp : Kp (· = gp) w (setCells w gp 0 (bv (O.take k))) := setCells_kp (S := (· = gp)) (.inl rfl) (Kp.refl _ w)
  have hb1 := hb.kept hkp hd.pd.symm
  have hP1 : Bk (setCells w gp 0 (bv (O.take k))) gp (splice ps 0 (bv (O.take k))) tp (0, 0) := setCells_bk hP
  have hb2 := Bk.set hb1 (0 + 1029) (.slice (if oc = k then some ⟨gd, 1030 + j, none⟩ else (some ⟨gd, 1030 + j, none⟩ : Option Addr).map (·.add k)) (O.length - k) (oc - k))
  have hrd : Rd w (some ⟨gd, 1030 + j, none⟩) (bv (O.take k)) := (hoh.take k).rd hb
  have hK2 : Kp (fun k => k = gd ∨ k = gg ∨ k = gr ∨ k = gp) w ((setCells w gp 0 (bv (O.take k))).setCell ⟨gd, 0 + 1029, none⟩ (.slice (if oc = k then some ⟨gd, 1030 + j, none⟩ else (some ⟨gd, 1030 + j, none⟩ : Option Addr).map (·.add k)) (O.length - k) (oc - k))) := (hkp.mono fun _ _ e => .inr (.inr (.inr e))).set (.inl (.inl rfl)) _
  have hk3 : Kp (fun x => x = gp ∨ x = gd) w ((setCells w gp 0 (bv (O.take k))).setCell ⟨gd, 0 + 1029, none⟩ (.slice (if oc = k then some ⟨gd, 1030 + j, none⟩ else (some ⟨gd, 1030 + j, none⟩ : Option Addr).map (·.add k)) (O.length - k) (oc - k))) := (hkp.mono fun _ _ e => .inl e).set (.inl (.inr rfl)) _
  have hSt : St64 86 81 83 55 57 9 ((setCells w gp 0 (bv (O.take k))).setCell ⟨gd, 0 + 1029, none⟩ (.slice (if oc = k then some ⟨gd, 1030 + j, none⟩ else (some ⟨gd, 1030 + j, none⟩ : Option Addr).map (·.add k)) (O.length - k) (oc - k))) gd gc gf gg gr al pad st (.iface 116 (.pointer (some ae))) ((O ++ Pl.unpack 6 vs).drop k) := ⟨_, L, R, O.drop k, vs, re, hb2, hF.setO _ (by omega), OF.give hsz hoh hoj ho2 hk1.2.2 rfl, hS.kept hk3 hd.nf2 hd.ng2 hd.nr2, hL4, hre, hX, hv, hq, hzs, by rw [List.drop_append_of_le_length hk1.2.2], hvl⟩
  have hPf : ∃ ps', Bk ((setCells w gp 0 (bv (O.take k))).setCell ⟨gd, 0 + 1029, none⟩ (.slice (if oc = k then some ⟨gd, 1030 + j, none⟩ else (some ⟨gd, 1030 + j, none⟩ : Option Addr).map (·.add k)) (O.length - k) (oc - k))) gp ps' tp (0, 0) ∧ ps'.size = m ∧ Hd ps' 0 ((O ++ Pl.unpack 6 vs).take k) := ⟨_, hP1.ne hd.pd _, by rw [splice_size]; exact hps, by rw [List.take_append_of_le_length hk1.2.2]; exact Hd.of_splice (by omega)⟩
  have hDl : k ≤ (O ++ Pl.unpack 6 vs).length := by rw [List.length_append]; omega
  refine ret_of Tryd.func67 rfl Tryd.ntmps67 (Nat.le_of_ble_eq_true rfl) ?_
  refine C.seq ?_
  refine C.reg ?_
  refine W.y (y_assign rfl) rfl ?_
  refine W.y (y_assign rfl) rfl ?_
  refine W.fin ?_
  refine E.next ?_
  refine C.seq ?_
  refine C.seq ?_
  refine C.reg ?_
  refine W.y (y_move rfl) rfl ?_
  refine W.y (y_nilp rfl) rfl ?_
  refine W.y (y_field rfl fld86_6) rfl ?_
  refine W.y (y_load rfl pl22 (hb.at_ ho1)) rfl ?_
  refine W.y (y_len rfl Tryd.underlying22) rfl ?_
  refine W.y (y_gtrT rfl rfl (by omega)) rfl ?_
  refine W.fin ?_
  refine E.next ?_
  refine C.yes rfl ?_
  refine C.seq ?_
  refine C.reg ?_
  refine W.y (y_move rfl) rfl ?_
  refine W.y (y_move rfl) rfl ?_
  refine W.y (y_nilp rfl) rfl ?_
  refine W.y (y_field rfl fld86_6) rfl ?_
  refine W.y (y_load rfl pl22 (hb.at_ ho1)) rfl ?_
  refine W.y (Does.as (y_copy rfl rfl (run_copyB Tryd.underlying22 siz5 hP hrd (by rw [bv_length, hsl]; exact hk) (one_u8 _) (by rw [bv_length]; omega) (.inr (Nat.zero_le _)))) (vint (b := (k : Int)) (by rw [bv_length, hsl]))) rfl ?_
  refine W.y (y_assign rfl) rfl ?_
  refine W.fin ?_
  refine E.next ?_
  refine C.seq ?_
  refine C.reg ?_
  refine W.y (y_move rfl) rfl ?_
  refine W.y (y_move rfl) rfl ?_
  refine W.y (y_nilp rfl) rfl ?_
  refine W.y (y_field rfl fld86_6) rfl ?_
  refine W.y (y_load rfl pl22 (hb1.at_ ho1)) rfl ?_
  refine W.y (y_move rfl) rfl ?_
  refine W.y (y_cutl rfl rfl Tryd.underlying22 siz5 (by omega)) rfl ?_
  refine W.y (y_nilp rfl) rfl ?_
  refine W.y (y_field rfl fld86_6) rfl ?_
  refine W.s (s_store rfl rfl rfl siz22 (hb1.at_ ho1) (Bk.melt hb1)) ?_
  refine W.fin ?_
  refine E.next ?_
  refine C.seq ?_
  refine C.reg ?_
  refine W.y (y_move rfl) rfl ?_
  refine W.y (y_assign rfl) rfl ?_
  refine W.y (y_assign rfl) rfl ?_
  refine W.fin ?_
  refine E.next ?_
  refine C.ret ?_
  refine E.thenRet ?_
  exact E.ret2 rfl rfl rfl ⟨hK2, .inr ⟨k, hk1.1, hk1.2.1, hDl, rfl, hPf, hSt⟩⟩
set_option maxRecDepth 4000 in
set_option maxHeartbeats 4000000 in
theorem read64B_ret {w : World} {gd gc gf gg gr gp m : Nat} {te tp : TypeId} {cs ds ps : Array Value} {al : List UInt8} {pad : Int} {st : Bool} {L R O : List UInt8} {vs : List Nat} {re : Bool} {ae : Addr} (hb : Bk w gd ds 86 (0, 0)) (hF : DF 768 ds .nilIface (bif re then ((.iface 116 (.pointer (some ae))) : Value) else .nilIface) (.pointer (some ⟨gc, 0, none⟩)) (.iface 81 (.pointer (some ⟨gf, 0, none⟩))) L L.length) (hO : OF 768 ds gd O) (hS : Src 83 55 57 9 w gf gg gr (R)) (hL4 : L.length < 4) (hre : re = true → R = []) (hX : L ++ R = vs.map (Pl.letter al) ++ Pl.pads 4 pad vs.length) (hv : ∀ v ∈ vs, v < 64) (hq : ∃ q, vs.length = Pl.nlet 6 q) (hzs : st = true → ∃ s, vs = Pl.nums 6 s) (hvl : vs.length ≤ 1000000000000)
    (hEof : w.cell? ⟨0, 0, none⟩ = some (.iface 116 (.pointer (some ae)))) (hbc : Bk w gc cs te (0, 0)) (hec : EncC 64 cs al pad) (hf : Fit 64 al pad) (hst : cs[321]? = some (.bool st)) (hd : Dst gp gd gc gf gg gr) (hP : Bk w gp ps tp (0, 0)) (hps : ps.size = m) (hm : 1 ≤ m) (hM : m ≤ 65536) (hO0 : O = []) :
    Ret Tryd.prog 67 #[.pointer (some ⟨gd, 0, none⟩), .slice (some ⟨gp, 0, none⟩) m m] w fun v w' => Kp (fun k => k = gd ∨ k = gg ∨ k = gr ∨ k = gp) w w' ∧ ((Pl.unpack 6 vs = [] ∧ v = .tuple #[.int .i64 0, (.iface 116 (.pointer (some ae)))]) ∨ ∃ n : Nat, 1 ≤ n ∧ n ≤ m ∧ n ≤ (Pl.unpack 6 vs).length ∧ v = .tuple #[.int .i64 (n : Int), .nilIface] ∧ (∃ ps', Bk w' gp ps' tp (0, 0) ∧ ps'.size = m ∧ Hd ps' 0 ((Pl.unpack 6 vs).take n)) ∧ St64 86 81 83 55 57 9 w' gd gc gf gg gr al pad st (.iface 116 (.pointer (some ae))) ((Pl.unpack 6 vs).drop n)) := by
  subst hO0
  have hO9 := hO
  obtain ⟨oa, oc, ho9, _, _⟩ := hO
  have hlo := hf.lo
  have hnl : ([] : List UInt8).length = 0 := rfl
  have hpl := pads_len (pad := pad) (n := vs.length) (block := 4)
  have hXl : L.length + R.length = vs.length + (Pl.pads 4 pad vs.length).length := by
    have := congrArg List.length hX
    rw [List.length_append, List.length_append, List.length_map] at this
    exact this
  have hcase : (pad = -1 ∧ L.length + R.length = vs.length) ∨ (0 ≤ pad ∧ L.length + R.length = vs.length + (4 - vs.length % 4) % 4) := by
    by_cases hp : pad = -1
    · rw [if_neg (by omega)] at hpl
      exact .inl ⟨hp, by omega⟩
    · rw [if_pos (by omega)] at hpl
      have hpn : Pl.padn 4 vs.length = (4 - vs.length % 4) % 4 := rfl
      exact .inr ⟨by omega, by omega⟩
  refine ret_of Tryd.func67 rfl Tryd.ntmps67 (Nat.le_of_ble_eq_true rfl) ?_
  refine C.seq ?_
  refine C.reg ?_
  refine W.y (y_assign rfl) rfl ?_
  refine W.y (y_assign rfl) rfl ?_
  refine W.fin ?_
  refine E.next ?_
  refine C.seq ?_
  refine C.seq ?_
  refine C.reg ?_
  refine W.y (y_move rfl) rfl ?_
  refine W.y (y_nilp rfl) rfl ?_
  refine W.y (y_field rfl fld86_6) rfl ?_
  refine W.y (y_load rfl pl22 (hb.at_ ho9)) rfl ?_
  refine W.y (y_len rfl Tryd.underlying22) rfl ?_
  refine W.y (y_gtrF rfl rfl (by omega)) rfl ?_
  refine W.fin ?_
  refine E.next ?_
  refine C.no rfl ?_
  refine C.skip ?_
  refine E.next ?_
  refine C.seq ?_
  refine C.seq ?_
  refine C.reg ?_
  refine W.y (y_move rfl) rfl ?_
  refine W.y (y_nilp rfl) rfl ?_
  refine W.y (y_field rfl fld86_0) rfl ?_
  refine W.y (y_load rfl pl47 (hb.at_ hF.c0)) rfl ?_
  refine W.y (y_nenil rfl eqNil47) rfl ?_
  refine W.fin ?_
  refine E.next ?_
  refine C.no rfl ?_
  refine C.skip ?_
  refine E.next ?_
  refine C.mid (σ := List UInt8 × List UInt8 × Bool × Array Value) (fun (L1, R1, r1, d1) w' => (Kp (fun x => x = gg ∨ x = gr ∨ x = gd) w w' ∧ Bk w' gd d1 86 (0, 0) ∧ DF 768 d1 .nilIface (bif r1 then ((.iface 116 (.pointer (some ae))) : Value) else .nilIface) (.pointer (some ⟨gc, 0, none⟩)) (.iface 81 (.pointer (some ⟨gf, 0, none⟩))) L1 L1.length ∧ OF 768 d1 gd [] ∧ Src 83 55 57 9 w' gf gg gr (R1) ∧ L1 ++ R1 = L ++ R ∧ L1.length ≤ 1024 ∧ (r1 = true → R1 = [])) ∧ (4 ≤ L1.length ∨ r1 = true)) (fun _ => [(0, .pointer (some ⟨gd, 0, none⟩)), (1, .slice (some ⟨gp, 0, none⟩) m m)]) ?_ ?_
  · refine C.block ?_
    refine C.loop (σ := List UInt8 × List UInt8 × Bool × Array Value) (fun (L1, R1, r1, d1) w' => Kp (fun x => x = gg ∨ x = gr ∨ x = gd) w w' ∧ Bk w' gd d1 86 (0, 0) ∧ DF 768 d1 .nilIface (bif r1 then ((.iface 116 (.pointer (some ae))) : Value) else .nilIface) (.pointer (some ⟨gc, 0, none⟩)) (.iface 81 (.pointer (some ⟨gf, 0, none⟩))) L1 L1.length ∧ OF 768 d1 gd [] ∧ Src 83 55 57 9 w' gf gg gr (R1) ∧ L1 ++ R1 = L ++ R ∧ L1.length ≤ 1024 ∧ (r1 = true → R1 = [])) (fun _ => [(0, .pointer (some ⟨gd, 0, none⟩)), (1, .slice (some ⟨gp, 0, none⟩) m m)]) (fun (_, R1, r1, _) => R1.length + (bif r1 then 0 else 1)) (L, R, re, ds) ?_ ?_ ?_
    · exact ⟨Kp.refl _ _, hb, hF, hO9, hS, rfl, by omega, hre⟩
    · exact (Sub.cons rfl (Sub.cons rfl (Sub.nil _)))
    rintro ⟨L1, R1, r1, d1⟩ wi ⟨hk1, hb1, hF1, hO1, hs1, hX1, hL1, hr1⟩
    show C _ _ _ _ [(0, .pointer (some ⟨gd, 0, none⟩)), (1, .slice (some ⟨gp, 0, none⟩) m m)] _
    have hXn : L1.length + R1.length = L.length + R.length := by rw [← List.length_append, hX1, List.length_append]
    by_cases h4 : 4 ≤ L1.length
    · skip
      refine C.seq ?_
      refine C.seq ?_
      refine C.reg ?_
      refine W.y (y_move rfl) rfl ?_
      refine W.y (y_nilp rfl) rfl ?_
      refine W.y (y_field rfl fld86_5) rfl ?_
      refine W.y (y_load rfl pl3 (hb1.at_ hF1.nb)) rfl ?_
      refine W.y (y_lssF rfl rfl (by omega)) rfl ?_
      refine W.y (y_move rfl) rfl ?_
      refine W.gn rfl rfl rfl ?_
      refine W.gn rfl rfl rfl ?_
      refine W.gn rfl rfl rfl ?_
      refine W.gn rfl rfl rfl ?_
      refine W.gn rfl rfl rfl ?_
      refine W.y (y_pick rfl rfl) rfl ?_
      refine W.fin ?_
      refine E.next ?_
      refine C.no rfl ?_
      refine C.exit ?_
      refine E.thenExit ?_
      refine E.thenExit ?_
      refine E.blockOut ?_
      exact E.mid (L1, R1, r1, d1) ⟨⟨hk1, hb1, hF1, hO1, hs1, hX1, hL1, hr1⟩, .inl h4⟩ (Sub.cons rfl (Sub.cons rfl (Sub.nil _)))
    cases r1
    rotate_left
    · skip
      refine C.seq ?_
      refine C.seq ?_
      refine C.reg ?_
      refine W.y (y_move rfl) rfl ?_
      refine W.y (y_nilp rfl) rfl ?_
      refine W.y (y_field rfl fld86_5) rfl ?_
      refine W.y (y_load rfl pl3 (hb1.at_ hF1.nb)) rfl ?_
      refine W.y (y_lssT rfl rfl (by omega)) rfl ?_
      refine W.y (y_move rfl) rfl ?_
      refine W.gy rfl rfl (y_move rfl) rfl ?_
      refine W.gy rfl rfl (y_nilp rfl) rfl ?_
      refine W.gy rfl rfl (y_field rfl fld86_1) rfl ?_
      refine W.gy rfl rfl (y_load rfl pl47 (hb1.at_ hF1.c1)) rfl ?_
      refine W.gy rfl rfl (y_eqifN rfl Tryd.underlying47) rfl ?_
      refine W.y (y_pick rfl rfl) rfl ?_
      refine W.fin ?_
      refine E.next ?_
      refine C.no rfl ?_
      refine C.exit ?_
      refine E.thenExit ?_
      refine E.thenExit ?_
      refine E.blockOut ?_
      exact E.mid (L1, R1, true, d1) ⟨⟨hk1, hb1, hF1, hO1, hs1, hX1, hL1, hr1⟩, .inr rfl⟩ (Sub.cons rfl (Sub.cons rfl (Sub.nil _)))
    refine C.seq ?_
    refine C.seq ?_
    refine C.reg ?_
    refine W.y (y_move rfl) rfl ?_
    refine W.y (y_nilp rfl) rfl ?_
    refine W.y (y_field rfl fld86_5) rfl ?_
    refine W.y (y_load rfl pl3 (hb1.at_ hF1.nb)) rfl ?_
    refine W.y (y_lssT rfl rfl (by omega)) rfl ?_
    refine W.y (y_move rfl) rfl ?_
    refine W.gy rfl rfl (y_move rfl) rfl ?_
    refine W.gy rfl rfl (y_nilp rfl) rfl ?_
    refine W.gy rfl rfl (y_field rfl fld86_1) rfl ?_
    refine W.gy rfl rfl (y_load rfl pl47 (hb1.at_ hF1.c1)) rfl ?_
    refine W.gy rfl rfl (y_eqnil rfl eqNil47) rfl ?_
    refine W.y (y_pick rfl rfl) rfl ?_
    refine W.fin ?_
    refine E.next ?_
    refine C.yes rfl ?_
    refine C.skip ?_
    refine E.next ?_
    refine C.block ?_
    refine C.seq ?_
    refine C.reg ?_
    refine W.y (y_move rfl) rfl ?_
    refine W.y (y_len rfl Tryd.underlying22) rfl ?_
    refine W.y (Does.as (y_quo rfl rfl (by omega) (by omega) (by omega)) (vint (b := ((m / 3 : Nat) : Int)) (by omega))) rfl ?_
    refine W.y (Does.as (y_mul rfl rfl (wi64 (by omega) (by omega))) (vint (b := ((m / 3 * 4 : Nat) : Int)) (by omega))) rfl ?_
    refine W.y (y_assign rfl) rfl ?_
    refine W.fin ?_
    refine E.next ?_
    refine C.mid (σ := Nat) (fun nn w' => 4 ≤ nn ∧ nn ≤ 100000 ∧ wi = w') (fun nn => [(0, .pointer (some ⟨gd, 0, none⟩)), (1, .slice (some ⟨gp, 0, none⟩) m m), (6, .int .i64 (nn : Int))]) ?_ ?_
    · by_cases hm3 : m / 3 * 4 < 4
      · skip
        refine C.seq ?_
        refine C.reg ?_
        refine W.y (y_move rfl) rfl ?_
        refine W.y (y_lssT rfl rfl (by omega)) rfl ?_
        refine W.fin ?_
        refine E.next ?_
        refine C.yes rfl ?_
        refine C.reg ?_
        refine W.y (y_assign rfl) rfl ?_
        refine W.fin ?_
        exact E.mid (4) ⟨by omega, by omega, rfl⟩ (Sub.cons rfl (Sub.cons rfl (Sub.cons rfl (Sub.nil _))))
      · skip
        refine C.seq ?_
        refine C.reg ?_
        refine W.y (y_move rfl) rfl ?_
        refine W.y (y_lssF rfl rfl (by omega)) rfl ?_
        refine W.fin ?_
        refine E.next ?_
        refine C.no rfl ?_
        refine C.skip ?_
        exact E.mid (m / 3 * 4) ⟨by omega, by omega, rfl⟩ (Sub.cons rfl (Sub.cons rfl (Sub.cons rfl (Sub.nil _))))
    rintro n0 _ ⟨hn0, hn0b, rfl⟩
    show C _ _ _ _ [(0, .pointer (some ⟨gd, 0, none⟩)), (1, .slice (some ⟨gp, 0, none⟩) m m), (6, .int .i64 (n0 : Int))] _
    refine C.mid (σ := Nat) (fun nn w' => 4 ≤ nn ∧ nn ≤ 1024 ∧ wi = w') (fun nn => [(0, .pointer (some ⟨gd, 0, none⟩)), (1, .slice (some ⟨gp, 0, none⟩) m m), (6, .int .i64 (nn : Int))]) ?_ ?_
    · by_cases hm3 : 1024 < n0
      · skip
        refine C.seq ?_
        refine C.reg ?_
        refine W.y (y_move rfl) rfl ?_
        refine W.y (y_gtrT rfl rfl (by omega)) rfl ?_
        refine W.fin ?_
        refine E.next ?_
        refine C.yes rfl ?_
        refine C.reg ?_
        refine W.y (y_assign rfl) rfl ?_
        refine W.fin ?_
        exact E.mid (1024) ⟨by omega, by omega, rfl⟩ (Sub.cons rfl (Sub.cons rfl (Sub.cons rfl (Sub.nil _))))
      · skip
        refine C.seq ?_
        refine C.reg ?_
        refine W.y (y_move rfl) rfl ?_
        refine W.y (y_gtrF rfl rfl (by omega)) rfl ?_
        refine W.fin ?_
        refine E.next ?_
        refine C.no rfl ?_
        refine C.skip ?_
        exact E.mid (n0) ⟨by omega, by omega, rfl⟩ (Sub.cons rfl (Sub.cons rfl (Sub.cons rfl (Sub.nil _))))
    rintro nn _ ⟨hn4, hnn, rfl⟩
    show C _ _ _ _ [(0, .pointer (some ⟨gd, 0, none⟩)), (1, .slice (some ⟨gp, 0, none⟩) m m), (6, .int .i64 (nn : Int))] _
    have hS0 : wi.drew.cell? ⟨gd, 3, none⟩ = some (.iface 81 (.pointer (some ⟨gf, 0, none⟩))) ∧ wi.drew.cell? ⟨gd, 1028, none⟩ = some (.int .i64 (L1.length : Int)) := ⟨hb1.drew.at_ hF1.c3, hb1.drew.at_ hF1.nb⟩
    have hEd : wi.drew.cell? ⟨0, 0, none⟩ = some (.iface 116 (.pointer (some ae))) := eof_kept hEof hk1.drew (fun (e : 0 = gg ∨ 0 = gr ∨ 0 = gd) => e.elim hd.g0.symm fun e => e.elim hd.r0.symm hd.d0.symm)
    refine C.seq ?_
    refine C.held (fun w' => w'.cell? ⟨gd, 3, none⟩ = some (.iface 81 (.pointer (some ⟨gf, 0, none⟩))) ∧ w'.cell? ⟨gd, 1028, none⟩ = some (.int .i64 (L1.length : Int))) mixed ?_
    refine AH.take 0 rfl (by kernel_rfl) (by kernel_rfl) (by kernel_rfl) (fun _ _ => y_move rfl) hS0 rfl ?_
    refine AH.take 1 rfl (by kernel_rfl) (by kernel_rfl) (by kernel_rfl) (fun _ _ => y_move rfl) hS0 rfl ?_
    refine AH.take 2 rfl (by kernel_rfl) (by kernel_rfl) (by kernel_rfl) (fun _ _ => y_nilp rfl) hS0 rfl ?_
    refine AH.take 3 rfl (by kernel_rfl) (by kernel_rfl) (by kernel_rfl) (fun _ _ => y_field rfl fld86_3) hS0 rfl ?_
    refine AH.take 4 rfl (by kernel_rfl) (by kernel_rfl) (by kernel_rfl) (fun _ hw => y_load rfl pl51 hw.1) hS0 rfl ?_
    refine AH.take 5 rfl (by kernel_rfl) (by kernel_rfl) (by kernel_rfl) (fun _ _ => y_move rfl) hS0 rfl ?_
    refine AH.take 6 rfl (by kernel_rfl) (by kernel_rfl) (by kernel_rfl) (fun _ _ => y_nilp rfl) hS0 rfl ?_
    refine AH.take 7 rfl (by kernel_rfl) (by kernel_rfl) (by kernel_rfl) (fun _ _ => y_field rfl fld86_4) hS0 rfl ?_
    refine AH.take 8 rfl (by kernel_rfl) (by kernel_rfl) (by kernel_rfl) (fun _ _ => y_move rfl) hS0 rfl ?_
    refine AH.take 9 rfl (by kernel_rfl) (by kernel_rfl) (by kernel_rfl) (fun _ _ => y_nilp rfl) hS0 rfl ?_
    refine AH.take 10 rfl (by kernel_rfl) (by kernel_rfl) (by kernel_rfl) (fun _ _ => y_field rfl fld86_5) hS0 rfl ?_
    refine AH.take 11 rfl (by kernel_rfl) (by kernel_rfl) (by kernel_rfl) (fun _ hw => y_load rfl pl3 hw.2) hS0 rfl ?_
    refine AH.take 12 rfl (by kernel_rfl) (by kernel_rfl) (by kernel_rfl) (fun _ _ => y_move rfl) hS0 rfl ?_
    refine AH.take 13 rfl (by kernel_rfl) (by kernel_rfl) (by kernel_rfl) (fun _ _ => y_arrlh (i := L1.length) rfl rfl rfl Tryd.underlying73 siz5 (by omega) (by omega) (by omega)) hS0 rfl ?_
    refine AH.take 14 rfl (by kernel_rfl) (by kernel_rfl) (by kernel_rfl) (fun _ _ => y_nili rfl) hS0 rfl ?_
    refine AH.take 15 rfl (by kernel_rfl) (by kernel_rfl) (by kernel_rfl) (fun _ _ => y_move rfl) hS0 rfl ?_
    refine AH.oneInv 16 rfl (by kernel_rfl) ent74 methFil64 rfl rfl (filter64_ret hs1 hEd hb1.drew hd.gr_ hd.dg hd.dr hd.df hd.fg hd.fr ⟨hd.g0, hd.r0, hd.d0⟩ (by omega) (by omega) (by have := hF1.size; omega) (.inr (by omega)) (by omega)) rfl ?_
    rintro x2 w1 ⟨hk2, hres⟩
    obtain ⟨n2, e2, d2, rfl, he2, hn2, hn2R, hb2, hz2, ho2, hh2, hs2, hn21⟩ : ∃ (n2 : Nat) (e2 : Value) (d2 : Array Value), x2 = Value.tuple #[.int .i64 (n2 : Int), e2] ∧ (e2 = bif R1.isEmpty then ((.iface 116 (.pointer (some ae))) : Value) else Value.nilIface) ∧ n2 ≤ nn - L1.length ∧ n2 ≤ R1.length ∧ Bk w1 gd d2 86 (0, 0) ∧ d2.size = d1.size ∧ Outs d1 d2 (4 + L1.length) (nn - L1.length) ∧ Hd d2 (4 + L1.length) (R1.take n2) ∧ Src 83 55 57 9 w1 gf gg gr (R1.drop n2) ∧ (R1 ≠ [] → 1 ≤ n2) := by
      rcases hres with ⟨e, rfl, ⟨d2, a, b, c⟩, s⟩ | ⟨k, a, a2, a3, rfl, ⟨d2, b, c, d, e⟩, s⟩
      · subst e
        exact ⟨0, _, d2, rfl, rfl, by omega, by omega, a, b, by rw [Nat.zero_add] at c; exact c, Hd.nil _ _, s, fun h => absurd rfl h⟩
      · refine ⟨k, _, d2, rfl, ?_, a2, a3, b, c, by rw [Nat.zero_add] at d; exact d, by rw [Nat.zero_add] at e; exact e, s, fun _ => a⟩
        cases R1 with
        | nil => simp at a3; omega
        | cons x r => rfl
    have hl2 : (R1.take n2).length = n2 := by rw [List.length_take]; omega
    have hL2 : (L1 ++ R1.take n2).length = L1.length + n2 := by rw [List.length_append, hl2]
    have hF2 : DF 768 d2 .nilIface .nilIface (.pointer (some ⟨gc, 0, none⟩)) (.iface 81 (.pointer (some ⟨gf, 0, none⟩))) (L1 ++ R1.take n2) L1.length := hF1.outs hz2 ho2 (by omega) (.inl (by omega)) ((hF1.buf.outs ho2 (by omega)).append hh2 rfl)
    have hF3 := hF2.set1 e2
    have hb3 := Bk.set hb2 (0 + 1) e2
    have hF4 := hF3.setN (L1.length + n2) (by omega)
    have hb4 := Bk.set hb3 (0 + 1028) (.int .i64 ((L1.length + n2 : Nat) : Int))
    have hS1 : w1.cell? ⟨gd, 3, none⟩ = some (.iface 81 (.pointer (some ⟨gf, 0, none⟩))) ∧ w1.cell? ⟨gd, 1028, none⟩ = some (.int .i64 (L1.length : Int)) := ⟨hb2.at_ hF2.c3, hb2.at_ hF2.nb⟩
    have hS2 : (w1.setCell ⟨gd, 0 + 1, none⟩ e2).cell? ⟨gd, 3, none⟩ = some (.iface 81 (.pointer (some ⟨gf, 0, none⟩))) ∧ (w1.setCell ⟨gd, 0 + 1, none⟩ e2).cell? ⟨gd, 1028, none⟩ = some (.int .i64 (L1.length : Int)) := ⟨hb3.at_ hF3.c3, hb3.at_ hF3.nb⟩
    have hone : e2.oneCell' = true := by
      rw [he2]
      cases R1 <;> rfl
    refine ⟨hS1, ?_⟩
    refine AH.take 17 rfl (by kernel_rfl) (by kernel_rfl) (by kernel_rfl) (fun _ _ => y_move rfl) hS1 rfl ?_
    refine AH.take 18 rfl (by kernel_rfl) (by kernel_rfl) (by kernel_rfl) (fun _ _ => y_ext rfl rfl) hS1 rfl ?_
    refine AH.take 19 rfl (by kernel_rfl) (by kernel_rfl) (by kernel_rfl) (fun _ _ => y_ext rfl rfl) hS1 rfl ?_
    refine AH.take 20 rfl (by kernel_rfl) (by kernel_rfl) (by kernel_rfl) (fun _ _ => y_assign rfl) hS1 rfl ?_
    refine AH.take 21 rfl (by kernel_rfl) (by kernel_rfl) (by kernel_rfl) (fun _ _ => y_nilp rfl) hS1 rfl ?_
    refine AH.take 22 rfl (by kernel_rfl) (by kernel_rfl) (by kernel_rfl) (fun _ _ => y_field rfl fld86_1) hS1 rfl ?_
    refine AH.oneS 23 rfl (by kernel_rfl) (s_store rfl rfl hone siz47 (hb2.at_ hF2.c1) (Bk.melt hb2)) hS2 ?_
    refine AH.done (by kernel_rfl) ?_
    refine E.next ?_
    refine C.reg ?_
    refine W.y (y_move rfl) rfl ?_
    refine W.y (y_nilp rfl) rfl ?_
    refine W.y (y_field rfl fld86_5) rfl ?_
    refine W.y (y_load rfl pl3 (hb3.at_ hF3.nb)) rfl ?_
    refine W.y (y_move rfl) rfl ?_
    refine W.y (Does.as (y_add rfl rfl (wi64 (by omega) (by omega))) (vint (b := ((L1.length + n2 : Nat) : Int)) (by omega))) rfl ?_
    refine W.y (y_nilp rfl) rfl ?_
    refine W.y (y_field rfl fld86_5) rfl ?_
    refine W.s (s_store rfl rfl rfl siz3 (hb3.at_ hF3.nb) (Bk.melt hb3)) ?_
    refine W.fin ?_
    refine E.blockNormal ?_
    exact E.again ((L1 ++ R1.take n2), R1.drop n2, R1.isEmpty, _) ⟨((hk1.drew.trans hk2).set (.inl (.inr (.inr rfl))) _).set (.inl (.inr (.inr rfl))) _, hb4, by rw [← he2, hL2]; exact hF4, ((hO1.low ho2 (by omega)).low (Outs.one _ 1 e2) (by omega)).low (Outs.one _ 1028 _) (by omega), hs2.kept (((Kp.refl (· = gd) w1).set (.inl rfl) _).set (.inl rfl) _) hd.df.symm hd.dg.symm hd.dr.symm, by rw [List.append_assoc, List.take_append_drop]; exact hX1, by omega, (fun e => by rw [List.isEmpty_iff.1 e]; simp)⟩ (Sub.cons rfl (Sub.cons rfl (Sub.nil _))) (by
      show (R1.drop n2).length + (bif R1.isEmpty then 0 else 1) < R1.length + 1
      rw [List.length_drop]
      by_cases hR : R1 = []
      · rw [hR]; simp
      · have := hn21 hR
        have e : R1.isEmpty = false := by cases R1 <;> simp_all
        rw [e]
        simp only [cond_false]
        omega)
  rintro ⟨L1, R1, r1, d1⟩ w3 ⟨⟨hk1, hb1, hF1, hO1, hs1, hX1, hL1, hr1⟩, h15⟩
  show C _ _ _ _ [(0, .pointer (some ⟨gd, 0, none⟩)), (1, .slice (some ⟨gp, 0, none⟩) m m)] _
  have hXn : L1.length + R1.length = L.length + R.length := by rw [← List.length_append, hX1, List.length_append]
  have hbc3 := hbc.kept hk1 hd.nc3
  have hP3 := hP.kept hk1 hd.np3
  obtain ⟨oa1, oc1, ho1, _, _⟩ := hO1
  have hK3r : Kp (fun k => k = gd ∨ k = gg ∨ k = gr ∨ k = gp) w w3 := hk1.mono fun x _ e => e.elim (fun h => .inr (.inl h)) fun h => h.elim (fun h => .inr (.inr (.inl h))) .inl
  by_cases h4 : L1.length < 4
  · obtain rfl : r1 = true := h15.resolve_left (by omega)
    have hR1 := hr1 rfl
    subst hR1
    rw [List.append_nil] at hX1
    have hE3 := eof_kept hEof hk1 (fun (e : 0 = gg ∨ 0 = gr ∨ 0 = gd) => e.elim hd.g0.symm fun e => e.elim hd.r0.symm hd.d0.symm)
    by_cases hv0 : vs = []
    · have hl0 : L1.length = 0 := by
        have e : vs.length = 0 := by rw [hv0]; rfl
        simp only [List.length_nil] at hXn
        omega
      have hb4 := Bk.set hb1 (0 + 0) ((.iface 116 (.pointer (some ae))) : Value)
      have hF4 := hF1.set0 ((.iface 116 (.pointer (some ae))) : Value)
      by_cases hp : pad = -1
      · skip
        refine C.seq ?_
        refine C.seq ?_
        refine C.reg ?_
        refine W.y (y_move rfl) rfl ?_
        refine W.y (y_nilp rfl) rfl ?_
        refine W.y (y_field rfl fld86_5) rfl ?_
        refine W.y (y_load rfl pl3 (hb1.at_ hF1.nb)) rfl ?_
        refine W.y (y_lssT rfl rfl (by omega)) rfl ?_
        refine W.fin ?_
        refine E.next ?_
        refine C.yes rfl ?_
        refine C.seq ?_
        refine C.seq ?_
        refine C.reg ?_
        refine W.y (y_move rfl) rfl ?_
        refine W.y (y_nilp rfl) rfl ?_
        refine W.y (y_field rfl fld86_2) rfl ?_
        refine W.y (y_load rfl pl62 (hb1.at_ hF1.c2)) rfl ?_
        refine W.y (y_nilp rfl) rfl ?_
        refine W.y (y_field rfl fld105_2) rfl ?_
        refine W.y (y_load rfl pl21 (Bk.at_ hbc3 hec.pad_)) rfl ?_
        refine W.y (y_eqlT rfl rfl (by omega)) rfl ?_
        refine W.y (y_move rfl) rfl ?_
        refine W.gy rfl rfl (y_move rfl) rfl ?_
        refine W.gy rfl rfl (y_nilp rfl) rfl ?_
        refine W.gy rfl rfl (y_field rfl fld86_5) rfl ?_
        refine W.gy rfl rfl (y_load rfl pl3 (hb1.at_ hF1.nb)) rfl ?_
        refine W.gy rfl rfl (y_gtrF rfl rfl (by omega)) rfl ?_
        refine W.y (y_pick rfl rfl) rfl ?_
        refine W.fin ?_
        refine E.next ?_
        refine C.no rfl ?_
        refine C.skip ?_
        refine E.next ?_
        refine C.seq ?_
        refine C.reg ?_
        refine W.y (y_move rfl) rfl ?_
        refine W.y (y_move rfl) rfl ?_
        refine W.y (y_nilp rfl) rfl ?_
        refine W.y (y_field rfl fld86_1) rfl ?_
        refine W.y (y_load rfl pl47 (hb1.at_ hF1.c1)) rfl ?_
        refine W.y (y_nilp rfl) rfl ?_
        refine W.y (y_field rfl fld86_0) rfl ?_
        refine W.s (s_store rfl rfl rfl siz47 (hb1.at_ hF1.c0) (Bk.melt hb1)) ?_
        refine W.fin ?_
        refine E.next ?_
        refine C.seq ?_
        refine C.seq ?_
        refine C.still mixed (by kernel_rfl) ?_
        refine S.y (y_move rfl) rfl ?_
        refine S.y (y_nilp rfl) rfl ?_
        refine S.y (y_field rfl fld86_0) rfl ?_
        refine S.y (y_load rfl pl47 (hb4.drew.at_ hF4.c0)) rfl ?_
        refine S.y (y_load rfl pl47 (eof_kept hE3 (((Kp.refl (· = gd) w3).set (.inl rfl) _).drew) hd.d0.symm)) rfl ?_
        refine S.y (y_eqifS rfl rfl ifpE) rfl ?_
        refine S.y (y_move rfl) rfl ?_
        refine S.gy rfl rfl (y_move rfl) rfl ?_
        refine S.gy rfl rfl (y_nilp rfl) rfl ?_
        refine S.gy rfl rfl (y_field rfl fld86_5) rfl ?_
        refine S.gy rfl rfl (y_load rfl pl3 (hb4.drew.at_ hF4.nb)) rfl ?_
        refine S.gy rfl rfl (y_gtrF rfl rfl (by omega)) rfl ?_
        refine S.y (y_pick rfl rfl) rfl ?_
        refine S.end_ ?_
        refine E.next ?_
        refine C.no rfl ?_
        refine C.skip ?_
        refine E.next ?_
        refine C.seq ?_
        refine C.still mixed (by kernel_rfl) ?_
        refine S.y (y_move rfl) rfl ?_
        refine S.y (y_nilp rfl) rfl ?_
        refine S.y (y_field rfl fld86_0) rfl ?_
        refine S.y (y_load rfl pl47 (hb4.drew.drew.at_ hF4.c0)) rfl ?_
        refine S.y (y_assign rfl) rfl ?_
        refine S.y (y_assign rfl) rfl ?_
        refine S.end_ ?_
        refine E.next ?_
        refine C.ret ?_
        refine E.thenRet ?_
        exact E.ret2 rfl rfl rfl ⟨((hK3r.set (.inl (.inl rfl)) _).drew).drew, .inl ⟨by rw [hv0]; simp [Pl.unpack], rfl⟩⟩
      · skip
        refine C.seq ?_
        refine C.seq ?_
        refine C.reg ?_
        refine W.y (y_move rfl) rfl ?_
        refine W.y (y_nilp rfl) rfl ?_
        refine W.y (y_field rfl fld86_5) rfl ?_
        refine W.y (y_load rfl pl3 (hb1.at_ hF1.nb)) rfl ?_
        refine W.y (y_lssT rfl rfl (by omega)) rfl ?_
        refine W.fin ?_
        refine E.next ?_
        refine C.yes rfl ?_
        refine C.seq ?_
        refine C.seq ?_
        refine C.reg ?_
        refine W.y (y_move rfl) rfl ?_
        refine W.y (y_nilp rfl) rfl ?_
        refine W.y (y_field rfl fld86_2) rfl ?_
        refine W.y (y_load rfl pl62 (hb1.at_ hF1.c2)) rfl ?_
        refine W.y (y_nilp rfl) rfl ?_
        refine W.y (y_field rfl fld105_2) rfl ?_
        refine W.y (y_load rfl pl21 (Bk.at_ hbc3 hec.pad_)) rfl ?_
        refine W.y (y_eqlF rfl rfl (by omega)) rfl ?_
        refine W.y (y_move rfl) rfl ?_
        refine W.gn rfl rfl rfl ?_
        refine W.gn rfl rfl rfl ?_
        refine W.gn rfl rfl rfl ?_
        refine W.gn rfl rfl rfl ?_
        refine W.gn rfl rfl rfl ?_
        refine W.y (y_pick rfl rfl) rfl ?_
        refine W.fin ?_
        refine E.next ?_
        refine C.no rfl ?_
        refine C.skip ?_
        refine E.next ?_
        refine C.seq ?_
        refine C.reg ?_
        refine W.y (y_move rfl) rfl ?_
        refine W.y (y_move rfl) rfl ?_
        refine W.y (y_nilp rfl) rfl ?_
        refine W.y (y_field rfl fld86_1) rfl ?_
        refine W.y (y_load rfl pl47 (hb1.at_ hF1.c1)) rfl ?_
        refine W.y (y_nilp rfl) rfl ?_
        refine W.y (y_field rfl fld86_0) rfl ?_
        refine W.s (s_store rfl rfl rfl siz47 (hb1.at_ hF1.c0) (Bk.melt hb1)) ?_
        refine W.fin ?_
        refine E.next ?_
        refine C.seq ?_
        refine C.seq ?_
        refine C.still mixed (by kernel_rfl) ?_
        refine S.y (y_move rfl) rfl ?_
        refine S.y (y_nilp rfl) rfl ?_
        refine S.y (y_field rfl fld86_0) rfl ?_
        refine S.y (y_load rfl pl47 (hb4.drew.at_ hF4.c0)) rfl ?_
        refine S.y (y_load rfl pl47 (eof_kept hE3 (((Kp.refl (· = gd) w3).set (.inl rfl) _).drew) hd.d0.symm)) rfl ?_
        refine S.y (y_eqifS rfl rfl ifpE) rfl ?_
        refine S.y (y_move rfl) rfl ?_
        refine S.gy rfl rfl (y_move rfl) rfl ?_
        refine S.gy rfl rfl (y_nilp rfl) rfl ?_
        refine S.gy rfl rfl (y_field rfl fld86_5) rfl ?_
        refine S.gy rfl rfl (y_load rfl pl3 (hb4.drew.at_ hF4.nb)) rfl ?_
        refine S.gy rfl rfl (y_gtrF rfl rfl (by omega)) rfl ?_
        refine S.y (y_pick rfl rfl) rfl ?_
        refine S.end_ ?_
        refine E.next ?_
        refine C.no rfl ?_
        refine C.skip ?_
        refine E.next ?_
        refine C.seq ?_
        refine C.still mixed (by kernel_rfl) ?_
        refine S.y (y_move rfl) rfl ?_
        refine S.y (y_nilp rfl) rfl ?_
        refine S.y (y_field rfl fld86_0) rfl ?_
        refine S.y (y_load rfl pl47 (hb4.drew.drew.at_ hF4.c0)) rfl ?_
        refine S.y (y_assign rfl) rfl ?_
        refine S.y (y_assign rfl) rfl ?_
        refine S.end_ ?_
        refine E.next ?_
        refine C.ret ?_
        refine E.thenRet ?_
        exact E.ret2 rfl rfl rfl ⟨((hK3r.set (.inl (.inl rfl)) _).drew).drew, .inl ⟨by rw [hv0]; simp [Pl.unpack], rfl⟩⟩
    have hvp := List.length_pos_iff.2 hv0
    have hpm : pad = -1 ∧ L1.length = vs.length := by
      simp only [List.length_nil] at hXn
      omega
    have hrem := rem64 hq
    obtain ⟨nb, hnb⟩ : ∃ nb, nb = 6 * vs.length / 8 := ⟨_, rfl⟩
    have hnb1 : 1 ≤ nb ∧ nb ≤ 768 := by omega
    have hdl : (Pl.unpack 6 vs).length = nb := by rw [Pl.unpack_length, hnb]
    obtain ⟨q, hq0⟩ : ∃ q, q = Nat.min nb m := ⟨_, rfl⟩
    have hqq : 1 ≤ q ∧ q ≤ m ∧ q ≤ nb := by
      have e : q = min nb m := hq0
      omega
    have hT0 : w3.drew.cell? ⟨gd, 2, none⟩ = some (.pointer (some ⟨gc, 0, none⟩)) ∧ w3.drew.cell? ⟨gd, 1028, none⟩ = some (.int .i64 (L1.length : Int)) := ⟨hb1.drew.at_ hF1.c2, hb1.drew.at_ hF1.nb⟩
    refine C.seq ?_
    refine C.seq ?_
    refine C.reg ?_
    refine W.y (y_move rfl) rfl ?_
    refine W.y (y_nilp rfl) rfl ?_
    refine W.y (y_field rfl fld86_5) rfl ?_
    refine W.y (y_load rfl pl3 (hb1.at_ hF1.nb)) rfl ?_
    refine W.y (y_lssT rfl rfl (by omega)) rfl ?_
    refine W.fin ?_
    refine E.next ?_
    refine C.yes rfl ?_
    refine C.seq ?_
    refine C.seq ?_
    refine C.reg ?_
    refine W.y (y_move rfl) rfl ?_
    refine W.y (y_nilp rfl) rfl ?_
    refine W.y (y_field rfl fld86_2) rfl ?_
    refine W.y (y_load rfl pl62 (hb1.at_ hF1.c2)) rfl ?_
    refine W.y (y_nilp rfl) rfl ?_
    refine W.y (y_field rfl fld105_2) rfl ?_
    refine W.y (y_load rfl pl21 (Bk.at_ hbc3 hec.pad_)) rfl ?_
    refine W.y (y_eqlT rfl rfl (by omega)) rfl ?_
    refine W.y (y_move rfl) rfl ?_
    refine W.gy rfl rfl (y_move rfl) rfl ?_
    refine W.gy rfl rfl (y_nilp rfl) rfl ?_
    refine W.gy rfl rfl (y_field rfl fld86_5) rfl ?_
    refine W.gy rfl rfl (y_load rfl pl3 (hb1.at_ hF1.nb)) rfl ?_
    refine W.gy rfl rfl (y_gtrT rfl rfl (by omega)) rfl ?_
    refine W.y (y_pick rfl rfl) rfl ?_
    refine W.fin ?_
    refine E.next ?_
    refine C.yes rfl ?_
    refine C.seq ?_
    refine C.reg ?_
    refine W.y (y_assign rfl) rfl ?_
    refine W.fin ?_
    refine E.next ?_
    refine C.seq ?_
    refine C.held (fun w' => w'.cell? ⟨gd, 2, none⟩ = some (.pointer (some ⟨gc, 0, none⟩)) ∧ w'.cell? ⟨gd, 1028, none⟩ = some (.int .i64 (L1.length : Int))) mixed ?_
    refine AH.take 0 rfl (by kernel_rfl) (by kernel_rfl) (by kernel_rfl) (fun _ _ => y_move rfl) hT0 rfl ?_
    refine AH.take 1 rfl (by kernel_rfl) (by kernel_rfl) (by kernel_rfl) (fun _ _ => y_move rfl) hT0 rfl ?_
    refine AH.take 2 rfl (by kernel_rfl) (by kernel_rfl) (by kernel_rfl) (fun _ _ => y_nilp rfl) hT0 rfl ?_
    refine AH.take 3 rfl (by kernel_rfl) (by kernel_rfl) (by kernel_rfl) (fun _ _ => y_field rfl fld86_2) hT0 rfl ?_
    refine AH.take 4 rfl (by kernel_rfl) (by kernel_rfl) (by kernel_rfl) (fun _ hw => y_load rfl pl62 hw.1) hT0 rfl ?_
    refine AH.take 5 rfl (by kernel_rfl) (by kernel_rfl) (by kernel_rfl) (fun _ _ => y_move rfl) hT0 rfl ?_
    refine AH.take 6 rfl (by kernel_rfl) (by kernel_rfl) (by kernel_rfl) (fun _ _ => y_nilp rfl) hT0 rfl ?_
    refine AH.take 7 rfl (by kernel_rfl) (by kernel_rfl) (by kernel_rfl) (fun _ _ => y_field rfl fld86_7) hT0 rfl ?_
    refine AH.take 8 rfl (by kernel_rfl) (by kernel_rfl) (by kernel_rfl) (fun _ _ => y_arr rfl Tryd.underlying84 siz5) hT0 rfl ?_
    refine AH.take 9 rfl (by kernel_rfl) (by kernel_rfl) (by kernel_rfl) (fun _ _ => y_move rfl) hT0 rfl ?_
    refine AH.take 10 rfl (by kernel_rfl) (by kernel_rfl) (by kernel_rfl) (fun _ _ => y_nilp rfl) hT0 rfl ?_
    refine AH.take 11 rfl (by kernel_rfl) (by kernel_rfl) (by kernel_rfl) (fun _ _ => y_field rfl fld86_4) hT0 rfl ?_
    refine AH.take 12 rfl (by kernel_rfl) (by kernel_rfl) (by kernel_rfl) (fun _ _ => y_move rfl) hT0 rfl ?_
    refine AH.take 13 rfl (by kernel_rfl) (by kernel_rfl) (by kernel_rfl) (fun _ _ => y_nilp rfl) hT0 rfl ?_
    refine AH.take 14 rfl (by kernel_rfl) (by kernel_rfl) (by kernel_rfl) (fun _ _ => y_field rfl fld86_5) hT0 rfl ?_
    refine AH.take 15 rfl (by kernel_rfl) (by kernel_rfl) (by kernel_rfl) (fun _ hw => y_load rfl pl3 hw.2) hT0 rfl ?_
    refine AH.take 16 rfl (by kernel_rfl) (by kernel_rfl) (by kernel_rfl) (fun _ _ => y_arrh (j := L1.length) rfl rfl Tryd.underlying73 siz5 (by omega)) hT0 rfl ?_
    refine AH.oneCall 17 rfl (by kernel_rfl) ent68 rfl (decode64w_ret (src := L1) (vs := vs) (g := gd) (off := 1030) (sb := gd) (so := 4) hbc3.drew hec hst hf hb1.drew hd.dc.symm (.inr (.inl (by omega))) hv hq hzs (hX1.trans hX) (.inr ⟨rfl, Bs.of_row hb1.drew (hF1.buf)⟩) rfl (by omega) (by omega) (Nat.le_refl _) (by have := hF1.size; omega) (.inr (Nat.zero_le _)) (by omega) (by omega)) rfl ?_
    rintro _ w4 ⟨rfl, ⟨d4, hb4, hz4, ho4, hh4⟩, hk4⟩
    rw [← hnb]
    have hF4 : DF 768 d4 .nilIface (bif true then ((.iface 116 (.pointer (some ae))) : Value) else .nilIface) (.pointer (some ⟨gc, 0, none⟩)) (.iface 81 (.pointer (some ⟨gf, 0, none⟩))) L1 L1.length := hF1.up hz4 ho4 (by omega) (by omega)
    have hF5 := hF4.set0 .nilIface
    have hb5 := Bk.set hb4 (0 + 0) .nilIface
    have hT1 : w4.cell? ⟨gd, 2, none⟩ = some (.pointer (some ⟨gc, 0, none⟩)) ∧ w4.cell? ⟨gd, 1028, none⟩ = some (.int .i64 (L1.length : Int)) := ⟨hb4.at_ hF4.c2, hb4.at_ hF4.nb⟩
    have hT2 : (w4.setCell ⟨gd, 0 + 0, none⟩ .nilIface).cell? ⟨gd, 2, none⟩ = some (.pointer (some ⟨gc, 0, none⟩)) ∧ (w4.setCell ⟨gd, 0 + 0, none⟩ .nilIface).cell? ⟨gd, 1028, none⟩ = some (.int .i64 (L1.length : Int)) := ⟨hb5.at_ hF5.c2, hb5.at_ hF5.nb⟩
    have hbN := Bk.set hb5 (0 + 1028) (.int .i64 ((0 : Nat) : Int))
    have hFN := hF5.setN 0 (by omega)
    have hK5 : Kp (· = gd) w3 ((w4.setCell ⟨gd, 0 + 0, none⟩ .nilIface).setCell ⟨gd, 0 + 1028, none⟩ (.int .i64 ((0 : Nat) : Int))) := (((Kp.refl (· = gd) w3).drew.trans hk4).set (.inl rfl) _).set (.inl rfl) _
    have hb6 := Bk.set hbN (0 + 1029) (.slice (some ⟨gd, 0 + 1030, none⟩) nb 768)
    have hF6 := (hFN).setO (.slice (some ⟨gd, 0 + 1030, none⟩) nb 768) (by omega)
    have hh6 : Hd _ (1030 + 0) (Pl.unpack 6 vs) := (((show Hd d4 (1030 + 0) (Pl.unpack 6 vs) from hh4).outs (Outs.one _ 0 .nilIface) (by omega)).outs (Outs.one _ 1028 (.int .i64 ((0 : Nat) : Int))) (by omega)).outs (Outs.one _ 1029 (.slice (some ⟨gd, 0 + 1030, none⟩) nb 768)) (by omega)
    have hsl : ((Pl.unpack 6 vs).take q).length = q := by rw [List.length_take]; omega
    have hK6 : Kp (· = gd) w3 (((w4.setCell ⟨gd, 0 + 0, none⟩ .nilIface).setCell ⟨gd, 0 + 1028, none⟩ (.int .i64 ((0 : Nat) : Int))).setCell ⟨gd, 0 + 1029, none⟩ (.slice (some ⟨gd, 0 + 1030, none⟩) nb 768)) := hK5.set (.inl rfl) _
    have hP6 := hP3.kept hK6 hd.pd
    have hrd : Rd (((w4.setCell ⟨gd, 0 + 0, none⟩ .nilIface).setCell ⟨gd, 0 + 1028, none⟩ (.int .i64 ((0 : Nat) : Int))).setCell ⟨gd, 0 + 1029, none⟩ (.slice (some ⟨gd, 0 + 1030, none⟩) nb 768)) (some ⟨gd, 0 + 1030, none⟩) (bv ((Pl.unpack 6 vs).take q)) := (hh6.take q).rd hb6
    have hK7 : Kp (· = gp) (((w4.setCell ⟨gd, 0 + 0, none⟩ .nilIface).setCell ⟨gd, 0 + 1028, none⟩ (.int .i64 ((0 : Nat) : Int))).setCell ⟨gd, 0 + 1029, none⟩ (.slice (some ⟨gd, 0 + 1030, none⟩) nb 768)) (setCells (((w4.setCell ⟨gd, 0 + 0, none⟩ .nilIface).setCell ⟨gd, 0 + 1028, none⟩ (.int .i64 ((0 : Nat) : Int))).setCell ⟨gd, 0 + 1029, none⟩ (.slice (some ⟨gd, 0 + 1030, none⟩) nb 768)) gp 0 (bv ((Pl.unpack 6 vs).take q))) := setCells_kp (S := (· = gp)) (.inl rfl) (Kp.refl _ _)
    have hb7 := hb6.kept hK7 hd.pd.symm
    have hP7 : Bk (setCells (((w4.setCell ⟨gd, 0 + 0, none⟩ .nilIface).setCell ⟨gd, 0 + 1028, none⟩ (.int .i64 ((0 : Nat) : Int))).setCell ⟨gd, 0 + 1029, none⟩ (.slice (some ⟨gd, 0 + 1030, none⟩) nb 768)) gp 0 (bv ((Pl.unpack 6 vs).take q))) gp (splice ps 0 (bv ((Pl.unpack 6 vs).take q))) tp (0, 0) := setCells_bk hP6
    have hb8 := Bk.set hb7 (0 + 1029) (.slice (if 768 = q then some ⟨gd, 0 + 1030, none⟩ else (some ⟨gd, 0 + 1030, none⟩ : Option Addr).map (·.add q)) (nb - q) (768 - q))
    have hF8 := hF6.setO (.slice (if 768 = q then some ⟨gd, 0 + 1030, none⟩ else (some ⟨gd, 0 + 1030, none⟩ : Option Addr).map (·.add q)) (nb - q) (768 - q)) (by omega)
    have hK8 : Kp (fun k => k = gd ∨ k = gg ∨ k = gr ∨ k = gp) w ((setCells (((w4.setCell ⟨gd, 0 + 0, none⟩ .nilIface).setCell ⟨gd, 0 + 1028, none⟩ (.int .i64 ((0 : Nat) : Int))).setCell ⟨gd, 0 + 1029, none⟩ (.slice (some ⟨gd, 0 + 1030, none⟩) nb 768)) gp 0 (bv ((Pl.unpack 6 vs).take q))).setCell ⟨gd, 0 + 1029, none⟩ (.slice (if 768 = q then some ⟨gd, 0 + 1030, none⟩ else (some ⟨gd, 0 + 1030, none⟩ : Option Addr).map (·.add q)) (nb - q) (768 - q))) := (hK3r.trans' ((hK6.mono fun _ _ e => .inl e : Kp (fun x => x = gd ∨ x = gp) _ _).trans' hK7 (fun _ _ e => .inr e)) (fun x _ e => e.elim .inl (fun h => .inr (.inr (.inr h))))).set (.inl (.inl rfl)) _
    have hO8 := OF.give (oa := some ⟨gd, 1030 + 0, none⟩) (oc := 768) (k := q) (j := 0) (gd := gd) hF6.size hh6 (by omega) (by omega) (by omega) rfl
    rw [hdl] at hO8
    refine ⟨hT1, ?_⟩
    refine AH.take 18 rfl (by kernel_rfl) (by kernel_rfl) (by kernel_rfl) (fun _ _ => y_move rfl) hT1 rfl ?_
    refine AH.take 19 rfl (by kernel_rfl) (by kernel_rfl) (by kernel_rfl) (fun _ _ => y_ext rfl rfl) hT1 rfl ?_
    refine AH.take 20 rfl (by kernel_rfl) (by kernel_rfl) (by kernel_rfl) (fun _ _ => y_ext rfl rfl) hT1 rfl ?_
    refine AH.take 21 rfl (by kernel_rfl) (by kernel_rfl) (by kernel_rfl) (fun _ _ => y_assign rfl) hT1 rfl ?_
    refine AH.take 22 rfl (by kernel_rfl) (by kernel_rfl) (by kernel_rfl) (fun _ _ => y_nilp rfl) hT1 rfl ?_
    refine AH.take 23 rfl (by kernel_rfl) (by kernel_rfl) (by kernel_rfl) (fun _ _ => y_field rfl fld86_0) hT1 rfl ?_
    refine AH.oneS 24 rfl (by kernel_rfl) (s_store rfl rfl rfl siz47 (hb4.at_ hF4.c0) (Bk.melt hb4)) hT2 ?_
    refine AH.done (by kernel_rfl) ?_
    refine E.next ?_
    refine C.seq ?_
    refine C.reg ?_
    refine W.y (y_move rfl) rfl ?_
    refine W.y (y_nilp rfl) rfl ?_
    refine W.y (y_field rfl fld86_5) rfl ?_
    refine W.s (s_store rfl rfl rfl siz3 (hb5.at_ hF5.nb) (Bk.melt hb5)) ?_
    refine W.fin ?_
    refine E.next ?_
    refine C.seq ?_
    refine C.reg ?_
    refine W.y (y_move rfl) rfl ?_
    refine W.y (y_move rfl) rfl ?_
    refine W.y (y_nilp rfl) rfl ?_
    refine W.y (y_field rfl fld86_7) rfl ?_
    refine W.y (y_move rfl) rfl ?_
    refine W.y (y_arrh (j := nb) rfl rfl Tryd.underlying84 siz5 (by omega)) rfl ?_
    refine W.y (y_nilp rfl) rfl ?_
    refine W.y (y_field rfl fld86_6) rfl ?_
    refine W.s (s_store rfl rfl rfl siz22 (Bk.some hbN (by simp only [Array.size_setIfInBounds]; have := hF4.size; omega)) (Bk.melt hbN)) ?_
    refine W.fin ?_
    refine E.next ?_
    refine C.seq ?_
    refine C.reg ?_
    refine W.y (y_move rfl) rfl ?_
    refine W.y (y_move rfl) rfl ?_
    refine W.y (y_nilp rfl) rfl ?_
    refine W.y (y_field rfl fld86_6) rfl ?_
    refine W.y (y_load rfl pl22 (hb6.at_ (by rw [Array.getElem?_setIfInBounds, if_pos rfl, if_pos (by simp only [Array.size_setIfInBounds]; have := hF4.size; omega)]))) rfl ?_
    refine W.y (Does.as (y_copy rfl rfl (run_copyB Tryd.underlying22 siz5 hP6 hrd (by rw [bv_length, hsl]; exact hq0) (one_u8 _) (by rw [bv_length]; omega) (.inr (Nat.zero_le _)))) (vint (b := (q : Int)) (by rw [bv_length, hsl]))) rfl ?_
    refine W.y (y_assign rfl) rfl ?_
    refine W.fin ?_
    refine E.next ?_
    refine C.seq ?_
    refine C.reg ?_
    refine W.y (y_move rfl) rfl ?_
    refine W.y (y_move rfl) rfl ?_
    refine W.y (y_nilp rfl) rfl ?_
    refine W.y (y_field rfl fld86_6) rfl ?_
    refine W.y (y_load rfl pl22 (hb7.at_ (by rw [Array.getElem?_setIfInBounds, if_pos rfl, if_pos (by simp only [Array.size_setIfInBounds]; have := hF4.size; omega)]))) rfl ?_
    refine W.y (y_move rfl) rfl ?_
    refine W.y (y_cutl rfl rfl Tryd.underlying22 siz5 (by omega)) rfl ?_
    refine W.y (y_nilp rfl) rfl ?_
    refine W.y (y_field rfl fld86_6) rfl ?_
    refine W.s (s_store rfl rfl rfl siz22 (hb7.at_ (by rw [Array.getElem?_setIfInBounds, if_pos rfl, if_pos (by simp only [Array.size_setIfInBounds]; have := hF4.size; omega)])) (Bk.melt hb7)) ?_
    refine W.fin ?_
    refine E.next ?_
    refine C.seq ?_
    refine C.seq ?_
    refine C.reg ?_
    refine W.y (y_move rfl) rfl ?_
    refine W.y (y_gtrT rfl rfl (by omega)) rfl ?_
    refine W.y (y_move rfl) rfl ?_
    refine W.gn rfl rfl rfl ?_
    refine W.gn rfl rfl rfl ?_
    refine W.gn rfl rfl rfl ?_
    refine W.gn rfl rfl rfl ?_
    refine W.gu rfl rfl rfl ?_
    refine W.gu rfl rfl rfl ?_
    refine W.gu rfl rfl rfl ?_
    refine W.gu rfl rfl rfl ?_
    refine W.gu rfl rfl rfl ?_
    refine W.gu rfl rfl rfl ?_
    refine W.gn rfl rfl rfl ?_
    refine W.y (y_pick rfl rfl) rfl ?_
    refine W.fin ?_
    refine E.next ?_
    refine C.yes rfl ?_
    refine C.seq ?_
    refine C.reg ?_
    refine W.y (y_move rfl) rfl ?_
    refine W.y (y_assign rfl) rfl ?_
    refine W.y (y_assign rfl) rfl ?_
    refine W.fin ?_
    refine E.next ?_
    refine C.ret ?_
    refine E.thenRet ?_
    refine E.thenRet ?_
    refine E.thenRet ?_
    exact E.ret2 rfl rfl rfl ⟨hK8, .inr ⟨q, hqq.1, hqq.2.1, by omega, rfl, ⟨_, hP7.ne hd.pd _, by rw [splice_size]; exact hps, Hd.of_splice (by omega)⟩, _, [], [], (Pl.unpack 6 vs).drop q, [], true, hb8, hF8.outs rfl (Outs.refl _ 4 0) (by omega) (.inl (by omega)) (Hd.nil _ _), hO8, (hs1.kept hK6 hd.df.symm hd.dg.symm hd.dr.symm).kept ((hK7.mono fun _ _ e => .inl e : Kp (fun x => x = gp ∨ x = gd) _ _).set (.inl (.inr rfl)) _) hd.nf2 hd.ng2 hd.nr2, by simp, (fun _ => rfl), by
      unfold Pl.pads
      split <;> rfl, (fun v h => by cases h), ⟨0, rfl⟩, (fun _ => ⟨[], rfl⟩), by simp [Pl.unpack], by simp⟩⟩
  obtain ⟨n1, hn1⟩ : ∃ n1, n1 = L1.length := ⟨_, rfl⟩
  rw [← hn1] at hF1 hL1 hXn
  obtain ⟨nr, hnr⟩ : ∃ nr, nr = n1 / 4 * 4 := ⟨_, rfl⟩
  obtain ⟨vs1, vs2, hvv, htk, hdk, hcs, hc1, hc2, hq1, hq2, hun⟩ := chunk64 (al := al) (pad := pad) (vs := vs) (nr := nr) hlo hq (by omega) (by rw [← hX, ← hX1, List.length_append]; omega)
  rw [← hX, ← hX1] at htk hdk hcs
  rw [List.take_append_of_le_length (by omega)] at htk
  rw [List.drop_append_of_le_length (by omega)] at hdk
  have hv1 : ∀ v ∈ vs1, v < 64 := fun v h => hv v (by rw [hvv]; exact List.mem_append_left _ h)
  have hv2 : ∀ v ∈ vs2, v < 64 := fun v h => hv v (by rw [hvv]; exact List.mem_append_right _ h)
  have hz1 : st = true → ∃ s, vs1 = Pl.nums 6 s := fun e => by
    obtain ⟨s, hs⟩ := hzs e
    exact (nums_cut64 (hvv.symm.trans hs) (hcs.imp id And.left) (by omega)).1
  have hz2 : st = true → ∃ s, vs2 = Pl.nums 6 s := fun e => by
    obtain ⟨s, hs⟩ := hzs e
    exact (nums_cut64 (hvv.symm.trans hs) (hcs.imp id And.left) (by omega)).2
  have hvl2 : vs.length = vs1.length + vs2.length := by rw [hvv, List.length_append]
  have htl : (L1.take nr).length = nr := by rw [List.length_take]; omega
  obtain ⟨nb, hnb⟩ : ∃ nb, nb = 6 * vs1.length / 8 := ⟨_, rfl⟩
  have hnb1 : 1 ≤ nb ∧ nb ≤ nr / 4 * 3 := by
    have hrem1 := rem64 hq1
    omega
  have hdl : (Pl.unpack 6 vs1).length = nb := by rw [Pl.unpack_length, hnb]
  have hsz1 := hF1.size
  refine C.seq ?_
  refine C.seq ?_
  refine C.reg ?_
  refine W.y (y_move rfl) rfl ?_
  refine W.y (y_nilp rfl) rfl ?_
  refine W.y (y_field rfl fld86_5) rfl ?_
  refine W.y (y_load rfl pl3 (hb1.at_ hF1.nb)) rfl ?_
  refine W.y (y_lssF rfl rfl (by omega)) rfl ?_
  refine W.fin ?_
  refine E.next ?_
  refine C.no rfl ?_
  refine C.skip ?_
  refine E.next ?_
  refine C.seq ?_
  refine C.reg ?_
  refine W.y (y_move rfl) rfl ?_
  refine W.y (y_nilp rfl) rfl ?_
  refine W.y (y_field rfl fld86_5) rfl ?_
  refine W.y (y_load rfl pl3 (hb1.at_ hF1.nb)) rfl ?_
  refine W.y (y_quo rfl rfl (by omega) (by omega) (by omega)) rfl ?_
  refine W.y (Does.as (y_mul rfl rfl (wi64 (by omega) (by omega))) (vint (b := ((nr : Nat) : Int)) (by omega))) rfl ?_
  refine W.y (y_assign rfl) rfl ?_
  refine W.fin ?_
  refine E.next ?_
  refine C.seq ?_
  refine C.reg ?_
  refine W.y (y_move rfl) rfl ?_
  refine W.y (y_nilp rfl) rfl ?_
  refine W.y (y_field rfl fld86_5) rfl ?_
  refine W.y (y_load rfl pl3 (hb1.at_ hF1.nb)) rfl ?_
  refine W.y (y_quo rfl rfl (by omega) (by omega) (by omega)) rfl ?_
  refine W.y (Does.as (y_mul rfl rfl (wi64 (by omega) (by omega))) (vint (b := ((nr / 4 * 3 : Nat) : Int)) (by omega))) rfl ?_
  refine W.y (y_assign rfl) rfl ?_
  refine W.fin ?_
  refine E.next ?_
  refine C.mid (σ := Nat × Array Value × Array Value) (fun (n, d4, p4) w' => Kp (fun k => k = gd ∨ k = gg ∨ k = gr ∨ k = gp) w w' ∧ Bk w' gd d4 86 (0, 0) ∧ DF 768 d4 .nilIface (bif r1 then ((.iface 116 (.pointer (some ae))) : Value) else .nilIface) (.pointer (some ⟨gc, 0, none⟩)) (.iface 81 (.pointer (some ⟨gf, 0, none⟩))) L1 n1 ∧ OF 768 d4 gd ((Pl.unpack 6 vs1).drop n) ∧ Src 83 55 57 9 w' gf gg gr (R1) ∧ Bk w' gp p4 tp (0, 0) ∧ p4.size = m ∧ Hd p4 0 ((Pl.unpack 6 vs1).take n) ∧ 1 ≤ n ∧ n ≤ m ∧ n ≤ nb) (fun (n, _, _) => [(0, .pointer (some ⟨gd, 0, none⟩)), (1, .slice (some ⟨gp, 0, none⟩) m m), (4, .int .i64 (n : Int)), (8, .int .i64 (nr : Int))]) ?_ ?_
  · have hT0 : w3.drew.cell? ⟨gd, 2, none⟩ = some (.pointer (some ⟨gc, 0, none⟩)) := hb1.at_ hF1.c2
    by_cases hbig : m < nr / 4 * 3
    · obtain ⟨q, hq0⟩ : ∃ q, q = Nat.min nb m := ⟨_, rfl⟩
      have hqq : 1 ≤ q ∧ q ≤ m ∧ q ≤ nb := by
        have e : q = min nb m := hq0
        omega
      refine C.seq ?_
      refine C.reg ?_
      refine W.y (y_move rfl) rfl ?_
      refine W.y (y_move rfl) rfl ?_
      refine W.y (y_len rfl Tryd.underlying22) rfl ?_
      refine W.y (y_gtrT rfl rfl (by omega)) rfl ?_
      refine W.fin ?_
      refine E.next ?_
      refine C.yes rfl ?_
      refine C.seq ?_
      refine C.held (fun w' => w'.cell? ⟨gd, 2, none⟩ = some (.pointer (some ⟨gc, 0, none⟩))) mixed ?_
      refine AH.take 0 rfl (by kernel_rfl) (by kernel_rfl) (by kernel_rfl) (fun _ _ => y_move rfl) hT0 rfl ?_
      refine AH.take 1 rfl (by kernel_rfl) (by kernel_rfl) (by kernel_rfl) (fun _ _ => y_move rfl) hT0 rfl ?_
      refine AH.take 2 rfl (by kernel_rfl) (by kernel_rfl) (by kernel_rfl) (fun _ _ => y_nilp rfl) hT0 rfl ?_
      refine AH.take 3 rfl (by kernel_rfl) (by kernel_rfl) (by kernel_rfl) (fun _ _ => y_field rfl fld86_2) hT0 rfl ?_
      refine AH.take 4 rfl (by kernel_rfl) (by kernel_rfl) (by kernel_rfl) (fun _ hw => y_load rfl pl62 hw) hT0 rfl ?_
      refine AH.take 5 rfl (by kernel_rfl) (by kernel_rfl) (by kernel_rfl) (fun _ _ => y_move rfl) hT0 rfl ?_
      refine AH.take 6 rfl (by kernel_rfl) (by kernel_rfl) (by kernel_rfl) (fun _ _ => y_nilp rfl) hT0 rfl ?_
      refine AH.take 7 rfl (by kernel_rfl) (by kernel_rfl) (by kernel_rfl) (fun _ _ => y_field rfl fld86_7) hT0 rfl ?_
      refine AH.take 8 rfl (by kernel_rfl) (by kernel_rfl) (by kernel_rfl) (fun _ _ => y_arr rfl Tryd.underlying84 siz5) hT0 rfl ?_
      refine AH.take 9 rfl (by kernel_rfl) (by kernel_rfl) (by kernel_rfl) (fun _ _ => y_move rfl) hT0 rfl ?_
      refine AH.take 10 rfl (by kernel_rfl) (by kernel_rfl) (by kernel_rfl) (fun _ _ => y_nilp rfl) hT0 rfl ?_
      refine AH.take 11 rfl (by kernel_rfl) (by kernel_rfl) (by kernel_rfl) (fun _ _ => y_field rfl fld86_4) hT0 rfl ?_
      refine AH.take 12 rfl (by kernel_rfl) (by kernel_rfl) (by kernel_rfl) (fun _ _ => y_move rfl) hT0 rfl ?_
      refine AH.take 13 rfl (by kernel_rfl) (by kernel_rfl) (by kernel_rfl) (fun _ _ => y_arrh (j := nr) rfl rfl Tryd.underlying73 siz5 (by omega)) hT0 rfl ?_
      refine AH.oneCall 14 rfl (by kernel_rfl) ent68 rfl (decode64w_ret (src := L1.take nr) (vs := vs1) (g := gd) (off := 1030) (sb := gd) (so := 4) hbc3.drew hec hst hf hb1.drew hd.dc.symm (.inr (.inl (by rw [htl]; omega))) hv1 hq1 hz1 htk (.inr ⟨rfl, Bs.of_row hb1.drew (hF1.buf.take nr)⟩) htl (by omega) (by omega) (Nat.le_refl _) (by omega) (.inr (Nat.zero_le _)) (by omega) (by omega)) rfl ?_
      rintro _ w4 ⟨rfl, ⟨d4, hb4, hz4, ho4, hh4⟩, hk4⟩
      rw [← hnb]
      have hF4 : DF 768 d4 .nilIface (bif r1 then ((.iface 116 (.pointer (some ae))) : Value) else .nilIface) (.pointer (some ⟨gc, 0, none⟩)) (.iface 81 (.pointer (some ⟨gf, 0, none⟩))) L1 n1 := hF1.up hz4 ho4 (by omega) (by omega)
      have hF5 := hF4.set0 .nilIface
      have hb5 := Bk.set hb4 (0 + 0) .nilIface
      have hT1 : w4.cell? ⟨gd, 2, none⟩ = some (.pointer (some ⟨gc, 0, none⟩)) := hb4.at_ hF4.c2
      have hT2 : (w4.setCell ⟨gd, 0 + 0, none⟩ .nilIface).cell? ⟨gd, 2, none⟩ = some (.pointer (some ⟨gc, 0, none⟩)) := hb5.at_ hF5.c2
      have hK5 : Kp (· = gd) w3 (w4.setCell ⟨gd, 0 + 0, none⟩ .nilIface) := ((Kp.refl (· = gd) w3).drew.trans hk4).set (.inl rfl) _
      have hb6 := Bk.set hb5 (0 + 1029) (.slice (some ⟨gd, 0 + 1030, none⟩) nb 768)
      have hF6 := (hF5).setO (.slice (some ⟨gd, 0 + 1030, none⟩) nb 768) (by omega)
      have hh6 : Hd _ (1030 + 0) (Pl.unpack 6 vs1) := ((show Hd d4 (1030 + 0) (Pl.unpack 6 vs1) from hh4).outs (Outs.one _ 0 .nilIface) (by omega)).outs (Outs.one _ 1029 (.slice (some ⟨gd, 0 + 1030, none⟩) nb 768)) (by omega)
      have hsl : ((Pl.unpack 6 vs1).take q).length = q := by rw [List.length_take]; omega
      have hK6 : Kp (· = gd) w3 ((w4.setCell ⟨gd, 0 + 0, none⟩ .nilIface).setCell ⟨gd, 0 + 1029, none⟩ (.slice (some ⟨gd, 0 + 1030, none⟩) nb 768)) := hK5.set (.inl rfl) _
      have hP6 := hP3.kept hK6 hd.pd
      have hrd : Rd ((w4.setCell ⟨gd, 0 + 0, none⟩ .nilIface).setCell ⟨gd, 0 + 1029, none⟩ (.slice (some ⟨gd, 0 + 1030, none⟩) nb 768)) (some ⟨gd, 0 + 1030, none⟩) (bv ((Pl.unpack 6 vs1).take q)) := (hh6.take q).rd hb6
      have hK7 : Kp (· = gp) ((w4.setCell ⟨gd, 0 + 0, none⟩ .nilIface).setCell ⟨gd, 0 + 1029, none⟩ (.slice (some ⟨gd, 0 + 1030, none⟩) nb 768)) (setCells ((w4.setCell ⟨gd, 0 + 0, none⟩ .nilIface).setCell ⟨gd, 0 + 1029, none⟩ (.slice (some ⟨gd, 0 + 1030, none⟩) nb 768)) gp 0 (bv ((Pl.unpack 6 vs1).take q))) := setCells_kp (S := (· = gp)) (.inl rfl) (Kp.refl _ _)
      have hb7 := hb6.kept hK7 hd.pd.symm
      have hP7 : Bk (setCells ((w4.setCell ⟨gd, 0 + 0, none⟩ .nilIface).setCell ⟨gd, 0 + 1029, none⟩ (.slice (some ⟨gd, 0 + 1030, none⟩) nb 768)) gp 0 (bv ((Pl.unpack 6 vs1).take q))) gp (splice ps 0 (bv ((Pl.unpack 6 vs1).take q))) tp (0, 0) := setCells_bk hP6
      have hb8 := Bk.set hb7 (0 + 1029) (.slice (if 768 = q then some ⟨gd, 0 + 1030, none⟩ else (some ⟨gd, 0 + 1030, none⟩ : Option Addr).map (·.add q)) (nb - q) (768 - q))
      have hF8 := hF6.setO (.slice (if 768 = q then some ⟨gd, 0 + 1030, none⟩ else (some ⟨gd, 0 + 1030, none⟩ : Option Addr).map (·.add q)) (nb - q) (768 - q)) (by omega)
      have hK8 : Kp (fun k => k = gd ∨ k = gg ∨ k = gr ∨ k = gp) w ((setCells ((w4.setCell ⟨gd, 0 + 0, none⟩ .nilIface).setCell ⟨gd, 0 + 1029, none⟩ (.slice (some ⟨gd, 0 + 1030, none⟩) nb 768)) gp 0 (bv ((Pl.unpack 6 vs1).take q))).setCell ⟨gd, 0 + 1029, none⟩ (.slice (if 768 = q then some ⟨gd, 0 + 1030, none⟩ else (some ⟨gd, 0 + 1030, none⟩ : Option Addr).map (·.add q)) (nb - q) (768 - q))) := (hK3r.trans' ((hK6.mono fun _ _ e => .inl e : Kp (fun x => x = gd ∨ x = gp) _ _).trans' hK7 (fun _ _ e => .inr e)) (fun x _ e => e.elim .inl (fun h => .inr (.inr (.inr h))))).set (.inl (.inl rfl)) _
      have hO8 := OF.give (oa := some ⟨gd, 1030 + 0, none⟩) (oc := 768) (k := q) (j := 0) (gd := gd) hF6.size hh6 (by omega) (by omega) (by omega) rfl
      rw [hdl] at hO8
      refine ⟨hT1, ?_⟩
      refine AH.take 15 rfl (by kernel_rfl) (by kernel_rfl) (by kernel_rfl) (fun _ _ => y_move rfl) hT1 rfl ?_
      refine AH.take 16 rfl (by kernel_rfl) (by kernel_rfl) (by kernel_rfl) (fun _ _ => y_ext rfl rfl) hT1 rfl ?_
      refine AH.take 17 rfl (by kernel_rfl) (by kernel_rfl) (by kernel_rfl) (fun _ _ => y_ext rfl rfl) hT1 rfl ?_
      refine AH.take 18 rfl (by kernel_rfl) (by kernel_rfl) (by kernel_rfl) (fun _ _ => y_assign rfl) hT1 rfl ?_
      refine AH.take 19 rfl (by kernel_rfl) (by kernel_rfl) (by kernel_rfl) (fun _ _ => y_nilp rfl) hT1 rfl ?_
      refine AH.take 20 rfl (by kernel_rfl) (by kernel_rfl) (by kernel_rfl) (fun _ _ => y_field rfl fld86_0) hT1 rfl ?_
      refine AH.oneS 21 rfl (by kernel_rfl) (s_store rfl rfl rfl siz47 (hb4.at_ hF4.c0) (Bk.melt hb4)) hT2 ?_
      refine AH.done (by kernel_rfl) ?_
      refine E.next ?_
      refine C.seq ?_
      refine C.reg ?_
      refine W.y (y_move rfl) rfl ?_
      refine W.y (y_move rfl) rfl ?_
      refine W.y (y_nilp rfl) rfl ?_
      refine W.y (y_field rfl fld86_7) rfl ?_
      refine W.y (y_move rfl) rfl ?_
      refine W.y (y_arrh (j := nb) rfl rfl Tryd.underlying84 siz5 (by omega)) rfl ?_
      refine W.y (y_nilp rfl) rfl ?_
      refine W.y (y_field rfl fld86_6) rfl ?_
      refine W.s (s_store rfl rfl rfl siz22 (Bk.some hb5 (by simp only [Array.size_setIfInBounds]; have := hF4.size; omega)) (Bk.melt hb5)) ?_
      refine W.fin ?_
      refine E.next ?_
      refine C.seq ?_
      refine C.reg ?_
      refine W.y (y_move rfl) rfl ?_
      refine W.y (y_move rfl) rfl ?_
      refine W.y (y_nilp rfl) rfl ?_
      refine W.y (y_field rfl fld86_6) rfl ?_
      refine W.y (y_load rfl pl22 (hb6.at_ (by rw [Array.getElem?_setIfInBounds, if_pos rfl, if_pos (by simp only [Array.size_setIfInBounds]; have := hF4.size; omega)]))) rfl ?_
      refine W.y (Does.as (y_copy rfl rfl (run_copyB Tryd.underlying22 siz5 hP6 hrd (by rw [bv_length, hsl]; exact hq0) (one_u8 _) (by rw [bv_length]; omega) (.inr (Nat.zero_le _)))) (vint (b := (q : Int)) (by rw [bv_length, hsl]))) rfl ?_
      refine W.y (y_assign rfl) rfl ?_
      refine W.fin ?_
      refine E.next ?_
      refine C.reg ?_
      refine W.y (y_move rfl) rfl ?_
      refine W.y (y_move rfl) rfl ?_
      refine W.y (y_nilp rfl) rfl ?_
      refine W.y (y_field rfl fld86_6) rfl ?_
      refine W.y (y_load rfl pl22 (hb7.at_ (by rw [Array.getElem?_setIfInBounds, if_pos rfl, if_pos (by simp only [Array.size_setIfInBounds]; have := hF4.size; omega)]))) rfl ?_
      refine W.y (y_move rfl) rfl ?_
      refine W.y (y_cutl rfl rfl Tryd.underlying22 siz5 (by omega)) rfl ?_
      refine W.y (y_nilp rfl) rfl ?_
      refine W.y (y_field rfl fld86_6) rfl ?_
      refine W.s (s_store rfl rfl rfl siz22 (hb7.at_ (by rw [Array.getElem?_setIfInBounds, if_pos rfl, if_pos (by simp only [Array.size_setIfInBounds]; have := hF4.size; omega)])) (Bk.melt hb7)) ?_
      refine W.fin ?_
      exact E.mid (q, _, _) ⟨hK8, hb8, hF8, hO8, (hs1.kept hK6 hd.df.symm hd.dg.symm hd.dr.symm).kept ((hK7.mono fun _ _ e => .inl e : Kp (fun x => x = gp ∨ x = gd) _ _).set (.inl (.inr rfl)) _) hd.nf2 hd.ng2 hd.nr2, hP7.ne hd.pd _, by rw [splice_size]; exact hps, Hd.of_splice (by omega), hqq.1, hqq.2.1, hqq.2.2⟩ (Sub.cons rfl (Sub.cons rfl (Sub.cons rfl (Sub.cons rfl (Sub.nil _)))))
    refine C.seq ?_
    refine C.reg ?_
    refine W.y (y_move rfl) rfl ?_
    refine W.y (y_move rfl) rfl ?_
    refine W.y (y_len rfl Tryd.underlying22) rfl ?_
    refine W.y (y_gtrF rfl rfl (by omega)) rfl ?_
    refine W.fin ?_
    refine E.next ?_
    refine C.no rfl ?_
    refine C.held (fun w' => w'.cell? ⟨gd, 2, none⟩ = some (.pointer (some ⟨gc, 0, none⟩))) mixed ?_
    refine AH.take 0 rfl (by kernel_rfl) (by kernel_rfl) (by kernel_rfl) (fun _ _ => y_move rfl) hT0 rfl ?_
    refine AH.take 1 rfl (by kernel_rfl) (by kernel_rfl) (by kernel_rfl) (fun _ _ => y_move rfl) hT0 rfl ?_
    refine AH.take 2 rfl (by kernel_rfl) (by kernel_rfl) (by kernel_rfl) (fun _ _ => y_nilp rfl) hT0 rfl ?_
    refine AH.take 3 rfl (by kernel_rfl) (by kernel_rfl) (by kernel_rfl) (fun _ _ => y_field rfl fld86_2) hT0 rfl ?_
    refine AH.take 4 rfl (by kernel_rfl) (by kernel_rfl) (by kernel_rfl) (fun _ hw => y_load rfl pl62 hw) hT0 rfl ?_
    refine AH.take 5 rfl (by kernel_rfl) (by kernel_rfl) (by kernel_rfl) (fun _ _ => y_move rfl) hT0 rfl ?_
    refine AH.take 6 rfl (by kernel_rfl) (by kernel_rfl) (by kernel_rfl) (fun _ _ => y_move rfl) hT0 rfl ?_
    refine AH.take 7 rfl (by kernel_rfl) (by kernel_rfl) (by kernel_rfl) (fun _ _ => y_nilp rfl) hT0 rfl ?_
    refine AH.take 8 rfl (by kernel_rfl) (by kernel_rfl) (by kernel_rfl) (fun _ _ => y_field rfl fld86_4) hT0 rfl ?_
    refine AH.take 9 rfl (by kernel_rfl) (by kernel_rfl) (by kernel_rfl) (fun _ _ => y_move rfl) hT0 rfl ?_
    refine AH.take 10 rfl (by kernel_rfl) (by kernel_rfl) (by kernel_rfl) (fun _ _ => y_arrh (j := nr) rfl rfl Tryd.underlying73 siz5 (by omega)) hT0 rfl ?_
    refine AH.oneCall 11 rfl (by kernel_rfl) ent68 rfl (decode64w_ret (src := L1.take nr) (vs := vs1) (g := gp) (off := 0) (sb := gd) (so := 4) hbc3.drew hec hst hf hP3.drew hd.pc.symm (.inl hd.pd.symm) hv1 hq1 hz1 htk (.inr ⟨rfl, Bs.of_row hb1.drew (hF1.buf.take nr)⟩) htl (by omega) (by omega) (Nat.le_refl _) (by omega) (.inr (Nat.zero_le _)) (by omega) (by omega)) rfl ?_
    rintro _ w4 ⟨rfl, ⟨p4, hP4, hz4, _, hh4⟩, hk4⟩
    rw [← hnb]
    have hb4 := hb1.drew.kept hk4 hd.pd.symm
    have hF5 := hF1.set0 .nilIface
    have hb5 := Bk.set hb4 (0 + 0) .nilIface
    have hT1 : w4.cell? ⟨gd, 2, none⟩ = some (.pointer (some ⟨gc, 0, none⟩)) := hb4.at_ hF1.c2
    have hT2 : (w4.setCell ⟨gd, 0 + 0, none⟩ .nilIface).cell? ⟨gd, 2, none⟩ = some (.pointer (some ⟨gc, 0, none⟩)) := hb5.at_ hF5.c2
    have hK5 : Kp (fun x => x = gp ∨ x = gd) w3 (w4.setCell ⟨gd, 0 + 0, none⟩ .nilIface) := ((((Kp.refl (· = gp) w3).drew.trans hk4).mono fun _ _ e => .inl e : Kp (fun x => x = gp ∨ x = gd) w3 w4)).set (.inl (.inr rfl)) _
    refine ⟨hT1, ?_⟩
    refine AH.take 12 rfl (by kernel_rfl) (by kernel_rfl) (by kernel_rfl) (fun _ _ => y_move rfl) hT1 rfl ?_
    refine AH.take 13 rfl (by kernel_rfl) (by kernel_rfl) (by kernel_rfl) (fun _ _ => y_ext rfl rfl) hT1 rfl ?_
    refine AH.take 14 rfl (by kernel_rfl) (by kernel_rfl) (by kernel_rfl) (fun _ _ => y_ext rfl rfl) hT1 rfl ?_
    refine AH.take 15 rfl (by kernel_rfl) (by kernel_rfl) (by kernel_rfl) (fun _ _ => y_assign rfl) hT1 rfl ?_
    refine AH.take 16 rfl (by kernel_rfl) (by kernel_rfl) (by kernel_rfl) (fun _ _ => y_nilp rfl) hT1 rfl ?_
    refine AH.take 17 rfl (by kernel_rfl) (by kernel_rfl) (by kernel_rfl) (fun _ _ => y_field rfl fld86_0) hT1 rfl ?_
    refine AH.oneS 18 rfl (by kernel_rfl) (s_store rfl rfl rfl siz47 (hb4.at_ hF1.c0) (Bk.melt hb4)) hT2 ?_
    refine AH.done (by kernel_rfl) ?_
    exact E.mid (nb, _, _) ⟨hK3r.trans' hK5 (fun x _ e => e.elim (fun h => .inr (.inr (.inr h))) .inl), hb5, hF5, by
      rw [List.drop_of_length_le (by omega)]
      exact OF.none ((Outs.one d1 0 .nilIface 1029 (by omega)).trans ho1), hs1.kept hK5 hd.nf2 hd.ng2 hd.nr2, hP4.ne hd.pd _, hz4.trans hps, by rw [List.take_of_length_le (by omega)]; exact hh4, hnb1.1, by omega, Nat.le_refl _⟩ (Sub.cons rfl (Sub.cons rfl (Sub.cons rfl (Sub.cons rfl (Sub.nil _)))))
  rintro ⟨n, d4, p4⟩ w4 ⟨hK4, hb4, hF4, hO4, hs4, hP4, hp4, hh4, hn1a, hnm, hnnb⟩
  show C _ _ _ _ [(0, .pointer (some ⟨gd, 0, none⟩)), (1, .slice (some ⟨gp, 0, none⟩) m m), (4, .int .i64 (n : Int)), (8, .int .i64 (nr : Int))] _
  obtain ⟨r, hr⟩ : ∃ r, r = n1 - nr := ⟨_, rfl⟩
  have hr8 : r < 4 := by omega
  have hF5 := hF4.setN r (by omega)
  have hb5 := Bk.set hb4 (0 + 1028) (.int .i64 (r : Int))
  have hdr : (L1.drop nr).length = r := by rw [List.length_drop]; omega
  have hsz5 := hF5.size
  have hsr : Hd _ (4 + nr) (L1.drop nr) := hF5.buf.drop nr
  have hrd : Rd (w4.setCell ⟨gd, 0 + 1028, none⟩ (.int .i64 (r : Int))).drew (some ⟨gd, if 1024 = nr then 0 + 4 else 0 + 4 + nr, none⟩) (bv (L1.drop nr)) := by
    by_cases hrz : r = 0
    · exact .inl (by rw [List.eq_nil_of_length_eq_zero (hdr.trans hrz)]; rfl)
    · rw [if_neg (by omega), Nat.zero_add]
      exact hsr.rd hb5.drew
  have hb6 : Bk (setCells (w4.setCell ⟨gd, 0 + 1028, none⟩ (.int .i64 (r : Int))).drew gd (0 + 4) (bv (L1.drop nr))) gd (splice (d4.setIfInBounds 1028 (.int .i64 (r : Int))) (0 + 4) (bv (L1.drop nr))) 86 (0, 0) := setCells_bk hb5.drew
  have ho6 : Outs (d4.setIfInBounds 1028 (.int .i64 (r : Int))) _ 4 8 := (Outs.refl _ _ _).splice (o := 0 + 4) (xs := bv (L1.drop nr)) (by omega) (by rw [bv_length]; omega) (by rw [bv_length]; omega)
  have hF6 := hF5.outs (by rw [splice_size]) ho6 (by omega) (.inl (by omega)) (L' := L1.drop nr) (by have := Hd.of_splice (ds := d4.setIfInBounds 1028 (.int .i64 (r : Int))) (o := 0 + 4) (s := L1.drop nr) (by omega); exact this)
  have hO6 := (hO4.low (Outs.one d4 1028 (.int .i64 (r : Int))) (by omega)).low ho6 (by omega)
  have hk6 : Kp (· = gd) w4 (setCells (w4.setCell ⟨gd, 0 + 1028, none⟩ (.int .i64 (r : Int))).drew gd (0 + 4) (bv (L1.drop nr))) := setCells_kp (S := (· = gd)) (.inl rfl) (((Kp.refl (· = gd) w4).set (.inl rfl) _).drew)
  have hSt : St64 86 81 83 55 57 9 (setCells (w4.setCell ⟨gd, 0 + 1028, none⟩ (.int .i64 (r : Int))).drew gd (0 + 4) (bv (L1.drop nr))) gd gc gf gg gr al pad st (.iface 116 (.pointer (some ae))) ((Pl.unpack 6 vs).drop n) := ⟨_, L1.drop nr, R1, (Pl.unpack 6 vs1).drop n, vs2, r1, hb6, by rw [hdr]; exact hF6, hO6, hs4.kept hk6 hd.df.symm hd.dg.symm hd.dr.symm, by omega, hr1, hdk, hv2, hq2, hz2, by rw [hun, List.drop_append_of_le_length (by omega)], by omega⟩
  refine C.seq ?_
  refine C.reg ?_
  refine W.y (y_move rfl) rfl ?_
  refine W.y (y_nilp rfl) rfl ?_
  refine W.y (y_field rfl fld86_5) rfl ?_
  refine W.y (y_load rfl pl3 (hb4.at_ hF4.nb)) rfl ?_
  refine W.y (y_move rfl) rfl ?_
  refine W.y (Does.as (y_sub rfl rfl (wi64 (by omega) (by omega))) (vint (b := ((r : Nat) : Int)) (by omega))) rfl ?_
  refine W.y (y_nilp rfl) rfl ?_
  refine W.y (y_field rfl fld86_5) rfl ?_
  refine W.s (s_store rfl rfl rfl siz3 (hb4.at_ hF4.nb) (Bk.melt hb4)) ?_
  refine W.fin ?_
  refine E.next ?_
  refine C.seq ?_
  refine C.any mixed ?_
  refine AN.take 0 rfl (by kernel_rfl) (by kernel_rfl) (by kernel_rfl) (fun _ => y_move rfl) rfl ?_
  refine AN.take 1 rfl (by kernel_rfl) (by kernel_rfl) (by kernel_rfl) (fun _ => y_nilp rfl) rfl ?_
  refine AN.take 2 rfl (by kernel_rfl) (by kernel_rfl) (by kernel_rfl) (fun _ => y_field rfl fld86_4) rfl ?_
  refine AN.take 3 rfl (by kernel_rfl) (by kernel_rfl) (by kernel_rfl) (fun _ => y_move rfl) rfl ?_
  refine AN.take 4 rfl (by kernel_rfl) (by kernel_rfl) (by kernel_rfl) (fun _ => y_nilp rfl) rfl ?_
  refine AN.take 5 rfl (by kernel_rfl) (by kernel_rfl) (by kernel_rfl) (fun _ => y_field rfl fld86_5) rfl ?_
  refine AN.take 8 rfl (by kernel_rfl) (by kernel_rfl) (by kernel_rfl) (fun _ => y_move rfl) rfl ?_
  refine AN.take 9 rfl (by kernel_rfl) (by kernel_rfl) (by kernel_rfl) (fun _ => y_nilp rfl) rfl ?_
  refine AN.take 10 rfl (by kernel_rfl) (by kernel_rfl) (by kernel_rfl) (fun _ => y_field rfl fld86_4) rfl ?_
  refine AN.take 11 rfl (by kernel_rfl) (by kernel_rfl) (by kernel_rfl) (fun _ => y_move rfl) rfl ?_
  refine AN.take 12 rfl (by kernel_rfl) (by kernel_rfl) (by kernel_rfl) (fun _ => y_arrlG (i := nr) rfl rfl Tryd.underlying73 siz5 (by omega)) rfl ?_
  refine AN.one 6 rfl (by kernel_rfl) (y_load rfl pl3 (hb5.drew.at_ hF5.nb)) rfl ?_
  refine AN.take 7 rfl (by kernel_rfl) (by kernel_rfl) (by kernel_rfl) (fun _ => y_arrh (j := r) rfl rfl Tryd.underlying73 siz5 (by omega)) rfl ?_
  refine AN.one 13 rfl (by kernel_rfl) (y_copy rfl rfl (run_copyB Tryd.underlying22 siz5 hb5.drew hrd (by rw [bv_length, hdr]; show r = min (1024 - nr) r; omega) (one_u8 _) (by rw [bv_length, Array.size_setIfInBounds]; have := hF4.size; omega) (.inr (Nat.zero_le _)))) rfl ?_
  refine AN.done (by kernel_rfl) ?_
  refine E.next ?_
  refine C.seq ?_
  refine C.still mixed (by kernel_rfl) ?_
  refine S.y (y_move rfl) rfl ?_
  refine S.y (y_move rfl) rfl ?_
  refine S.y (y_nilp rfl) rfl ?_
  refine S.y (y_field rfl fld86_0) rfl ?_
  refine S.y (y_load rfl pl47 (hb6.drew.at_ hF6.c0)) rfl ?_
  refine S.y (y_assign rfl) rfl ?_
  refine S.y (y_assign rfl) rfl ?_
  refine S.end_ ?_
  refine E.next ?_
  refine C.ret ?_
  exact E.ret2 rfl rfl rfl ⟨(hK4.trans' hk6 (fun _ _ e => .inl e)).drew, .inr ⟨n, hn1a, hnm, by rw [hun, List.length_append]; omega, rfl, ⟨p4, (hP4.kept hk6 hd.pd).drew, hp4, by rw [hun, List.take_append_of_le_length (by omega)]; exact hh4⟩, hSt⟩⟩
theorem read64_ret {w : World} {gd gc gf gg gr gp m : Nat} {te tp : TypeId} {cs ps : Array Value} {al : List UInt8} {pad : Int} {st : Bool} {D : List UInt8} {ae : Addr} (hSt : St64 86 81 83 55 57 9 w gd gc gf gg gr al pad st (.iface 116 (.pointer (some ae))) (D))
    (hEof : w.cell? ⟨0, 0, none⟩ = some (.iface 116 (.pointer (some ae)))) (hbc : Bk w gc cs te (0, 0)) (hec : EncC 64 cs al pad) (hf : Fit 64 al pad) (hst : cs[321]? = some (.bool st)) (hd : Dst gp gd gc gf gg gr) (hP : Bk w gp ps tp (0, 0)) (hps : ps.size = m) (hm : 1 ≤ m) (hM : m ≤ 65536) :
    Ret Tryd.prog 67 #[.pointer (some ⟨gd, 0, none⟩), .slice (some ⟨gp, 0, none⟩) m m] w fun v w' => Kp (fun k => k = gd ∨ k = gg ∨ k = gr ∨ k = gp) w w' ∧ ((D = [] ∧ v = .tuple #[.int .i64 0, (.iface 116 (.pointer (some ae)))]) ∨ ∃ n : Nat, 1 ≤ n ∧ n ≤ m ∧ n ≤ (D).length ∧ v = .tuple #[.int .i64 (n : Int), .nilIface] ∧ (∃ ps', Bk w' gp ps' tp (0, 0) ∧ ps'.size = m ∧ Hd ps' 0 ((D).take n)) ∧ St64 86 81 83 55 57 9 w' gd gc gf gg gr al pad st (.iface 116 (.pointer (some ae))) ((D).drop n)) := by
  obtain ⟨ds, L, R, O, vs, re, hb, hF, hO, hS, hL4, hre, hX, hv, hq, hzs, rfl, hvl⟩ := hSt
  by_cases hO0 : O = []
  · have := read64B_ret hb hF hO hS hL4 hre hX hv hq hzs hvl hEof hbc hec hf hst hd hP hps hm hM hO0
    subst hO0
    exact this
  · exact read64A_ret hb hF hO hS hL4 hre hX hv hq hzs hvl hd hP hps hm hO0
end Go.Proofs.YtlcbcedhbahbbaaDoor
