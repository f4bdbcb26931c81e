/-
  Walk: decoder.Read (base32).
-/
import Derived.Test.YtlcbcedhbahbbaaDoorS4
namespace Go.Proofs.YtlcbcedhbahbbaaDoor
open Go.RowKit
theorem fld76_1 : Fld Tryd.prog 76 1 1 := fld_of (k := 0) Tryd.underlying76 (by kernel_rfl)
theorem fld76_2 : Fld Tryd.prog 76 2 2 := fld_of (k := 0) Tryd.underlying76 (by kernel_rfl)
theorem fld76_3 : Fld Tryd.prog 76 3 3 := fld_of (k := 0) Tryd.underlying76 (by kernel_rfl)
theorem fld76_4 : Fld Tryd.prog 76 4 4 := fld_of (k := 1023) Tryd.underlying76 (by kernel_rfl)
theorem fld76_5 : Fld Tryd.prog 76 5 1028 := fld_of (k := 0) Tryd.underlying76 (by kernel_rfl)
theorem fld76_7 : Fld Tryd.prog 76 7 1030 := fld_of (k := 639) Tryd.underlying76 (by kernel_rfl)
theorem ent56 : Enters Tryd.prog 56 := enters_of Tryd.func56 (by kernel_rfl) rfl
theorem ent62 : Enters Tryd.prog 62 := enters_of Tryd.func62 (by kernel_rfl) rfl
theorem ent63 : Enters Tryd.prog 63 := enters_of Tryd.func63 (by kernel_rfl) rfl

set_option maxRecDepth 4000 in
set_option maxHeartbeats 4000000 in
theorem read32B_ret {w : World} {gd gc gf gg gr gp m : Nat} {te tp : TypeId} {cs ds ps : Array Value} {al : List UInt8} {pad : Int} {L R O : List UInt8} {vs : List Nat} {e : Bool} {ae : Addr} (hb : Bk w gd ds 76 (0, 0)) (hF : DF 640 ds .nilIface (.pointer (some ⟨gc, 0, none⟩)) (.iface 70 (.pointer (some ⟨gf, 0, none⟩))) (.bool e) L L.length) (hO : OF 640 ds gd O) (hS : Src 72 55 57 9 w gf gg gr (R)) (hL8 : L.length < 8) (hX : L ++ R = vs.map (Pl.letter al) ++ Pl.pads 8 pad vs.length) (hv : ∀ v ∈ vs, v < 32) (hq : ∃ q, vs.length = Pl.nlet 5 q) (he : e = true → vs = []) (hvl : vs.length ≤ 1000000000000)
    (hEof : w.cell? ⟨0, 0, none⟩ = some (.iface 116 (.pointer (some ae)))) (hbc : Bk w gc cs te (0, 0)) (hec : EncC 32 cs al pad) (hf : Fit 32 al pad) (hp0 : 0 ≤ pad) (hd : Dst gp gd gc gf gg gr) (hP : Bk w gp ps tp (0, 0)) (hps : ps.size = m) (hm : 1 ≤ m) (hM : m ≤ 65536) (hO0 : O = []) :
    Ret Tryd.prog 61 #[.pointer (some ⟨gd, 0, none⟩), .slice (some ⟨gp, 0, none⟩) m m] w fun v w' => Kp (fun k => k = gd ∨ k = gg ∨ k = gr ∨ k = gp) w w' ∧ ((Pl.unpack 5 vs = [] ∧ v = .tuple #[.int .i64 0, (.iface 116 (.pointer (some ae)))]) ∨ ∃ n : Nat, 1 ≤ n ∧ n ≤ m ∧ n ≤ (Pl.unpack 5 vs).length ∧ v = .tuple #[.int .i64 (n : Int), .nilIface] ∧ (∃ ps', Bk w' gp ps' tp (0, 0) ∧ ps'.size = m ∧ Hd ps' 0 ((Pl.unpack 5 vs).take n)) ∧ St32 76 70 72 55 57 9 w' gd gc gf gg gr al pad ((Pl.unpack 5 vs).drop n)) := by
  subst hO0
  obtain ⟨oa, oc, ho9, _, _⟩ := hO
  have hsz := hF.size
  have hlo := hf.lo
  have hnl : ([] : List UInt8).length = 0 := rfl
  have hpl := pads_len (pad := pad) (n := vs.length) (block := 8)
  rw [if_pos hp0] at hpl
  have hpn : Pl.padn 8 vs.length = (8 - vs.length % 8) % 8 := rfl
  have hXl : L.length + R.length = vs.length + (8 - vs.length % 8) % 8 := by
    have := congrArg List.length hX
    rw [List.length_append, List.length_append, List.length_map, hpl, hpn] at this
    exact this
  refine ret_of Tryd.func61 rfl Tryd.ntmps61 (Nat.le_of_ble_eq_true rfl) ?_
  refine C.seq ?_
  refine C.reg ?_
  refine W.y (y_assign rfl) rfl ?_
  refine W.y (y_assign rfl) rfl ?_
  refine W.fin ?_
  refine E.next ?_
  refine C.seq ?_
  refine C.seq ?_
  refine C.reg ?_
  refine W.y (y_move rfl) rfl ?_
  refine W.y (y_nilp rfl) rfl ?_
  refine W.y (y_field rfl fld76_6) rfl ?_
  refine W.y (y_load rfl pl22 (hb.at_ ho9)) rfl ?_
  refine W.y (y_len rfl Tryd.underlying22) rfl ?_
  refine W.y (y_gtrF rfl rfl (by omega)) rfl ?_
  refine W.fin ?_
  refine E.next ?_
  refine C.no rfl ?_
  refine C.skip ?_
  refine E.next ?_
  refine C.seq ?_
  refine C.seq ?_
  refine C.reg ?_
  refine W.y (y_move rfl) rfl ?_
  refine W.y (y_nilp rfl) rfl ?_
  refine W.y (y_field rfl fld76_0) rfl ?_
  refine W.y (y_load rfl pl47 (hb.at_ hF.c0)) rfl ?_
  refine W.y (y_nenil rfl eqNil47) rfl ?_
  refine W.fin ?_
  refine E.next ?_
  refine C.no rfl ?_
  refine C.skip ?_
  refine E.next ?_
  refine C.seq ?_
  refine C.reg ?_
  refine W.y (y_move rfl) rfl ?_
  refine W.y (y_len rfl Tryd.underlying22) rfl ?_
  refine W.y (y_add rfl rfl (wi64 (by omega) (by omega))) rfl ?_
  refine W.y (y_quo rfl rfl (by omega) (by omega) (by omega)) rfl ?_
  refine W.y (Does.as (y_mul rfl rfl (wi64 (by omega) (by omega))) (vint (b := (((m + 4) / 5 * 8 : Nat) : Int)) (by omega))) rfl ?_
  refine W.y (y_assign rfl) rfl ?_
  refine W.fin ?_
  refine E.next ?_
  refine C.seq ?_
  refine C.seq ?_
  refine C.reg ?_
  refine W.y (y_move rfl) rfl ?_
  refine W.y (y_lssF rfl rfl (by omega)) rfl ?_
  refine W.fin ?_
  refine E.next ?_
  refine C.no rfl ?_
  refine C.skip ?_
  refine E.next ?_
  refine C.mid (σ := Nat) (fun nn w' => 8 ≤ nn ∧ nn ≤ 1024 ∧ w = w') (fun nn => [(0, .pointer (some ⟨gd, 0, none⟩)), (1, .slice (some ⟨gp, 0, none⟩) m m), (4, .int .i64 0), (5, .nilIface), (6, .int .i64 (nn : Int))]) ?_ ?_
  · by_cases hbig : 1024 < (m + 4) / 5 * 8
    · skip
      refine C.seq ?_
      refine C.reg ?_
      refine W.y (y_move rfl) rfl ?_
      refine W.y (y_gtrT rfl rfl (by omega)) rfl ?_
      refine W.fin ?_
      refine E.next ?_
      refine C.yes rfl ?_
      refine C.reg ?_
      refine W.y (y_assign rfl) rfl ?_
      refine W.fin ?_
      exact E.mid (1024) ⟨by omega, by omega, rfl⟩ (Sub.cons rfl (Sub.cons rfl (Sub.cons rfl (Sub.cons rfl (Sub.cons rfl (Sub.nil _))))))
    · skip
      refine C.seq ?_
      refine C.reg ?_
      refine W.y (y_move rfl) rfl ?_
      refine W.y (y_gtrF rfl rfl (by omega)) rfl ?_
      refine W.fin ?_
      refine E.next ?_
      refine C.no rfl ?_
      refine C.skip ?_
      exact E.mid ((m + 4) / 5 * 8) ⟨by omega, by omega, rfl⟩ (Sub.cons rfl (Sub.cons rfl (Sub.cons rfl (Sub.cons rfl (Sub.cons rfl (Sub.nil _))))))
  rintro nn _ ⟨hn8, hnn, rfl⟩
  show C _ _ _ _ [(0, .pointer (some ⟨gd, 0, none⟩)), (1, .slice (some ⟨gp, 0, none⟩) m m), (4, .int .i64 0), (5, .nilIface), (6, .int .i64 (nn : Int))] _
  refine C.seq ?_
  refine C.reg ?_
  refine W.y (y_assign rfl) rfl ?_
  refine W.fin ?_
  refine E.next ?_
  refine C.seq ?_
  refine C.reg ?_
  refine W.y (y_assign rfl) rfl ?_
  refine W.fin ?_
  refine E.next ?_
  refine C.seq ?_
  refine C.seq ?_
  refine C.reg ?_
  refine W.y (y_move rfl) rfl ?_
  refine W.y (y_nilp rfl) rfl ?_
  refine W.y (y_field rfl fld76_1) rfl ?_
  refine W.y (y_load rfl pl53 (hb.at_ hF.c1)) rfl ?_
  refine W.y (y_nilp rfl) rfl ?_
  refine W.y (y_field rfl fld102_2) rfl ?_
  refine W.y (y_load rfl pl21 (Bk.at_ hbc hec.pad_)) rfl ?_
  refine W.y (y_eqlF rfl rfl (by omega)) rfl ?_
  refine W.fin ?_
  refine E.next ?_
  refine C.no rfl ?_
  refine C.seq ?_
  refine C.reg ?_
  refine W.y (y_move rfl) rfl ?_
  refine W.y (y_nilp rfl) rfl ?_
  refine W.y (y_field rfl fld76_5) rfl ?_
  refine W.y (y_load rfl pl3 (hb.at_ hF.nb)) rfl ?_
  refine W.y (Does.as (y_sub rfl rfl (wi64 (by omega) (by omega))) (vint (b := ((8 - L.length : Nat) : Int)) (by omega))) rfl ?_
  refine W.y (y_assign rfl) rfl ?_
  refine W.fin ?_
  refine E.next ?_
  refine C.reg ?_
  refine W.y (y_assign rfl) rfl ?_
  refine W.fin ?_
  refine E.next ?_
  refine C.seq ?_
  have hS0 : w.drew.cell? ⟨gd, 2, none⟩ = some (.iface 70 (.pointer (some ⟨gf, 0, none⟩))) ∧ w.drew.cell? ⟨gd, 1028, none⟩ = some (.int .i64 (L.length : Int)) := ⟨hb.drew.at_ hF.c2, hb.drew.at_ hF.nb⟩
  have hEd : w.drew.cell? ⟨0, 0, none⟩ = some (.iface 116 (.pointer (some ae))) := hEof
  by_cases hvs : vs = []
  · subst hvs
    have hl0 : L.length = 0 ∧ R.length = 0 := by simp only [List.length_nil] at hXl; omega
    have hR0 : R = [] := List.eq_nil_of_length_eq_zero hl0.2
    refine C.held (fun w' => w'.cell? ⟨gd, 2, none⟩ = some (.iface 70 (.pointer (some ⟨gf, 0, none⟩))) ∧ w'.cell? ⟨gd, 1028, none⟩ = some (.int .i64 (L.length : Int))) mixed ?_
    refine AH.take 0 rfl (by kernel_rfl) (by kernel_rfl) (by kernel_rfl) (fun _ _ => y_move rfl) hS0 rfl ?_
    refine AH.take 1 rfl (by kernel_rfl) (by kernel_rfl) (by kernel_rfl) (fun _ _ => y_move rfl) hS0 rfl ?_
    refine AH.take 2 rfl (by kernel_rfl) (by kernel_rfl) (by kernel_rfl) (fun _ _ => y_nilp rfl) hS0 rfl ?_
    refine AH.take 3 rfl (by kernel_rfl) (by kernel_rfl) (by kernel_rfl) (fun _ _ => y_field rfl fld76_2) hS0 rfl ?_
    refine AH.take 4 rfl (by kernel_rfl) (by kernel_rfl) (by kernel_rfl) (fun _ hw => y_load rfl pl51 hw.1) hS0 rfl ?_
    refine AH.take 5 rfl (by kernel_rfl) (by kernel_rfl) (by kernel_rfl) (fun _ _ => y_move rfl) hS0 rfl ?_
    refine AH.take 6 rfl (by kernel_rfl) (by kernel_rfl) (by kernel_rfl) (fun _ _ => y_nilp rfl) hS0 rfl ?_
    refine AH.take 7 rfl (by kernel_rfl) (by kernel_rfl) (by kernel_rfl) (fun _ _ => y_field rfl fld76_4) hS0 rfl ?_
    refine AH.take 8 rfl (by kernel_rfl) (by kernel_rfl) (by kernel_rfl) (fun _ _ => y_move rfl) hS0 rfl ?_
    refine AH.take 9 rfl (by kernel_rfl) (by kernel_rfl) (by kernel_rfl) (fun _ _ => y_nilp rfl) hS0 rfl ?_
    refine AH.take 10 rfl (by kernel_rfl) (by kernel_rfl) (by kernel_rfl) (fun _ _ => y_field rfl fld76_5) hS0 rfl ?_
    refine AH.take 11 rfl (by kernel_rfl) (by kernel_rfl) (by kernel_rfl) (fun _ hw => y_load rfl pl3 hw.2) hS0 rfl ?_
    refine AH.take 12 rfl (by kernel_rfl) (by kernel_rfl) (by kernel_rfl) (fun _ _ => y_move rfl) hS0 rfl ?_
    refine AH.take 13 rfl (by kernel_rfl) (by kernel_rfl) (by kernel_rfl) (fun _ _ => y_arrlh (i := L.length) rfl rfl rfl Tryd.underlying73 siz5 (by omega) (by omega) (by omega)) hS0 rfl ?_
    refine AH.take 14 rfl (by kernel_rfl) (by kernel_rfl) (by kernel_rfl) (fun _ _ => y_move rfl) hS0 rfl ?_
    refine AH.take 15 rfl (by kernel_rfl) (by kernel_rfl) (by kernel_rfl) (fun _ _ => y_move rfl) hS0 rfl ?_
    refine AH.oneCall 16 rfl (by kernel_rfl) ent62 rfl (redEnd32_ret hS hEd hb.drew hd.gr_ hd.dg hd.dr hd.df hd.fg hd.fr ⟨hd.g0, hd.r0, hd.d0⟩ (by omega) (by omega) (by omega) (by omega) (.inr (by omega)) (by omega) hR0 (by omega)) rfl ?_
    rintro _ w1 ⟨hk1, rfl, ⟨d1, hb1, hz1, ho1⟩, hs1⟩
    have hF1 : DF 640 d1 .nilIface (.pointer (some ⟨gc, 0, none⟩)) (.iface 70 (.pointer (some ⟨gf, 0, none⟩))) (.bool e) [] L.length := hF.outs hz1 ho1 (by omega) (.inl (by omega)) (Hd.nil _ _)
    have hF2 := hF1.set0 ((.iface 116 (.pointer (some ae))) : Value)
    have hb2 := Bk.set hb1 (0 + 0) ((.iface 116 (.pointer (some ae))) : Value)
    have hS1 : w1.cell? ⟨gd, 2, none⟩ = some (.iface 70 (.pointer (some ⟨gf, 0, none⟩))) ∧ w1.cell? ⟨gd, 1028, none⟩ = some (.int .i64 (L.length : Int)) := ⟨hb1.at_ hF1.c2, hb1.at_ hF1.nb⟩
    have hS2 : (w1.setCell ⟨gd, 0 + 0, none⟩ ((.iface 116 (.pointer (some ae))) : Value)).cell? ⟨gd, 2, none⟩ = some (.iface 70 (.pointer (some ⟨gf, 0, none⟩))) ∧ (w1.setCell ⟨gd, 0 + 0, none⟩ ((.iface 116 (.pointer (some ae))) : Value)).cell? ⟨gd, 1028, none⟩ = some (.int .i64 (L.length : Int)) := ⟨hb2.at_ hF2.c2, hb2.at_ hF2.nb⟩
    have hF3 := hF2.setN 0 (by omega)
    have hb3 := Bk.set hb2 (0 + 1028) (.int .i64 ((0 : Nat) : Int))
    refine ⟨hS1, ?_⟩
    refine AH.take 17 rfl (by kernel_rfl) (by kernel_rfl) (by kernel_rfl) (fun _ _ => y_move rfl) hS1 rfl ?_
    refine AH.take 18 rfl (by kernel_rfl) (by kernel_rfl) (by kernel_rfl) (fun _ _ => y_ext rfl rfl) hS1 rfl ?_
    refine AH.take 19 rfl (by kernel_rfl) (by kernel_rfl) (by kernel_rfl) (fun _ _ => y_ext rfl rfl) hS1 rfl ?_
    refine AH.take 20 rfl (by kernel_rfl) (by kernel_rfl) (by kernel_rfl) (fun _ _ => y_assign rfl) hS1 rfl ?_
    refine AH.take 21 rfl (by kernel_rfl) (by kernel_rfl) (by kernel_rfl) (fun _ _ => y_nilp rfl) hS1 rfl ?_
    refine AH.take 22 rfl (by kernel_rfl) (by kernel_rfl) (by kernel_rfl) (fun _ _ => y_field rfl fld76_0) hS1 rfl ?_
    refine AH.oneS 23 rfl (by kernel_rfl) (s_store rfl rfl rfl siz47 (hb1.at_ hF1.c0) (Bk.melt hb1)) hS2 ?_
    refine AH.done (by kernel_rfl) ?_
    refine E.next ?_
    refine C.seq ?_
    refine C.reg ?_
    refine W.y (y_move rfl) rfl ?_
    refine W.y (y_nilp rfl) rfl ?_
    refine W.y (y_field rfl fld76_5) rfl ?_
    refine W.y (y_load rfl pl3 (hb2.at_ hF2.nb)) rfl ?_
    refine W.y (y_move rfl) rfl ?_
    refine W.y (Does.as (y_add rfl rfl (wi64 (by omega) (by omega))) (vint (b := ((0 : Nat) : Int)) (by omega))) rfl ?_
    refine W.y (y_nilp rfl) rfl ?_
    refine W.y (y_field rfl fld76_5) rfl ?_
    refine W.s (s_store rfl rfl rfl siz3 (hb2.at_ hF2.nb) (Bk.melt hb2)) ?_
    refine W.fin ?_
    refine E.next ?_
    refine C.seq ?_
    refine C.seq ?_
    refine C.reg ?_
    refine W.y (y_move rfl) rfl ?_
    refine W.y (y_nilp rfl) rfl ?_
    refine W.y (y_field rfl fld76_5) rfl ?_
    refine W.y (y_load rfl pl3 (hb3.at_ hF3.nb)) rfl ?_
    refine W.y (y_move rfl) rfl ?_
    refine W.y (y_lssT rfl rfl (by omega)) rfl ?_
    refine W.fin ?_
    refine E.next ?_
    refine C.yes rfl ?_
    refine C.seq ?_
    refine C.still mixed (by kernel_rfl) ?_
    refine S.y (y_move rfl) rfl ?_
    refine S.y (y_nilp rfl) rfl ?_
    refine S.y (y_field rfl fld76_0) rfl ?_
    refine S.y (y_load rfl pl47 (hb3.drew.at_ hF3.c0)) rfl ?_
    refine S.y (y_assign rfl) rfl ?_
    refine S.y (y_assign rfl) rfl ?_
    refine S.end_ ?_
    refine E.next ?_
    refine C.ret ?_
    refine E.thenRet ?_
    exact E.ret2 rfl rfl rfl ⟨(((((Kp.refl _ w).drew.trans hk1).mono (fun x _ e => e.elim (fun h => .inr (.inl h)) fun h => h.elim (fun h => .inr (.inr (.inl h))) .inl) : Kp (fun k => k = gd ∨ k = gg ∨ k = gr ∨ k = gp) w w1).set (.inl (.inl rfl)) _).set (.inl (.inl rfl)) _).drew, .inl ⟨by simp [Pl.unpack], rfl⟩⟩
  have hvp := List.length_pos_iff.2 hvs
  obtain rfl : e = false := by
    cases e with
    | false => rfl
    | true => exact absurd (he rfl) hvs
  refine C.held (fun w' => w'.cell? ⟨gd, 2, none⟩ = some (.iface 70 (.pointer (some ⟨gf, 0, none⟩))) ∧ w'.cell? ⟨gd, 1028, none⟩ = some (.int .i64 (L.length : Int))) mixed ?_
  refine AH.take 0 rfl (by kernel_rfl) (by kernel_rfl) (by kernel_rfl) (fun _ _ => y_move rfl) hS0 rfl ?_
  refine AH.take 1 rfl (by kernel_rfl) (by kernel_rfl) (by kernel_rfl) (fun _ _ => y_move rfl) hS0 rfl ?_
  refine AH.take 2 rfl (by kernel_rfl) (by kernel_rfl) (by kernel_rfl) (fun _ _ => y_nilp rfl) hS0 rfl ?_
  refine AH.take 3 rfl (by kernel_rfl) (by kernel_rfl) (by kernel_rfl) (fun _ _ => y_field rfl fld76_2) hS0 rfl ?_
  refine AH.take 4 rfl (by kernel_rfl) (by kernel_rfl) (by kernel_rfl) (fun _ hw => y_load rfl pl51 hw.1) hS0 rfl ?_
  refine AH.take 5 rfl (by kernel_rfl) (by kernel_rfl) (by kernel_rfl) (fun _ _ => y_move rfl) hS0 rfl ?_
  refine AH.take 6 rfl (by kernel_rfl) (by kernel_rfl) (by kernel_rfl) (fun _ _ => y_nilp rfl) hS0 rfl ?_
  refine AH.take 7 rfl (by kernel_rfl) (by kernel_rfl) (by kernel_rfl) (fun _ _ => y_field rfl fld76_4) hS0 rfl ?_
  refine AH.take 8 rfl (by kernel_rfl) (by kernel_rfl) (by kernel_rfl) (fun _ _ => y_move rfl) hS0 rfl ?_
  refine AH.take 9 rfl (by kernel_rfl) (by kernel_rfl) (by kernel_rfl) (fun _ _ => y_nilp rfl) hS0 rfl ?_
  refine AH.take 10 rfl (by kernel_rfl) (by kernel_rfl) (by kernel_rfl) (fun _ _ => y_field rfl fld76_5) hS0 rfl ?_
  refine AH.take 11 rfl (by kernel_rfl) (by kernel_rfl) (by kernel_rfl) (fun _ hw => y_load rfl pl3 hw.2) hS0 rfl ?_
  refine AH.take 12 rfl (by kernel_rfl) (by kernel_rfl) (by kernel_rfl) (fun _ _ => y_move rfl) hS0 rfl ?_
  refine AH.take 13 rfl (by kernel_rfl) (by kernel_rfl) (by kernel_rfl) (fun _ _ => y_arrlh (i := L.length) rfl rfl rfl Tryd.underlying73 siz5 (by omega) (by omega) (by omega)) hS0 rfl ?_
  refine AH.take 14 rfl (by kernel_rfl) (by kernel_rfl) (by kernel_rfl) (fun _ _ => y_move rfl) hS0 rfl ?_
  refine AH.take 15 rfl (by kernel_rfl) (by kernel_rfl) (by kernel_rfl) (fun _ _ => y_move rfl) hS0 rfl ?_
  refine AH.oneCall 16 rfl (by kernel_rfl) ent62 rfl (red32_ret hS hEd hb.drew hd.gr_ hd.dg hd.dr hd.df hd.fg hd.fr ⟨hd.g0, hd.r0, hd.d0⟩ (by omega) (by omega) (by omega) (by omega) (.inr (by omega)) (by omega) (by omega)) rfl ?_
  rintro _ w1 ⟨hk1, k, hkm, hkn, hkR, rfl, ⟨d1, hb1, hz1, ho1, hh1⟩, hs1⟩
  have hF1 : DF 640 d1 .nilIface (.pointer (some ⟨gc, 0, none⟩)) (.iface 70 (.pointer (some ⟨gf, 0, none⟩))) (.bool false) (L ++ R.take k) L.length := hF.outs hz1 ho1 (by omega) (.inl (by omega)) ((hF.buf.outs ho1 (by omega)).append hh1 rfl)
  have hF2 := hF1.set0 .nilIface
  have hb2 := Bk.set hb1 (0 + 0) .nilIface
  have hS1 : w1.cell? ⟨gd, 2, none⟩ = some (.iface 70 (.pointer (some ⟨gf, 0, none⟩))) ∧ w1.cell? ⟨gd, 1028, none⟩ = some (.int .i64 (L.length : Int)) := ⟨hb1.at_ hF1.c2, hb1.at_ hF1.nb⟩
  have hS2 : (w1.setCell ⟨gd, 0 + 0, none⟩ .nilIface).cell? ⟨gd, 2, none⟩ = some (.iface 70 (.pointer (some ⟨gf, 0, none⟩))) ∧ (w1.setCell ⟨gd, 0 + 0, none⟩ .nilIface).cell? ⟨gd, 1028, none⟩ = some (.int .i64 (L.length : Int)) := ⟨hb2.at_ hF2.c2, hb2.at_ hF2.nb⟩
  obtain ⟨n1, hn1⟩ : ∃ n1, n1 = L.length + k := ⟨_, rfl⟩
  have hL1 : (L ++ R.take k).length = n1 := by rw [List.length_append, List.length_take]; omega
  have hF3 := hF2.setN n1 (by omega)
  have hb3 := Bk.set hb2 (0 + 1028) (.int .i64 (n1 : Int))
  obtain ⟨nr, hnr⟩ : ∃ nr, nr = n1 / 8 * 8 := ⟨_, rfl⟩
  have hK3 : Kp (fun x => x = gg ∨ x = gr ∨ x = gd) w ((w1.setCell ⟨gd, 0 + 0, none⟩ .nilIface).setCell ⟨gd, 0 + 1028, none⟩ (.int .i64 (n1 : Int)))   := (((Kp.refl _ w).drew.trans hk1).set (.inl (.inr (.inr rfl))) _).set (.inl (.inr (.inr rfl))) _
  refine ⟨hS1, ?_⟩
  refine AH.take 17 rfl (by kernel_rfl) (by kernel_rfl) (by kernel_rfl) (fun _ _ => y_move rfl) hS1 rfl ?_
  refine AH.take 18 rfl (by kernel_rfl) (by kernel_rfl) (by kernel_rfl) (fun _ _ => y_ext rfl rfl) hS1 rfl ?_
  refine AH.take 19 rfl (by kernel_rfl) (by kernel_rfl) (by kernel_rfl) (fun _ _ => y_ext rfl rfl) hS1 rfl ?_
  refine AH.take 20 rfl (by kernel_rfl) (by kernel_rfl) (by kernel_rfl) (fun _ _ => y_assign rfl) hS1 rfl ?_
  refine AH.take 21 rfl (by kernel_rfl) (by kernel_rfl) (by kernel_rfl) (fun _ _ => y_nilp rfl) hS1 rfl ?_
  refine AH.take 22 rfl (by kernel_rfl) (by kernel_rfl) (by kernel_rfl) (fun _ _ => y_field rfl fld76_0) hS1 rfl ?_
  refine AH.oneS 23 rfl (by kernel_rfl) (s_store rfl rfl rfl siz47 (hb1.at_ hF1.c0) (Bk.melt hb1)) hS2 ?_
  refine AH.done (by kernel_rfl) ?_
  refine E.next ?_
  refine C.seq ?_
  refine C.reg ?_
  refine W.y (y_move rfl) rfl ?_
  refine W.y (y_nilp rfl) rfl ?_
  refine W.y (y_field rfl fld76_5) rfl ?_
  refine W.y (y_load rfl pl3 (hb2.at_ hF2.nb)) rfl ?_
  refine W.y (y_move rfl) rfl ?_
  refine W.y (Does.as (y_add rfl rfl (wi64 (by omega) (by omega))) (vint (b := ((n1 : Nat) : Int)) (by omega))) rfl ?_
  refine W.y (y_nilp rfl) rfl ?_
  refine W.y (y_field rfl fld76_5) rfl ?_
  refine W.s (s_store rfl rfl rfl siz3 (hb2.at_ hF2.nb) (Bk.melt hb2)) ?_
  refine W.fin ?_
  refine E.next ?_
  refine C.seq ?_
  refine C.seq ?_
  refine C.reg ?_
  refine W.y (y_move rfl) rfl ?_
  refine W.y (y_nilp rfl) rfl ?_
  refine W.y (y_field rfl fld76_5) rfl ?_
  refine W.y (y_load rfl pl3 (hb3.at_ hF3.nb)) rfl ?_
  refine W.y (y_move rfl) rfl ?_
  refine W.y (y_lssF rfl rfl (by omega)) rfl ?_
  refine W.fin ?_
  refine E.next ?_
  refine C.no rfl ?_
  refine C.skip ?_
  refine E.next ?_
  refine C.seq ?_
  refine C.seq ?_
  refine C.reg ?_
  refine W.y (y_move rfl) rfl ?_
  refine W.y (y_gtrT rfl rfl (by omega)) rfl ?_
  refine W.y (y_move rfl) rfl ?_
  refine W.gy rfl rfl (y_move rfl) rfl ?_
  refine W.gy rfl rfl (y_nilp rfl) rfl ?_
  refine W.gy rfl rfl (y_field rfl fld76_3) rfl ?_
  refine W.gy rfl rfl (y_load rfl pl4 (hb3.at_ hF3.c3)) rfl ?_
  refine W.y (y_pick rfl rfl) rfl ?_
  refine W.fin ?_
  refine E.next ?_
  refine C.no rfl ?_
  refine C.skip ?_
  refine E.next ?_
  refine C.seq ?_
  refine C.reg ?_
  refine W.y (y_assign rfl) rfl ?_
  refine W.fin ?_
  refine E.next ?_
  refine C.seq ?_
  refine C.seq ?_
  refine C.reg ?_
  refine W.y (y_move rfl) rfl ?_
  refine W.y (y_nilp rfl) rfl ?_
  refine W.y (y_field rfl fld76_1) rfl ?_
  refine W.y (y_load rfl pl53 (hb3.at_ hF3.c1)) rfl ?_
  refine W.y (y_nilp rfl) rfl ?_
  refine W.y (y_field rfl fld102_2) rfl ?_
  refine W.y (y_load rfl pl21 (Bk.at_ (hbc.kept hK3 hd.nc3) hec.pad_)) rfl ?_
  refine W.y (y_eqlF rfl rfl (by omega)) rfl ?_
  refine W.fin ?_
  refine E.next ?_
  refine C.no rfl ?_
  refine C.reg ?_
  refine W.y (y_move rfl) rfl ?_
  refine W.y (y_nilp rfl) rfl ?_
  refine W.y (y_field rfl fld76_5) rfl ?_
  refine W.y (y_load rfl pl3 (hb3.at_ hF3.nb)) rfl ?_
  refine W.y (y_quo rfl rfl (by omega) (by omega) (by omega)) rfl ?_
  refine W.y (Does.as (y_mul rfl rfl (wi64 (by omega) (by omega))) (vint (b := ((nr : Nat) : Int)) (by omega))) rfl ?_
  refine W.y (y_assign rfl) rfl ?_
  refine W.fin ?_
  refine E.next ?_
  refine C.seq ?_
  generalize hw3 : ((w1.setCell ⟨gd, 0 + 0, none⟩ .nilIface).setCell ⟨gd, 0 + 1028, none⟩ (.int .i64 (n1 : Int))) = w3 at *
  have hbc3 := hbc.kept hK3 hd.nc3
  have hP3 := hP.kept hK3 hd.np3
  have hs3 : Src 72 55 57 9 w3 gf gg gr (R.drop k) := ⟨hs1.1.kept (by rw [← hw3]; exact ((Kp.refl (· = gd) w1).set (.inl rfl) _).set (.inl rfl) _ : Kp (· = gd) w1 w3) hd.df.symm, hs1.2.elim fun T h => ⟨T, h.1.kept (by rw [← hw3]; exact ((Kp.refl (· = gd) w1).set (.inl rfl) _).set (.inl rfl) _ : Kp (· = gd) w1 w3) hd.dg.symm hd.dr.symm, h.2⟩⟩
  obtain ⟨vs1, vs2, hvv, htk, hdk, hcs, hc1, hc2, hq1, hq2, hun⟩ := chunk32 (al := al) (pad := pad) (vs := vs) (nr := nr) hlo hq (by omega) (by rw [← hX, List.length_append]; omega)
  rw [← hX] at htk hdk hcs
  have ht1 : (L ++ R).take nr = (L ++ R.take k).take nr := by
    have e : L ++ R = (L ++ R.take k) ++ R.drop k := by rw [List.append_assoc, List.take_append_drop]
    rw [e, List.take_append_of_le_length (by omega)]
  have hd1 : (L ++ R).drop nr = (L ++ R.take k).drop nr ++ R.drop k := by
    have e : L ++ R = (L ++ R.take k) ++ R.drop k := by rw [List.append_assoc, List.take_append_drop]
    rw [e, List.drop_append_of_le_length (by omega)]
  rw [ht1] at htk
  rw [hd1] at hdk
  have hv1 : ∀ v ∈ vs1, v < 32 := fun v h => hv v (by rw [hvv]; exact List.mem_append_left _ h)
  have hv2 : ∀ v ∈ vs2, v < 32 := fun v h => hv v (by rw [hvv]; exact List.mem_append_right _ h)
  have hvl2 : vs.length = vs1.length + vs2.length := by rw [hvv, List.length_append]
  have hdum := True.intro
  have htl : ((L ++ R.take k).take nr).length = nr := by rw [List.length_take]; omega
  obtain ⟨nb, hnb⟩ : ∃ nb, nb = 5 * vs1.length / 8 := ⟨_, rfl⟩
  have hnb1 : 1 ≤ nb ∧ nb ≤ nr / 8 * 5 := by
    have hrem1 := rem32 hq1
    omega
  have hdl : (Pl.unpack 5 vs1).length = nb := by rw [Pl.unpack_length, hnb]
  have hsrcB : Bs w3 gd 4 ((L ++ R.take k).take nr) := Bs.of_row hb3 (hF3.buf.take nr)
  have he2 : ∀ e2 : Bool, (vs1.length % 8 = 0 → e2 = false) → (e2 = true → vs2 = []) := fun e2 h1 h2 => by
    rcases hcs with h | h
    · rw [h1 (by omega)] at h2; cases h2
    · exact h.1
  have hK3r : Kp (fun k => k = gd ∨ k = gg ∨ k = gr ∨ k = gp) w w3 := hK3.mono fun x _ e => e.elim (fun h => .inr (.inl h)) fun h => h.elim (fun h => .inr (.inr (.inl h))) .inl
  refine C.stillTail 8 mixed (by kernel_rfl) ?_
  refine S.y (y_move rfl) rfl ?_
  refine S.y (y_nilp rfl) rfl ?_
  refine S.y (y_field rfl fld76_1) rfl ?_
  refine S.y (y_load rfl pl53 (hb3.drew.at_ hF3.c1)) rfl ?_
  refine S.y (y_move rfl) rfl ?_
  refine S.y (y_nilp rfl) rfl ?_
  refine S.y (y_field rfl fld76_5) rfl ?_
  refine S.y (y_load rfl pl3 (hb3.drew.at_ hF3.nb)) rfl ?_
  refine S.tail ?_
  refine W.call ent56 rfl (decodedLen32_ret hbc3.drew hec hp0 (by omega)) rfl ?_
  rintro _ _ ⟨rfl, rfl⟩
  refine W.y (y_assign rfl) rfl ?_
  refine W.fin ?_
  refine E.next ?_
  refine C.mid (σ := Nat × Bool × Array Value × Array Value) (fun (n, e2, d4, p4) w' => Kp (fun k => k = gd ∨ k = gg ∨ k = gr ∨ k = gp) w w' ∧ Bk w' gd d4 76 (0, 0) ∧ DF 640 d4 .nilIface (.pointer (some ⟨gc, 0, none⟩)) (.iface 70 (.pointer (some ⟨gf, 0, none⟩))) (.bool e2) (L ++ R.take k) n1 ∧ OF 640 d4 gd ((Pl.unpack 5 vs1).drop n) ∧ Src 72 55 57 9 w' gf gg gr (R.drop k) ∧ Bk w' gp p4 tp (0, 0) ∧ p4.size = m ∧ Hd p4 0 ((Pl.unpack 5 vs1).take n) ∧ 1 ≤ n ∧ n ≤ m ∧ n ≤ nb ∧ (e2 = true → vs2 = [])) (fun (n, _, _, _) => [(0, .pointer (some ⟨gd, 0, none⟩)), (1, .slice (some ⟨gp, 0, none⟩) m m), (4, .int .i64 (n : Int)), (5, .nilIface), (9, .int .i64 (nr : Int))]) ?_ ?_
  · by_cases hbig : m < n1 / 8 * 5
    · have hkq : ∃ q, q = Nat.min nb m := ⟨_, rfl⟩
      obtain ⟨q, hq0⟩ := hkq
      have hqq : 1 ≤ q ∧ q ≤ m ∧ q ≤ nb := by
        have e : q = min nb m := hq0
        omega
      have hT0 : w3.drew.drew.cell? ⟨gd, 1, none⟩ = some (.pointer (some ⟨gc, 0, none⟩)) := hb3.at_ hF3.c1
      refine C.seq ?_
      refine C.reg ?_
      refine W.y (y_move rfl) rfl ?_
      refine W.y (y_move rfl) rfl ?_
      refine W.y (y_len rfl Tryd.underlying22) rfl ?_
      refine W.y (y_gtrT rfl rfl (by omega)) rfl ?_
      refine W.fin ?_
      refine E.next ?_
      refine C.yes rfl ?_
      refine C.seq ?_
      refine C.held (fun w' => w'.cell? ⟨gd, 1, none⟩ = some (.pointer (some ⟨gc, 0, none⟩))) mixed ?_
      refine AH.take 0 rfl (by kernel_rfl) (by kernel_rfl) (by kernel_rfl) (fun _ _ => y_move rfl) hT0 rfl ?_
      refine AH.take 1 rfl (by kernel_rfl) (by kernel_rfl) (by kernel_rfl) (fun _ _ => y_move rfl) hT0 rfl ?_
      refine AH.take 2 rfl (by kernel_rfl) (by kernel_rfl) (by kernel_rfl) (fun _ _ => y_nilp rfl) hT0 rfl ?_
      refine AH.take 3 rfl (by kernel_rfl) (by kernel_rfl) (by kernel_rfl) (fun _ _ => y_field rfl fld76_1) hT0 rfl ?_
      refine AH.take 4 rfl (by kernel_rfl) (by kernel_rfl) (by kernel_rfl) (fun _ hw => y_load rfl pl53 hw) hT0 rfl ?_
      refine AH.take 5 rfl (by kernel_rfl) (by kernel_rfl) (by kernel_rfl) (fun _ _ => y_move rfl) hT0 rfl ?_
      refine AH.take 6 rfl (by kernel_rfl) (by kernel_rfl) (by kernel_rfl) (fun _ _ => y_nilp rfl) hT0 rfl ?_
      refine AH.take 7 rfl (by kernel_rfl) (by kernel_rfl) (by kernel_rfl) (fun _ _ => y_field rfl fld76_7) hT0 rfl ?_
      refine AH.take 8 rfl (by kernel_rfl) (by kernel_rfl) (by kernel_rfl) (fun _ _ => y_arrl (i := 0) rfl rfl Tryd.underlying74 siz5 (by omega)) hT0 rfl ?_
      refine AH.take 9 rfl (by kernel_rfl) (by kernel_rfl) (by kernel_rfl) (fun _ _ => y_move rfl) hT0 rfl ?_
      refine AH.take 10 rfl (by kernel_rfl) (by kernel_rfl) (by kernel_rfl) (fun _ _ => y_nilp rfl) hT0 rfl ?_
      refine AH.take 11 rfl (by kernel_rfl) (by kernel_rfl) (by kernel_rfl) (fun _ _ => y_field rfl fld76_4) hT0 rfl ?_
      refine AH.take 12 rfl (by kernel_rfl) (by kernel_rfl) (by kernel_rfl) (fun _ _ => y_move rfl) hT0 rfl ?_
      refine AH.take 13 rfl (by kernel_rfl) (by kernel_rfl) (by kernel_rfl) (fun _ _ => y_arrlh (i := 0) (j := nr) rfl rfl rfl Tryd.underlying73 siz5 (by omega) (by omega) (by omega)) hT0 rfl ?_
      refine AH.oneCall 14 rfl (by kernel_rfl) ent63 rfl (decode32_ret (src := (L ++ R.take k).take nr) (vs := vs1) (g := gd) (off := 1030) (sb := gd) (so := 4) hbc3.drew.drew hec hf (fun e => by omega) hb3.drew.drew hd.dc.symm hv1 hq1 htk (.inr ⟨rfl, hsrcB⟩) (by rw [htl]; rfl) (by omega) (by omega) (by rw [hF3.size]; omega) (.inr (Nat.zero_le _)) (by rw [htl]; omega) (by omega)) rfl ?_
      rintro _ w4 ⟨⟨e2, rfl, he2c⟩, hb4, hk4⟩
      rw [← hnb]
      have ho4 : Outs (d1.setIfInBounds 0 .nilIface |>.setIfInBounds 1028 (.int .i64 (n1 : Int))) _ 1030 640 := (Outs.refl _ _ _).splice (xs := bv (Pl.unpack 5 vs1)) (o := 1030) (by omega) (by rw [bv_length]; omega) (by rw [bv_length, hF3.size]; omega)
      have hF4 := hF3.up (by rw [splice_size]) ho4 (by omega) (by omega)
      have hF5 := hF4.set3 (.bool e2)
      have hb5 := Bk.set hb4 (0 + 3) (.bool e2)
      have hT1 : w4.cell? ⟨gd, 1, none⟩ = some (.pointer (some ⟨gc, 0, none⟩)) := hb4.at_ hF4.c1
      have hT2 : (w4.setCell ⟨gd, 0 + 3, none⟩ (.bool e2)).cell? ⟨gd, 1, none⟩ = some (.pointer (some ⟨gc, 0, none⟩)) := hb5.at_ hF5.c1
      have hb6 := Bk.set hb5 (0 + 1029) (.slice (some ⟨gd, 0 + 1030 + 0, none⟩) (nb - 0) (640 - 0))
      have hF6 := hF5.setO (.slice (some ⟨gd, 0 + 1030 + 0, none⟩) (nb - 0) (640 - 0)) (by omega)
      have hh6 : Hd _ (1030 + 0) (Pl.unpack 5 vs1) := ((Hd.of_splice (ds := (d1.setIfInBounds 0 .nilIface).setIfInBounds 1028 (.int .i64 (n1 : Int))) (o := 1030) (s := Pl.unpack 5 vs1) (by rw [hF3.size]; omega)).outs (Outs.one _ 3 (.bool e2)) (by omega)).outs (Outs.one _ 1029 (.slice (some ⟨gd, 0 + 1030 + 0, none⟩) (nb - 0) (640 - 0))) (by omega)
      have hsl : ((Pl.unpack 5 vs1).take q).length = q := by rw [List.length_take]; omega
      have hK6 : Kp (· = gd) w3 ((w4.setCell ⟨gd, 0 + 3, none⟩ (.bool e2)).setCell ⟨gd, 0 + 1029, none⟩ (.slice (some ⟨gd, 0 + 1030 + 0, none⟩) (nb - 0) (640 - 0))) := (((Kp.refl (· = gd) w3).drew.drew.trans hk4).set (.inl rfl) _).set (.inl rfl) _
      have hP6 := hP3.kept hK6 hd.pd
      have hrd : Rd ((w4.setCell ⟨gd, 0 + 3, none⟩ (.bool e2)).setCell ⟨gd, 0 + 1029, none⟩ (.slice (some ⟨gd, 0 + 1030 + 0, none⟩) (nb - 0) (640 - 0))) (some ⟨gd, 0 + 1030 + 0, none⟩) (bv ((Pl.unpack 5 vs1).take q)) := (hh6.take q).rd hb6
      have hK7 : Kp (· = gp) ((w4.setCell ⟨gd, 0 + 3, none⟩ (.bool e2)).setCell ⟨gd, 0 + 1029, none⟩ (.slice (some ⟨gd, 0 + 1030 + 0, none⟩) (nb - 0) (640 - 0))) (setCells ((w4.setCell ⟨gd, 0 + 3, none⟩ (.bool e2)).setCell ⟨gd, 0 + 1029, none⟩ (.slice (some ⟨gd, 0 + 1030 + 0, none⟩) (nb - 0) (640 - 0))) gp 0 (bv ((Pl.unpack 5 vs1).take q))) := setCells_kp (S := (· = gp)) (.inl rfl) (Kp.refl _ _)
      have hb7 := hb6.kept hK7 hd.pd.symm
      have hP7 : Bk (setCells ((w4.setCell ⟨gd, 0 + 3, none⟩ (.bool e2)).setCell ⟨gd, 0 + 1029, none⟩ (.slice (some ⟨gd, 0 + 1030 + 0, none⟩) (nb - 0) (640 - 0))) gp 0 (bv ((Pl.unpack 5 vs1).take q))) gp (splice ps 0 (bv ((Pl.unpack 5 vs1).take q))) tp (0, 0) := setCells_bk hP6
      have hb8 := Bk.set hb7 (0 + 1029) (.slice (if 640 - 0 = q then some ⟨gd, 0 + 1030 + 0, none⟩ else (some ⟨gd, 0 + 1030 + 0, none⟩ : Option Addr).map (·.add q)) (nb - 0 - q) (640 - 0 - q))
      have hF8 := hF6.setO (.slice (if 640 - 0 = q then some ⟨gd, 0 + 1030 + 0, none⟩ else (some ⟨gd, 0 + 1030 + 0, none⟩ : Option Addr).map (·.add q)) (nb - 0 - q) (640 - 0 - q)) (by omega)
      refine ⟨hT1, ?_⟩
      refine AH.take 15 rfl (by kernel_rfl) (by kernel_rfl) (by kernel_rfl) (fun _ _ => y_move rfl) hT1 rfl ?_
      refine AH.take 16 rfl (by kernel_rfl) (by kernel_rfl) (by kernel_rfl) (fun _ _ => y_ext rfl rfl) hT1 rfl ?_
      refine AH.take 17 rfl (by kernel_rfl) (by kernel_rfl) (by kernel_rfl) (fun _ _ => y_ext rfl rfl) hT1 rfl ?_
      refine AH.take 18 rfl (by kernel_rfl) (by kernel_rfl) (by kernel_rfl) (fun _ _ => y_ext rfl rfl) hT1 rfl ?_
      refine AH.take 19 rfl (by kernel_rfl) (by kernel_rfl) (by kernel_rfl) (fun _ _ => y_assign rfl) hT1 rfl ?_
      refine AH.take 20 rfl (by kernel_rfl) (by kernel_rfl) (by kernel_rfl) (fun _ _ => y_nilp rfl) hT1 rfl ?_
      refine AH.take 21 rfl (by kernel_rfl) (by kernel_rfl) (by kernel_rfl) (fun _ _ => y_field rfl fld76_3) hT1 rfl ?_
      refine AH.oneS 22 rfl (by kernel_rfl) (s_store rfl rfl rfl siz4 (hb4.at_ hF4.c3) (Bk.melt hb4)) hT2 ?_
      refine AH.take 23 rfl (by kernel_rfl) (by kernel_rfl) (by kernel_rfl) (fun _ _ => y_assign rfl) hT2 rfl ?_
      refine AH.done (by kernel_rfl) ?_
      refine E.next ?_
      refine C.seq ?_
      refine C.reg ?_
      refine W.y (y_move rfl) rfl ?_
      refine W.y (y_move rfl) rfl ?_
      refine W.y (y_nilp rfl) rfl ?_
      refine W.y (y_field rfl fld76_7) rfl ?_
      refine W.y (y_move rfl) rfl ?_
      refine W.y (y_arrlh (i := 0) (j := nb) rfl rfl rfl Tryd.underlying74 siz5 (by omega) (by omega) (by omega)) rfl ?_
      refine W.y (y_nilp rfl) rfl ?_
      refine W.y (y_field rfl fld76_6) rfl ?_
      refine W.s (s_store rfl rfl rfl siz22 (hb5.at_ ((Outs.one _ 3 (.bool e2) 1029 (by omega)).trans ((ho4 1029 (by omega)).trans ((Outs.one _ 1028 (.int .i64 (n1 : Int)) 1029 (by omega)).trans ((Outs.one d1 0 .nilIface 1029 (by omega)).trans ((ho1 1029 (by omega)).trans ho9))))))  (Bk.melt hb5)) ?_
      refine W.fin ?_
      refine E.next ?_
      refine C.seq ?_
      refine C.reg ?_
      refine W.y (y_move rfl) rfl ?_
      refine W.y (y_move rfl) rfl ?_
      refine W.y (y_nilp rfl) rfl ?_
      refine W.y (y_field rfl fld76_6) rfl ?_
      refine W.y (y_load rfl pl22 (hb6.at_ (by rw [Array.getElem?_setIfInBounds, if_pos rfl, if_pos (by simp only [Array.size_setIfInBounds, splice_size]; have := hF3.size; simp only [Array.size_setIfInBounds] at this; omega)]))) rfl ?_
      refine W.y (Does.as (y_copy rfl rfl (run_copyB Tryd.underlying22 siz5 hP6 hrd (by rw [bv_length, hsl]; exact hq0) (one_u8 _) (by rw [bv_length]; omega) (.inr (Nat.zero_le _)))) (vint (b := (q : Int)) (by rw [bv_length, hsl]))) rfl ?_
      refine W.y (y_assign rfl) rfl ?_
      refine W.fin ?_
      refine E.next ?_
      refine C.reg ?_
      refine W.y (y_move rfl) rfl ?_
      refine W.y (y_move rfl) rfl ?_
      refine W.y (y_nilp rfl) rfl ?_
      refine W.y (y_field rfl fld76_6) rfl ?_
      refine W.y (y_load rfl pl22 (hb7.at_ (by rw [Array.getElem?_setIfInBounds, if_pos rfl, if_pos (by simp only [Array.size_setIfInBounds, splice_size]; have := hF3.size; simp only [Array.size_setIfInBounds] at this; omega)]))) rfl ?_
      refine W.y (y_move rfl) rfl ?_
      refine W.y (y_cutl rfl rfl Tryd.underlying22 siz5 (by omega)) rfl ?_
      refine W.y (y_nilp rfl) rfl ?_
      refine W.y (y_field rfl fld76_6) rfl ?_
      refine W.s (s_store rfl rfl rfl siz22 (hb7.at_ (by rw [Array.getElem?_setIfInBounds, if_pos rfl, if_pos (by simp only [Array.size_setIfInBounds, splice_size]; have := hF3.size; simp only [Array.size_setIfInBounds] at this; omega)])) (Bk.melt hb7)) ?_
      refine W.fin ?_
      exact E.mid (q, e2, _, _) ⟨(hK3r.trans' ((hK6.mono fun _ _ e => .inl e).trans' hK7 (fun _ _ e => .inr e) : Kp (fun x => x = gd ∨ x = gp) _ _) (fun x _ e => e.elim .inl (fun h => .inr (.inr (.inr h))))).set (.inl (.inl rfl)) _, hb8, hF8, by
        have := OF.give (oa := some ⟨gd, 1030 + 0, none⟩) (oc := 640) (k := q) (j := 0) (gd := gd) hF6.size hh6 (by omega) (by omega) (by omega) rfl
        rw [hdl] at this
        exact this, (hs3.kept hK6 hd.df.symm hd.dg.symm hd.dr.symm).kept ((hK7.mono fun _ _ e => .inl e : Kp (fun x => x = gp ∨ x = gd) _ _).set (.inl (.inr rfl)) _) hd.nf2 hd.ng2 hd.nr2, hP7.ne hd.pd _, by rw [splice_size]; exact hps, Hd.of_splice (by omega), hqq.1, hqq.2.1, hqq.2.2, he2 e2 he2c⟩ (Sub.cons rfl (Sub.cons rfl (Sub.cons rfl (Sub.cons rfl (Sub.cons rfl (Sub.nil _))))))
    have hT0 : w3.drew.drew.cell? ⟨gd, 1, none⟩ = some (.pointer (some ⟨gc, 0, none⟩)) := hb3.at_ hF3.c1
    refine C.seq ?_
    refine C.reg ?_
    refine W.y (y_move rfl) rfl ?_
    refine W.y (y_move rfl) rfl ?_
    refine W.y (y_len rfl Tryd.underlying22) rfl ?_
    refine W.y (y_gtrF rfl rfl (by omega)) rfl ?_
    refine W.fin ?_
    refine E.next ?_
    refine C.no rfl ?_
    refine C.held (fun w' => w'.cell? ⟨gd, 1, none⟩ = some (.pointer (some ⟨gc, 0, none⟩))) mixed ?_
    refine AH.take 0 rfl (by kernel_rfl) (by kernel_rfl) (by kernel_rfl) (fun _ _ => y_move rfl) hT0 rfl ?_
    refine AH.take 1 rfl (by kernel_rfl) (by kernel_rfl) (by kernel_rfl) (fun _ _ => y_move rfl) hT0 rfl ?_
    refine AH.take 2 rfl (by kernel_rfl) (by kernel_rfl) (by kernel_rfl) (fun _ _ => y_nilp rfl) hT0 rfl ?_
    refine AH.take 3 rfl (by kernel_rfl) (by kernel_rfl) (by kernel_rfl) (fun _ _ => y_field rfl fld76_1) hT0 rfl ?_
    refine AH.take 4 rfl (by kernel_rfl) (by kernel_rfl) (by kernel_rfl) (fun _ hw => y_load rfl pl53 hw) hT0 rfl ?_
    refine AH.take 5 rfl (by kernel_rfl) (by kernel_rfl) (by kernel_rfl) (fun _ _ => y_move rfl) hT0 rfl ?_
    refine AH.take 6 rfl (by kernel_rfl) (by kernel_rfl) (by kernel_rfl) (fun _ _ => y_move rfl) hT0 rfl ?_
    refine AH.take 7 rfl (by kernel_rfl) (by kernel_rfl) (by kernel_rfl) (fun _ _ => y_nilp rfl) hT0 rfl ?_
    refine AH.take 8 rfl (by kernel_rfl) (by kernel_rfl) (by kernel_rfl) (fun _ _ => y_field rfl fld76_4) hT0 rfl ?_
    refine AH.take 9 rfl (by kernel_rfl) (by kernel_rfl) (by kernel_rfl) (fun _ _ => y_move rfl) hT0 rfl ?_
    refine AH.take 10 rfl (by kernel_rfl) (by kernel_rfl) (by kernel_rfl) (fun _ _ => y_arrlh (i := 0) (j := nr) rfl rfl rfl Tryd.underlying73 siz5 (by omega) (by omega) (by omega)) hT0 rfl ?_
    refine AH.oneCall 11 rfl (by kernel_rfl) ent63 rfl (decode32_ret (src := (L ++ R.take k).take nr) (vs := vs1) (g := gp) (off := 0) (sb := gd) (so := 4) hbc3.drew.drew hec hf (fun e => by omega) hP3.drew.drew hd.pc.symm hv1 hq1 htk (.inr ⟨rfl, hsrcB⟩) (by rw [htl]; rfl) (by omega) (by omega) (by omega) (.inr (Nat.zero_le _)) (by omega) (by omega)) rfl ?_
    rintro _ w4 ⟨⟨e2, rfl, he2c⟩, hP4, hk4⟩
    rw [← hnb]
    have hb4 := hb3.drew.drew.kept hk4 hd.pd.symm
    have hF5 := hF3.set3 (.bool e2)
    have hb5 := Bk.set hb4 (0 + 3) (.bool e2)
    have hT1 : w4.cell? ⟨gd, 1, none⟩ = some (.pointer (some ⟨gc, 0, none⟩)) := hb4.at_ hF3.c1
    have hT2 : (w4.setCell ⟨gd, 0 + 3, none⟩ (.bool e2)).cell? ⟨gd, 1, none⟩ = some (.pointer (some ⟨gc, 0, none⟩)) := hb5.at_ hF5.c1
    have hK5 : Kp (fun x => x = gp ∨ x = gd) w3 (w4.setCell ⟨gd, 0 + 3, none⟩ (.bool e2)) := ((((Kp.refl (· = gp) w3).drew.drew.trans hk4).mono fun _ _ e => .inl e : Kp (fun x => x = gp ∨ x = gd) w3 w4)).set (.inl (.inr rfl)) _
    refine ⟨hT1, ?_⟩
    refine AH.take 12 rfl (by kernel_rfl) (by kernel_rfl) (by kernel_rfl) (fun _ _ => y_move rfl) hT1 rfl ?_
    refine AH.take 13 rfl (by kernel_rfl) (by kernel_rfl) (by kernel_rfl) (fun _ _ => y_ext rfl rfl) hT1 rfl ?_
    refine AH.take 14 rfl (by kernel_rfl) (by kernel_rfl) (by kernel_rfl) (fun _ _ => y_ext rfl rfl) hT1 rfl ?_
    refine AH.take 15 rfl (by kernel_rfl) (by kernel_rfl) (by kernel_rfl) (fun _ _ => y_ext rfl rfl) hT1 rfl ?_
    refine AH.take 16 rfl (by kernel_rfl) (by kernel_rfl) (by kernel_rfl) (fun _ _ => y_assign rfl) hT1 rfl ?_
    refine AH.take 17 rfl (by kernel_rfl) (by kernel_rfl) (by kernel_rfl) (fun _ _ => y_nilp rfl) hT1 rfl ?_
    refine AH.take 18 rfl (by kernel_rfl) (by kernel_rfl) (by kernel_rfl) (fun _ _ => y_field rfl fld76_3) hT1 rfl ?_
    refine AH.oneS 19 rfl (by kernel_rfl) (s_store rfl rfl rfl siz4 (hb4.at_ hF3.c3) (Bk.melt hb4)) hT2 ?_
    refine AH.take 20 rfl (by kernel_rfl) (by kernel_rfl) (by kernel_rfl) (fun _ _ => y_assign rfl) hT2 rfl ?_
    refine AH.done (by kernel_rfl) ?_
    exact E.mid (nb, e2, _, _) ⟨hK3r.trans' hK5 (fun x _ e => e.elim (fun h => .inr (.inr (.inr h))) .inl), hb5, hF5, by
      rw [List.drop_of_length_le (by omega)]
      exact OF.none ((Outs.one _ 3 (.bool e2) 1029 (by omega)).trans ((Outs.one _ 1028 (.int .i64 (n1 : Int)) 1029 (by omega)).trans ((Outs.one d1 0 .nilIface 1029 (by omega)).trans ((ho1 1029 (by omega)).trans ho9)))), hs3.kept hK5 hd.nf2 hd.ng2 hd.nr2, hP4.ne hd.pd _, by rw [splice_size]; exact hps, by rw [List.take_of_length_le (by omega)]; exact Hd.of_splice (by omega), hnb1.1, by omega, Nat.le_refl _, he2 e2 he2c⟩ (Sub.cons rfl (Sub.cons rfl (Sub.cons rfl (Sub.cons rfl (Sub.cons rfl (Sub.nil _))))))
  rintro ⟨n, e2, d4, p4⟩ w4 ⟨hK4, hb4, hF4, hO4, hs4, hP4, hp4, hh4, hn1a, hnm, hnnb, he4⟩
  show C _ _ _ _ [(0, .pointer (some ⟨gd, 0, none⟩)), (1, .slice (some ⟨gp, 0, none⟩) m m), (4, .int .i64 (n : Int)), (5, .nilIface), (9, .int .i64 (nr : Int))] _
  obtain ⟨r, hr⟩ : ∃ r, r = n1 - nr := ⟨_, rfl⟩
  have hr8 : r < 8 := by omega
  have hF5 := hF4.setN r (by omega)
  have hb5 := Bk.set hb4 (0 + 1028) (.int .i64 (r : Int))
  have hdr : ((L ++ R.take k).drop nr).length = r := by rw [List.length_drop]; omega
  refine C.seq ?_
  refine C.reg ?_
  refine W.y (y_move rfl) rfl ?_
  refine W.y (y_nilp rfl) rfl ?_
  refine W.y (y_field rfl fld76_5) rfl ?_
  refine W.y (y_load rfl pl3 (hb4.at_ hF4.nb)) rfl ?_
  refine W.y (y_move rfl) rfl ?_
  refine W.y (Does.as (y_sub rfl rfl (wi64 (by omega) (by omega))) (vint (b := ((r : Nat) : Int)) (by omega))) rfl ?_
  refine W.y (y_nilp rfl) rfl ?_
  refine W.y (y_field rfl fld76_5) rfl ?_
  refine W.s (s_store rfl rfl rfl siz3 (hb4.at_ hF4.nb) (Bk.melt hb4)) ?_
  refine W.fin ?_
  refine E.next ?_
  refine C.seq ?_
  refine C.seq ?_
  refine C.reg ?_
  refine W.y (y_assign rfl) rfl ?_
  refine W.fin ?_
  refine E.next ?_
  refine C.block ?_
  obtain ⟨d5, hd5⟩ : ∃ d5, d5 = (d4.setIfInBounds 1028 (.int .i64 (r : Int))) := ⟨_, rfl⟩
  have hb5d : Bk _ gd d5 76 (0, 0) := hd5 ▸ hb5
  have hF5d : DF 640 d5 .nilIface (.pointer (some ⟨gc, 0, none⟩)) (.iface 70 (.pointer (some ⟨gf, 0, none⟩))) (.bool e2) (L ++ R.take k) r := hd5 ▸ hF5
  have hO5 : OF 640 d5 gd ((Pl.unpack 5 vs1).drop n) := hd5 ▸ hO4.low (Outs.one d4 1028 _) (by omega)
  have hsr : Hd d5 (4 + nr) ((L ++ R.take k).drop nr) := hF5d.buf.drop nr
  refine C.loop (σ := Nat × Array Value) (fun (i, di) w' => i ≤ r ∧ Bk w' gd di 76 (0, 0) ∧ di.size = d5.size ∧ Outs d5 di 4 8 ∧ Hd di 4 (((L ++ R.take k).drop nr).take i) ∧ Kp (· = gd) w4 w') (fun (i, _) => [(0, .pointer (some ⟨gd, 0, none⟩)), (1, .slice (some ⟨gp, 0, none⟩) m m), (4, .int .i64 (n : Int)), (5, .nilIface), (9, .int .i64 (nr : Int)), (11, .int .i64 (i : Int))]) (fun (i, _) => r - i) (0, d5) ?_ ?_ ?_
  · exact ⟨by omega, hb5d, rfl, Outs.refl _ _ _, Hd.nil _ _, (Kp.refl (· = gd) w4).set (.inl rfl) _⟩
  · exact (Sub.cons rfl (Sub.cons rfl (Sub.cons rfl (Sub.cons rfl (Sub.cons rfl (Sub.cons rfl (Sub.nil _)))))))
  rintro ⟨i, di⟩ wi ⟨hi, hbi, hzi, hoi, hhi, hki⟩
  show C _ _ _ _ [(0, .pointer (some ⟨gd, 0, none⟩)), (1, .slice (some ⟨gp, 0, none⟩) m m), (4, .int .i64 (n : Int)), (5, .nilIface), (9, .int .i64 (nr : Int)), (11, .int .i64 (i : Int))] _
  have hnbi : di[1028]? = some (.int .i64 (r : Int)) := (hoi 1028 (by omega)).trans hF5d.nb
  have hszi := hF5d.size
  by_cases hir : i < r
  · obtain ⟨x, hx⟩ : ∃ x, ((L ++ R.take k).drop nr)[i]? = some x := ⟨_, List.getElem?_eq_getElem (by omega)⟩
    have hxc : di[4 + (i + nr)]? = some (u8 x) := by
      rw [hoi _ (by omega), show 4 + (i + nr) = 4 + nr + i by omega]
      exact hsr i x hx
    refine C.seq ?_
    refine C.seq ?_
    refine C.reg ?_
    refine W.y (y_move rfl) rfl ?_
    refine W.y (y_move rfl) rfl ?_
    refine W.y (y_nilp rfl) rfl ?_
    refine W.y (y_field rfl fld76_5) rfl ?_
    refine W.y (y_load rfl pl3 (hbi.at_ hnbi)) rfl ?_
    refine W.y (y_lssT rfl rfl (by omega)) rfl ?_
    refine W.fin ?_
    refine E.next ?_
    refine C.yes rfl ?_
    refine C.skip ?_
    refine E.next ?_
    refine C.seq ?_
    refine C.block ?_
    refine C.any mixed ?_
    refine AN.take 0 rfl (by kernel_rfl) (by kernel_rfl) (by kernel_rfl) (fun _ => y_move rfl) rfl ?_
    refine AN.take 1 rfl (by kernel_rfl) (by kernel_rfl) (by kernel_rfl) (fun _ => y_move rfl) rfl ?_
    refine AN.take 2 rfl (by kernel_rfl) (by kernel_rfl) (by kernel_rfl) (fun _ => y_move rfl) rfl ?_
    refine AN.take 3 rfl (by kernel_rfl) (by kernel_rfl) (by kernel_rfl) (fun _ => y_move rfl) rfl ?_
    refine AN.take 4 rfl (by kernel_rfl) (by kernel_rfl) (by kernel_rfl) (fun _ => y_move rfl) rfl ?_
    refine AN.take 5 rfl (by kernel_rfl) (by kernel_rfl) (by kernel_rfl) (fun _ => Does.as (y_add rfl rfl (wi64 (by omega) (by omega))) (vint (b := ((i + nr : Nat) : Int)) (by omega))) rfl ?_
    refine AN.take 6 rfl (by kernel_rfl) (by kernel_rfl) (by kernel_rfl) (fun _ => y_nilp rfl) rfl ?_
    refine AN.take 7 rfl (by kernel_rfl) (by kernel_rfl) (by kernel_rfl) (fun _ => y_field rfl fld76_4) rfl ?_
    refine AN.take 8 rfl (by kernel_rfl) (by kernel_rfl) (by kernel_rfl) (fun _ => y_ixa rfl rfl Tryd.underlying73 siz5 (by omega)) rfl ?_
    refine AN.take 10 rfl (by kernel_rfl) (by kernel_rfl) (by kernel_rfl) (fun _ => y_nilp rfl) rfl ?_
    refine AN.take 11 rfl (by kernel_rfl) (by kernel_rfl) (by kernel_rfl) (fun _ => y_field rfl fld76_4) rfl ?_
    refine AN.one 9 rfl (by kernel_rfl) (y_load rfl pl5 (hbi.drew.at_ hxc)) rfl ?_
    refine AN.take 12 rfl (by kernel_rfl) (by kernel_rfl) (by kernel_rfl) (fun _ => y_ixa rfl rfl Tryd.underlying73 siz5 (by omega)) rfl ?_
    refine AN.oneS 13 rfl (by kernel_rfl) (s_store rfl rfl rfl siz5 (Bk.some hbi.drew (by omega)) (Bk.melt hbi.drew)) ?_
    refine AN.done (by kernel_rfl) ?_
    refine E.blockNormal ?_
    refine E.next ?_
    refine C.reg ?_
    refine W.y (y_move rfl) rfl ?_
    refine W.y (y_add rfl rfl (wi64 (by omega) (by omega))) rfl ?_
    refine W.y (y_assign rfl) rfl ?_
    refine W.fin ?_
    exact E.again (i + 1, _) ⟨by omega, Bk.set hbi.drew (0 + 4 + i) (u8 x), by rw [Array.size_setIfInBounds]; exact hzi, hoi.set (by omega) (by omega), by
      rw [List.take_add_one, hx]
      exact (hhi.outs (Outs.one di (0 + 4 + i) (u8 x)) (by rw [List.length_take]; omega)).append (n := i) (fun j y hy => by
        match j, hy with
        | 0, hy =>
          injection hy with hy
          rw [Array.getElem?_setIfInBounds, if_pos (by omega), if_pos (by omega), hy]) (by rw [List.length_take]; omega), hki.drew.set (.inl rfl) _⟩ (Sub.cons rfl (Sub.cons rfl (Sub.cons rfl (Sub.cons rfl (Sub.cons rfl (Sub.cons rfl (Sub.nil _))))))) (by show r - (i + 1) < r - i; omega)
  obtain rfl : i = r := by omega
  rw [List.take_of_length_le (by omega)] at hhi
  have hF6 := hF5d.outs hzi hoi (by omega) (.inl (by omega)) hhi
  have hO6 := hO5.low hoi (by omega)
  have hKf : Kp (fun k => k = gd ∨ k = gg ∨ k = gr ∨ k = gp) w wi := hK4.trans' hki (fun _ _ e => .inl e)
  have hSt : St32 76 70 72 55 57 9 wi gd gc gf gg gr al pad ((Pl.unpack 5 vs).drop n) := ⟨di, (L ++ R.take k).drop nr, R.drop k, (Pl.unpack 5 vs1).drop n, vs2, e2, hbi, by rw [hdr]; exact hF6, hO6, hs4.kept hki hd.df.symm hd.dg.symm hd.dr.symm, by omega, hdk, hv2, hq2, he4, by rw [hun, List.drop_append_of_le_length (by omega)], by omega⟩
  have hPf : ∃ ps', Bk wi gp ps' tp (0, 0) ∧ ps'.size = m ∧ Hd ps' 0 ((Pl.unpack 5 vs).take n) := ⟨p4, hP4.kept hki hd.pd, hp4, by rw [hun, List.take_append_of_le_length (by omega)]; exact hh4⟩
  have hDl : n ≤ (Pl.unpack 5 vs).length := by rw [hun, List.length_append]; omega
  obtain ⟨oa2, oc2, ho6, _, _⟩ := hO6
  refine C.seq ?_
  refine C.seq ?_
  refine C.reg ?_
  refine W.y (y_move rfl) rfl ?_
  refine W.y (y_move rfl) rfl ?_
  refine W.y (y_nilp rfl) rfl ?_
  refine W.y (y_field rfl fld76_5) rfl ?_
  refine W.y (y_load rfl pl3 (hbi.at_ hnbi)) rfl ?_
  refine W.y (y_lssF rfl rfl (by omega)) rfl ?_
  refine W.fin ?_
  refine E.next ?_
  refine C.no rfl ?_
  refine C.exit ?_
  refine E.thenExit ?_
  refine E.thenExit ?_
  refine E.blockOut ?_
  refine E.next ?_
  refine C.seq ?_
  refine C.seq ?_
  refine C.still mixed (by kernel_rfl) ?_
  refine S.y (y_move rfl) rfl ?_
  refine S.y (y_nenil rfl eqNil47) rfl ?_
  refine S.y (y_move rfl) rfl ?_
  refine S.gn rfl rfl rfl ?_
  refine S.gn rfl rfl rfl ?_
  refine S.gn rfl rfl rfl ?_
  refine S.gn rfl rfl rfl ?_
  refine S.gn rfl rfl rfl ?_
  refine S.gn rfl rfl rfl ?_
  refine S.gu rfl rfl rfl ?_
  refine S.gu rfl rfl rfl ?_
  refine S.gu rfl rfl rfl ?_
  refine S.gu rfl rfl rfl ?_
  refine S.gu rfl rfl rfl ?_
  refine S.gu rfl rfl rfl ?_
  refine S.gn rfl rfl rfl ?_
  refine S.y (y_pick rfl rfl) rfl ?_
  refine S.end_ ?_
  refine E.next ?_
  refine C.no rfl ?_
  refine C.skip ?_
  refine E.next ?_
  refine C.seq ?_
  refine C.seq ?_
  by_cases hz : 0 < ((Pl.unpack 5 vs1).drop n).length
  · skip
    refine C.reg ?_
    refine W.y (y_move rfl) rfl ?_
    refine W.y (y_nilp rfl) rfl ?_
    refine W.y (y_field rfl fld76_6) rfl ?_
    refine W.y (y_load rfl pl22 (hbi.drew.at_ ho6)) rfl ?_
    refine W.y (y_len rfl Tryd.underlying22) rfl ?_
    refine W.y (y_gtrT rfl rfl (by omega)) rfl ?_
    refine W.fin ?_
    refine E.next ?_
    refine C.yes rfl ?_
    refine C.seq ?_
    refine C.reg ?_
    refine W.y (y_move rfl) rfl ?_
    refine W.y (y_assign rfl) rfl ?_
    refine W.y (y_assign rfl) rfl ?_
    refine W.fin ?_
    refine E.next ?_
    refine C.ret ?_
    refine E.thenRet ?_
    exact E.ret2 rfl rfl rfl ⟨hKf.drew, .inr ⟨n, hn1a, hnm, hDl, rfl, hPf, hSt⟩⟩
  · skip
    refine C.reg ?_
    refine W.y (y_move rfl) rfl ?_
    refine W.y (y_nilp rfl) rfl ?_
    refine W.y (y_field rfl fld76_6) rfl ?_
    refine W.y (y_load rfl pl22 (hbi.drew.at_ ho6)) rfl ?_
    refine W.y (y_len rfl Tryd.underlying22) rfl ?_
    refine W.y (y_gtrF rfl rfl (by omega)) rfl ?_
    refine W.fin ?_
    refine E.next ?_
    refine C.no rfl ?_
    refine C.skip ?_
    refine E.next ?_
    refine C.seq ?_
    refine C.still mixed (by kernel_rfl) ?_
    refine S.y (y_move rfl) rfl ?_
    refine S.y (y_move rfl) rfl ?_
    refine S.y (y_nilp rfl) rfl ?_
    refine S.y (y_field rfl fld76_0) rfl ?_
    refine S.y (y_load rfl pl47 (hbi.drew.drew.at_ hF6.c0)) rfl ?_
    refine S.y (y_assign rfl) rfl ?_
    refine S.y (y_assign rfl) rfl ?_
    refine S.end_ ?_
    refine E.next ?_
    refine C.ret ?_
    exact E.ret2 rfl rfl rfl ⟨hKf.drew.drew, .inr ⟨n, hn1a, hnm, hDl, rfl, hPf, hSt⟩⟩
theorem read32_ret {w : World} {gd gc gf gg gr gp m : Nat} {te tp : TypeId} {cs ps : Array Value} {al : List UInt8} {pad : Int} {D : List UInt8} {ae : Addr} (hSt : St32 76 70 72 55 57 9 w gd gc gf gg gr al pad (D))
    (hEof : w.cell? ⟨0, 0, none⟩ = some (.iface 116 (.pointer (some ae)))) (hbc : Bk w gc cs te (0, 0)) (hec : EncC 32 cs al pad) (hf : Fit 32 al pad) (hp0 : 0 ≤ pad) (hd : Dst gp gd gc gf gg gr) (hP : Bk w gp ps tp (0, 0)) (hps : ps.size = m) (hm : 1 ≤ m) (hM : m ≤ 65536) :
    Ret Tryd.prog 61 #[.pointer (some ⟨gd, 0, none⟩), .slice (some ⟨gp, 0, none⟩) m m] w fun v w' => Kp (fun k => k = gd ∨ k = gg ∨ k = gr ∨ k = gp) w w' ∧ ((D = [] ∧ v = .tuple #[.int .i64 0, (.iface 116 (.pointer (some ae)))]) ∨ ∃ n : Nat, 1 ≤ n ∧ n ≤ m ∧ n ≤ (D).length ∧ v = .tuple #[.int .i64 (n : Int), .nilIface] ∧ (∃ ps', Bk w' gp ps' tp (0, 0) ∧ ps'.size = m ∧ Hd ps' 0 ((D).take n)) ∧ St32 76 70 72 55 57 9 w' gd gc gf gg gr al pad ((D).drop n)) := by
  obtain ⟨ds, L, R, O, vs, e, hb, hF, hO, hS, hL8, hX, hv, hq, he, rfl, hvl⟩ := hSt
  by_cases hO0 : O = []
  · have := read32B_ret hb hF hO hS hL8 hX hv hq he hvl hEof hbc hec hf hp0 hd hP hps hm hM hO0
    subst hO0
    exact this
  · exact read32A_ret hb hF hO hS hL8 hX hv hq he hvl hd hP hps hm hO0
end Go.Proofs.YtlcbcedhbahbbaaDoor
