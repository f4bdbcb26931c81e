/-
  Walk: DecodeStream32.
-/
import Derived.Test.YtlcbcedhbahbbaaDoorS7
namespace Go.Proofs.YtlcbcedhbahbbaaDoor
open Go.RowKit
theorem ent24 : Enters Tryd.prog 24 := enters_of Tryd.func24 (by kernel_rfl) rfl
theorem ent25 : Enters Tryd.prog 25 := enters_of Tryd.func25 (by kernel_rfl) rfl
theorem buildGiv (A : Option Addr) (n c : Nat) (w : World) : (Instr.build 57 #[(0, .slice A n c)]).run Tryd.prog w = .ok (.agg #[.slice A n c]) w := by kernel_rfl

set_option maxRecDepth 4000 in
theorem decodeStream32_ret {w : World} {A A2 : Option Addr} {n c n2 c2 : Nat} {al : List UInt8} {pad : Int} {ts : List (List UInt8)} {zs : List Int} {vs : List Nat} {ae : Addr} (hf : Fit 32 al pad) (hp0 : 0 ≤ pad) (hEof : w.cell? ⟨0, 0, none⟩ = some (.iface 116 (.pointer (some ae))))
    (hT : Rd w A (ts.map str)) (hn : ts.length = n) (ht0 : ts ≠ []) (hN : n ≤ 1000000000) (hTl : ts.flatten.length ≤ 1000000000) (hX : strip ts.flatten = vs.map (Pl.letter al) ++ Pl.pads 8 pad vs.length) (hv : ∀ v ∈ vs, v < 32) (hq : ∃ q, vs.length = Pl.nlet 5 q)
    (hz : Rd w A2 (iv zs)) (hn2 : zs.length = n2) (hN2 : n2 ≤ 1000000000000) (hz0 : zs ≠ []) (hzz : ∀ z ∈ zs, 1 ≤ z ∧ z ≤ 65536) :
    Ret Tryd.prog 14 #[str al, .int .i64 pad, .slice A n c, .slice A2 n2 c2] w fun v w' => (∃ vd vc ks, v = .tuple #[vd, vc, .int .i64 0] ∧ Own w' 5 vd (bv (Pl.unpack 5 vs)) ∧ Own w' 2 vc (iv ks) ∧ ks ≠ [] ∧ Cnt zs ks (Pl.unpack 5 vs).length ∧ ks.length ≤ (Pl.unpack 5 vs).length + 1) ∧ Kp (fun _ => False) w w' := by
  subst hn hn2
  have hml : (ts.map str).length = ts.length := List.length_map _
  have hE0 := World.block_lt_of_cell? w _ hEof
  simp only at hE0
  have hvl : vs.length ≤ 1000000000 := by
    have h1 := congrArg List.length hX
    have h2 := strip_le ts.flatten
    rw [List.length_append, List.length_map] at h1
    omega
  obtain ⟨gz, oz, hA2, hgz, _⟩ := hz.get (by intro e; have := congrArg List.length e; rw [iv_length] at this; simp at this; exact hz0 this)
  refine ret_of Tryd.func14 rfl Tryd.ntmps14 (Nat.le_of_ble_eq_true rfl) ?_
  refine C.seq ?_
  refine C.reg ?_
  refine W.y (y_assign rfl) rfl ?_
  refine W.y (y_assign rfl) rfl ?_
  refine W.y (y_assign rfl) rfl ?_
  refine W.fin ?_
  refine E.next ?_
  refine C.seq ?_
  refine C.reg ?_
  refine W.y (y_move rfl) rfl ?_
  refine W.y (y_move rfl) rfl ?_
  refine W.call ent26 rfl (encoding32_ret hf) rfl ?_
  rintro _ w1 ⟨gc, cs, rfl, hgc, hbc, hec, hk1⟩
  obtain ⟨v1, x1, hr1, ho1, hg1, ha1⟩ := run_app (P := Tryd.prog) (w := w1) (ty := 28) (c := c) el28 (Own.nil w1 9) (hT.kept hk1 (fun _ _ _ => id)) (one_str ts) (by rw [hml, List.length_nil]; omega) (by omega)
  rw [hml] at hr1
  rw [List.nil_append] at ho1
  have hkx : Kp (fun _ => False) w1 x1 := grown_kp hg1 (fun _ e => by cases e)
  rcases ho1.form with ⟨_, e0⟩ | ⟨gr, cap, rows, e1, hbr, hl1, hcs1, hcc⟩
  · exact absurd (List.map_eq_nil_iff.1 e0) ht0
  rw [hml] at e1 hl1
  subst e1
  have hgr : gr = w1.heap.size := by
    rcases ha1 with e1 | e1
    · cases e1
    · exact Option.some.inj e1
  have hs1 := hk1.size
  have hsx := hkx.size
  have hgrl := hbr.lt
  have hgcl := hbc.lt
  refine W.y (y_move rfl) rfl ?_
  refine W.y (y_app rfl rfl hr1) rfl ?_
  refine W.y (y_build1 rfl (buildGiv _ _ _ _)) rfl ?_
  refine W.y (y_box rfl) rfl ?_
  refine W.y (y_iff rfl Tryd.underlying55 rfl) rfl ?_
  refine W.call ent25 rfl newDecoder32_ret rfl ?_
  rintro _ w3 ⟨rfl, hbf, ⟨ds, hbd, hDF, hOF⟩, hk3, hs3⟩
  have hk23 : Kp (fun _ => False) x1 w3 := ((Kp.refl (fun _ => False) x1).alloc _).trans hk3
  have hbg : Bk w3 x1.heap.size #[(.slice (some ⟨gr, 0, none⟩) ts.length cap)] 57 (0, 0) := (Bk.new x1 _ 57).kept hk3 id
  simp only [World.size_alloc] at hbf hbd hs3 hOF hDF
  have hK := (hk1.trans hkx).trans hk23
  have hsrc : Src 72 55 57 9 w3 (x1.heap.size + 1) x1.heap.size gr (strip ts.flatten) := ⟨hbf, ts.flatten, ⟨some ⟨gr, 0, none⟩, ts.length, cap, 0, rows, ts, hbg, hbr.kept hk23 id, rfl, hl1, by omega, fun _ => rfl, fun i s hi => by rw [Nat.zero_add]; exact hcc i (str s) (by rw [List.getElem?_map, hi]; rfl), rfl, by omega, by omega⟩, rfl⟩
  have hSt : St32 76 70 72 55 57 9 w3 (x1.heap.size + 1 + 1) gc (x1.heap.size + 1) x1.heap.size gr al pad (Pl.unpack 5 vs) := ⟨ds, [], strip ts.flatten, [], vs, false, hbd, hDF, hOF, hsrc, by simp, hX, hv, hq, (fun e => by cases e), rfl, by omega⟩
  simp only [World.size_alloc]
  refine W.y (y_move rfl) rfl ?_
  refine W.call ent24 rfl (readAll32_ret hSt (eof_kept hEof hK id) ((hbc.kept hkx id).kept hk23 id) hec hf hp0 (fun gp hgp => ⟨by omega, by omega, by omega, by omega, by omega, by omega, by omega, by omega, by omega, by omega, by omega, by omega, by omega, by omega, by omega, by omega, by omega, by omega⟩) (by omega) (hz.kept hK (fun _ _ _ => id)) (fun g o e => by rw [hA2] at e; injection e with e; injection e with e; omega) rfl hN2 hz0 hzz (by rw [Pl.unpack_length]; omega)) rfl ?_
  rintro _ w4 ⟨⟨vd, vc, ks, rfl, hod, hoc, hk0, hcn, hkl⟩, hk4⟩
  have hKf : Kp (fun _ => False) w w4 := hK.trans' hk4 (fun k hk e => by omega)
  have hEf := eof_kept hEof hKf id
  refine W.y (y_move rfl) rfl ?_
  refine W.y (y_ext rfl rfl) rfl ?_
  refine W.y (y_ext rfl rfl) rfl ?_
  refine W.y (y_ext rfl rfl) rfl ?_
  refine W.y (y_assign rfl) rfl ?_
  refine W.y (y_assign rfl) rfl ?_
  refine W.y (y_assign rfl) rfl ?_
  refine W.fin ?_
  refine E.next ?_
  refine C.seq ?_
  refine C.seq ?_
  refine C.reg ?_
  refine W.y (y_move rfl) rfl ?_
  refine W.y (y_tassF rfl Tryd.underlying58 (zero_run (v := .int .i64 0) (by kernel_rfl) _) (by decide)) rfl ?_
  refine W.y (y_move rfl) rfl ?_
  refine W.y (y_ext rfl rfl) rfl ?_
  refine W.y (y_ext rfl rfl) rfl ?_
  refine W.y (y_assign rfl) rfl ?_
  refine W.y (y_assign rfl) rfl ?_
  refine W.fin ?_
  refine E.next ?_
  refine C.seq ?_
  refine C.reg ?_
  refine W.y (y_move rfl) rfl ?_
  refine W.fin ?_
  refine E.next ?_
  refine C.no rfl ?_
  refine C.skip ?_
  refine E.next ?_
  refine C.seq ?_
  refine C.seq ?_
  refine C.reg ?_
  refine W.y (y_move rfl) rfl ?_
  refine W.fin ?_
  refine E.next ?_
  refine C.block ?_
  refine C.seq ?_
  refine C.reg ?_
  refine W.y (y_load rfl pl47 hEf) rfl ?_
  refine W.y (y_eqifS rfl rfl ifpE) rfl ?_
  refine W.y (y_assign rfl) rfl ?_
  refine W.fin ?_
  refine E.next ?_
  refine C.yes rfl ?_
  refine C.seq ?_
  refine C.reg ?_
  refine W.y (y_move rfl) rfl ?_
  refine W.y (y_move rfl) rfl ?_
  refine W.y (y_assign rfl) rfl ?_
  refine W.y (y_assign rfl) rfl ?_
  refine W.y (y_assign rfl) rfl ?_
  refine W.fin ?_
  refine E.next ?_
  refine C.ret ?_
  refine E.blockRet ?_
  refine E.thenRet ?_
  exact E.ret3 rfl rfl rfl rfl ⟨⟨_, _, _, rfl, hod, hoc, hk0, hcn, hkl⟩, hKf⟩
end Go.Proofs.YtlcbcedhbahbbaaDoor
