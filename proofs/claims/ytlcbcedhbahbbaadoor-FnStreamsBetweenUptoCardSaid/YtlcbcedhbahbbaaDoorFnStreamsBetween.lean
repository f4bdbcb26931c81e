/-
  The Go function laws.FnStreamsBetween returns true and leaves its arguments as they were, for every input whose arguments hold together at most 1048576 values and letters.
  Conditions: that bound, and that io.EOF holds at the start what the text of its package lays.
-/
import Derived.Test.YtlcbcedhbahbbaaDoorFe
import Derived.Test.YtlcbcedhbahbbaaDoorU5
namespace Go.Proofs.YtlcbcedhbahbbaaDoor.fnStreamsBetween
open Go.ChangeShapes Go.WideShapes Go.ChangeAt Go.RowKit
open Go.ChangeMaps (open_string)
theorem cells2 : Tryd.prog.cellsOf 2 = 1 := by kernel_rfl
theorem cells5 : Tryd.prog.cellsOf 5 = 1 := by kernel_rfl
theorem cells22 : Tryd.prog.cellsOf 22 = 1 := by kernel_rfl
theorem readable : ∀ t ∈ Tryd.f11.params.toList, Tryd.prog.readableRec t = true ∧ t < Tryd.prog.types.size := by
  rw [Tryd.params11]
  intro t ht
  simp only [List.mem_cons, List.not_mem_nil, or_false] at ht
  rcases ht with rfl | rfl | rfl | rfl | rfl | rfl | rfl
  all_goals exact ⟨by kernel_rfl, of_decide_eq_true (by kernel_rfl)⟩
set_option maxRecDepth 20000 in
theorem contract (H : Type) (enc : TypeId × Value → H) (W : World) (base : Nat) (args : Array Value) (ds gs : List (DataW H)) (before : List MemPlace)
    (hval : ∀ (j : Nat) t v, Tryd.f11.params[j]? = some t → args[j]? = some v → Value.okWide Tryd.prog W .any base t v)
    (hW : DataW.Whole enc Tryd.prog Tryd.f11.params.toList Rows.fnStreamsBetweenSpec.vars false W args.toList ds gs before) (hk : Rows.uptoSmall H (ds ++ gs) = true) (hL : laidMetH Tryd.prog [("io.EOF", Rows.laid_io_EOF)] W) :
    Calls Tryd.prog 11 args W fun e W' => ∃ v, e = .returned v ∧ Rows.fnStreamsBetweenSpec.post enc Tryd.prog Tryd.f11 false true false false W args v W' := by
  have hW' := hW
  obtain ⟨p, q, hA0, hV, rfl, hfz, hnd⟩ := hW
  have hA : DataW.TrodAll enc Tryd.prog W 0 (fun _ => true) true Tryd.f11.params.toList args.toList ds p := hA0
  rw [Tryd.params11] at hA hval
  obtain ⟨v0, vs0, d0, ds0, p0, q0, hargs, rfl, rfl, h0, r0⟩ := trodAll_cons hA
  obtain ⟨v1, vs1, d1, ds1, p1, q1, rfl, rfl, rfl, h1, r1⟩ := trodAll_cons r0
  obtain ⟨v2, vs2, d2, ds2, p2, q2, rfl, rfl, rfl, h2, r2⟩ := trodAll_cons r1
  obtain ⟨v3, vs3, d3, ds3, p3, q3, rfl, rfl, rfl, h3, r3⟩ := trodAll_cons r2
  obtain ⟨v4, vs4, d4, ds4, p4, q4, rfl, rfl, rfl, h4, r4⟩ := trodAll_cons r3
  obtain ⟨v5, vs5, d5, ds5, p5, q5, rfl, rfl, rfl, h5, r5⟩ := trodAll_cons r4
  obtain ⟨v6, vs6, d6, ds6, p6, q6, rfl, rfl, rfl, h6, r6⟩ := trodAll_cons r5
  obtain ⟨rfl, rfl, rfl⟩ := trodAll_nil r6
  obtain rfl : args = #[v0, v1, v2, v3, v4, v5, v6] := by cases args; simp_all
  obtain ⟨rfl, rfl⟩ := trodVars_none hV
  have hk2 : Rows.uptoBulkAll [d0, d1, d2, d3, d4, d5, d6] ≤ 1048576 := of_decide_eq_true hk
  simp only [Rows.uptoBulkAll] at hk2
  clear hA0
  obtain ⟨ae, hEof⟩ := of_laid hL
  obtain ⟨s0, rfl, rfl, rfl, hmax0⟩ := open_string Tryd.underlying9 (hval 0 9 v0 rfl rfl) h0
  have e0 := str_data s0
  have l0 : s0.data.toList.length ≤ 9223372036854775807 := by rw [Array.length_toList]; exact hmax0
  rw [e0]
  simp only [Rows.uptoBulk] at hk2
  obtain ⟨z1, rfl, rfl, rfl, hz1⟩ := open_int Tryd.underlying2 (hval 1 2 v1 rfl rfl) h1
  have hw1 := wf_i64 hz1
  obtain ⟨s2, rfl, rfl, rfl, hmax2⟩ := open_string Tryd.underlying9 (hval 2 9 v2 rfl rfl) h2
  have e2 := str_data s2
  have l2 : s2.data.toList.length ≤ 9223372036854775807 := by rw [Array.length_toList]; exact hmax2
  rw [e2]
  simp only [Rows.uptoBulk] at hk2
  obtain ⟨z3, rfl, rfl, rfl, hz3⟩ := open_int Tryd.underlying2 (hval 3 2 v3 rfl rfl) h3
  have hw3 := wf_i64 hz3
  obtain ⟨A4, n4, c4, ps4, rfl, hn4, hc4, hP4, hb4, hm4, hL4⟩ := open_pieces Tryd.underlying38 Tryd.underlying22 Tryd.underlying5 cells22 cells5 (hval 4 38 v4 rfl rfl) h4
  obtain ⟨A5, n5, c5, zs5, rfl, hj5, hc5, hi5, hb5⟩ := open_i64s Tryd.underlying23 Tryd.underlying2 cells2 (hval 5 23 v5 rfl rfl) h5
  obtain ⟨A6, n6, c6, zs6, rfl, hj6, hc6, hi6, hb6⟩ := open_i64s Tryd.underlying23 Tryd.underlying2 cells2 (hval 6 23 v6 rfl rfl) h6
  refine Calls.mono (fnStreamsBetween_ret (by omega) (by omega) hP4 hn4 (by omega) (by omega) hi5 hj5 (by omega) hi6 hj6 (by omega) hEof) fun e W' he => ?_
  obtain ⟨v, rfl, rfl, hkp⟩ := he
  have hW2 := hW'
  exact ⟨_, rfl, by
    have hp := post_true (f := Tryd.f11) (s := Rows.fnStreamsBetweenSpec) (tb := 4) hW2 rfl rfl Tryd.underlying4 rfl rfl rfl laid readable (hkp.below (Nat.le_refl _) (fun _ _ => id))
    rw [e0] at hp; rw [e2] at hp; exact hp⟩
theorem reads (os : Os) {H : Type} (enc : TypeId × Value → H) : ∃ places, DataW.whole enc Tryd.prog ((laidWorld os).forCall (fun _ _ => 0) ⟨#[], #[.string .empty, .int .i64 0, .string .empty, .int .i64 0, .slice none 0 0, .slice none 0 0, .slice none 0 0], []⟩).memory Tryd.f11.params.toList Rows.fnStreamsBetweenSpec.vars false #[.string .empty, .int .i64 0, .string .empty, .int .i64 0, .slice none 0 0, .slice none 0 0, .slice none 0 0].toList 8 = some ([.lit (.string []), .lit (.int .i64 0), .lit (.string []), .lit (.int .i64 0), .nil, .nil, .nil], [], places) :=
  ⟨[], by kernel_rfl⟩
set_option maxRecDepth 100000 in
theorem lifted (os : Os) (started : os.Started) (H : Type) (enc : TypeId × Value → H) (F : Stop.Interp) :
    ReturnsInHanded {} Tryd.checked os 11 .any ((Rows.OpenSpec.upto Rows.fnStreamsBetweenSpec).preRow enc Tryd.prog Tryd.f11 Rows.fnStreamsBetweenUptoRow.domain false Rows.fnStreamsBetweenUptoRow.laid) (((Rows.OpenSpec.upto Rows.fnStreamsBetweenSpec).at F).post enc Tryd.prog Tryd.f11 false true false false) := by
  obtain ⟨places, hx⟩ := reads os enc
  refine returnsInHanded_of_row (C := Tryd.checked) (s := Rows.OpenSpec.upto Rows.fnStreamsBetweenSpec) own started (by kernel_rfl) Tryd.func11
    (witness_row_at (enc := enc) (C := Tryd.checked) false (laidWorld os) #[.string .empty, .int .i64 0, .string .empty, .int .i64 0, .slice none 0 0, .slice none 0 0, .slice none 0 0] rfl (by kernel_rfl) (by kernel_rfl) (by kernel_rfl)
      (OpenSpec.preRow_of_cond 8 hx (by kernel_rfl) (fun k hk => by cases hk; kernel_rfl) (by kernel_rfl) (laid_met os _))) ?_
  intro W base args ds gs before hval hW _ hk _ hL _ _
  exact contract H enc W base args ds gs before hval hW (hk _ rfl) hL
theorem said : Rows.FnStreamsBetweenUptoSaid :=
  OpenClaim.holds_of_cond 11 Tryd.f11 rfl rfl rfl rfl rfl rfl rfl ⟨rfl, rfl, rfl, rfl, rfl⟩ rfl rfl rfl rfl rfl (by kernel_rfl) Tryd.func11 (by kernel_rfl)
    (of_decide_eq_true (by kernel_rfl)) (by unfold Func.isWrapper; first | (rw [if_pos (by decide +kernel)]; kernel_rfl) | (rw [if_neg (by decide +kernel)]; exact ⟨rfl, rfl⟩))
    (fun os started H enc _ F => by rw [OpenClaim.pre_eq_preRow]; exact lifted os started H enc F)
theorem plain (f : FuncId) (fn : Func) (hf : Tryd.pinned.checked.prog.funcNamed "loop.example/lib-g01421/laws.FnStreamsBetween" = some f) (hfn : Tryd.pinned.checked.prog.funcs[f]? = some fn) :
    true = Tryd.pinned.checked.prog.looks [] ∧ ∀ (j : Nat) t, fn.params[j]? = some t → Tryd.pinned.checked.prog.wantsStandIn t = false := by
  obtain rfl : f = 11 := Option.some.inj ((show Tryd.prog.funcNamed "loop.example/lib-g01421/laws.FnStreamsBetween" = some 11 by kernel_rfl).symm.trans hf) |>.symm
  obtain rfl : fn = Tryd.f11 := (Option.some.inj (Tryd.func11.symm.trans hfn)).symm
  refine ⟨by kernel_rfl, fun j t ht => ?_⟩
  rw [Tryd.params11] at ht
  have hm : t ∈ [9, 2, 9, 2, 38, 23, 23] := by simpa using Array.mem_of_getElem? ht
  have hall : ([9, 2, 9, 2, 38, 23, 23].all fun u => !Tryd.prog.wantsStandIn u) = true := by kernel_rfl
  exact (show Tryd.prog.wantsStandIn t = false by simpa using List.all_eq_true.1 hall t hm)
theorem proved : Rows.FnStreamsBetweenUptoCardSaid :=
  Claim7.holds_tied_plain_at .later [] _ _ _ _ said (fun _ h => by cases h) (by kernel_rfl) (fun _ h => by cases h) fnStreamsBetweenUpto_row_tie rfl ⟨rfl, rfl⟩ (by kernel_rfl) rfl plain (by kernel_rfl)
end Go.Proofs.YtlcbcedhbahbbaaDoor.fnStreamsBetween
