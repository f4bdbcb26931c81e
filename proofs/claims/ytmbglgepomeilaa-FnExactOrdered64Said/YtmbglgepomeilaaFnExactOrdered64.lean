/-
  The Go function laws.FnExactOrdered64 returns true and leaves its arguments as they were, for every input.
  Conditions: none beyond the statement's own, by which each string and slice that comes in takes at most 2^47 - 4096 bytes.
-/
import Derived.Test.YtmbglgepomeilaaFr
import Derived.Test.YtmbglgepomeilaaLK
namespace Go.Proofs.Ytmbglgepomeilaa.fnExactOrdered64
open Go.ChangeShapes Go.WideShapes Go.ChangeAt Go.RowKit
open Go.ChangeMaps (open_string)
theorem cells5 : Try.prog.cellsOf 5 = 1 := by kernel_rfl
theorem cells24 : Try.prog.cellsOf 24 = 1 := by kernel_rfl
theorem readable : ∀ t ∈ Try.f5.params.toList, Try.prog.readableRec t = true ∧ t < Try.prog.types.size := by
  rw [Try.params5]
  intro t ht
  simp only [List.mem_cons, List.not_mem_nil, or_false] at ht
  rcases ht with rfl
  all_goals exact ⟨by kernel_rfl, of_decide_eq_true (by kernel_rfl)⟩
theorem contract (H : Type) (enc : TypeId × Value → H) (W : World) (base : Nat) (args : Array Value) (ds gs : List (DataW H)) (before : List MemPlace)
    (hval : ∀ (j : Nat) t v, Try.f5.params[j]? = some t → args[j]? = some v → Value.okWide Try.prog W .any base t v)
    (hW : DataW.Whole enc Try.prog Try.f5.params.toList Rows.fnExactOrdered64Spec.vars false W args.toList ds gs before) :
    Calls Try.prog 5 args W fun e W' => ∃ v, e = .returned v ∧ Rows.fnExactOrdered64Spec.post enc Try.prog Try.f5 false true false false W args v W' := by
  have hW' := hW
  obtain ⟨p, q, hA0, hV, rfl, hfz, hnd⟩ := hW
  have hA : DataW.TrodAll enc Try.prog W 0 (fun _ => true) true Try.f5.params.toList args.toList ds p := hA0
  rw [Try.params5] at hA hval
  obtain ⟨v0, vs0, d0, ds0, p0, q0, hargs, rfl, rfl, h0, r0⟩ := trodAll_cons hA
  obtain ⟨rfl, rfl, rfl⟩ := trodAll_nil r0
  obtain rfl : args = #[v0] := by cases args; simp_all
  obtain ⟨rfl, rfl⟩ := trodVars_none hV
  have hk2 : True := trivial
  clear hA0
  obtain ⟨A0, n0, c0, ps0, rfl, hn0, hc0, hP0, hb0, hm0, hL0⟩ := open_pieces Try.underlying22 Try.underlying24 Try.underlying5 cells24 cells5 (hval 0 22 v0 rfl rfl) h0
  refine Calls.mono (fnExactOrdered64_ret hP0 hn0 (by omega) hL0) fun e W' he => ?_
  obtain ⟨v, rfl, rfl, hkp⟩ := he
  have hW2 := hW'
  exact ⟨_, rfl, by
    have hp := post_true (f := Try.f5) (s := Rows.fnExactOrdered64Spec) (tb := 4) hW2 rfl rfl Try.underlying4 rfl rfl rfl laid readable (hkp.below (Nat.le_refl _) (fun _ _ => id))
    exact hp⟩
set_option maxRecDepth 100000 in
theorem lifted (os : Os) (started : os.Started) (H : Type) (enc : TypeId × Value → H) :
    ReturnsInHanded {} Try.checked os 5 .any (Rows.fnExactOrdered64Spec.pre6 enc Try.prog Try.f5 Rows.fnExactOrdered64Row.domain false) (Rows.fnExactOrdered64Spec.post enc Try.prog Try.f5 false true false false) := by
  refine returnsInHanded_of_change (C := Try.checked) own started (by kernel_rfl) Try.func5
    (ChangeSpec.witness6 (enc := enc) (C := Try.checked) false ⟨#[], #[.slice none 0 0], []⟩ 8 (by kernel_rfl) (by kernel_rfl) (by kernel_rfl) (by kernel_rfl)) ?_
  intro W base args ds gs before hval hW _ _
  exact contract H enc W base args ds gs before hval hW
theorem proved : Rows.FnExactOrdered64Said :=
  OpenClaim.holds_of_wide 5 Try.f5 rfl rfl rfl rfl rfl rfl rfl ⟨rfl, rfl, rfl, rfl, rfl⟩ rfl rfl rfl rfl rfl (by kernel_rfl) Try.func5 (by kernel_rfl)
    (of_decide_eq_true (by kernel_rfl)) (by unfold Func.isWrapper; first | (rw [if_pos (by decide +kernel)]; kernel_rfl) | (rw [if_neg (by decide +kernel)]; exact ⟨rfl, rfl⟩))
    (fun os started H enc _ => lifted os started H enc)
end Go.Proofs.Ytmbglgepomeilaa.fnExactOrdered64
