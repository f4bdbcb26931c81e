/-
  The Go function laws.FnFifteen returns true and leaves its arguments as they were, for every input whose arguments hold together at most 1048576 values and letters.
  Conditions: that bound.
-/
import Derived.Test.YtlcbcedhbahbbaaFr
import Derived.Test.YtlcbcedhbahbbaaG
namespace Go.Proofs.Ytlcbcedhbahbbaa.fnFifteen
open Go.ChangeShapes Go.WideShapes Go.ChangeAt Go.RowKit
open Go.ChangeMaps (open_string)
theorem cells5 : Try.prog.cellsOf 5 = 1 := by kernel_rfl
theorem cells22 : Try.prog.cellsOf 22 = 1 := by kernel_rfl
theorem readable : ∀ t ∈ Try.f3.params.toList, Try.prog.readableRec t = true ∧ t < Try.prog.types.size := by
  rw [Try.params3]
  intro t ht
  simp only [List.mem_cons, List.not_mem_nil, or_false] at ht
  rcases ht with rfl | rfl | rfl
  all_goals exact ⟨by kernel_rfl, of_decide_eq_true (by kernel_rfl)⟩
theorem contract (H : Type) (enc : TypeId × Value → H) (W : World) (base : Nat) (args : Array Value) (ds gs : List (DataW H)) (before : List MemPlace)
    (hval : ∀ (j : Nat) t v, Try.f3.params[j]? = some t → args[j]? = some v → Value.okWide Try.prog W .any base t v)
    (hW : DataW.Whole enc Try.prog Try.f3.params.toList Rows.fnFifteenSpec.vars false W args.toList ds gs before) (hk : Rows.uptoSmall H (ds ++ gs) = true) :
    Calls Try.prog 3 args W fun e W' => ∃ v, e = .returned v ∧ Rows.fnFifteenSpec.post enc Try.prog Try.f3 false true false false W args v W' := by
  have hW' := hW
  obtain ⟨p, q, hA0, hV, rfl, hfz, hnd⟩ := hW
  have hA : DataW.TrodAll enc Try.prog W 0 (fun _ => true) true Try.f3.params.toList args.toList ds p := hA0
  rw [Try.params3] at hA hval
  obtain ⟨v0, vs0, d0, ds0, p0, q0, hargs, rfl, rfl, h0, r0⟩ := trodAll_cons hA
  obtain ⟨v1, vs1, d1, ds1, p1, q1, rfl, rfl, rfl, h1, r1⟩ := trodAll_cons r0
  obtain ⟨v2, vs2, d2, ds2, p2, q2, rfl, rfl, rfl, h2, r2⟩ := trodAll_cons r1
  obtain ⟨rfl, rfl, rfl⟩ := trodAll_nil r2
  obtain rfl : args = #[v0, v1, v2] := by cases args; simp_all
  obtain ⟨rfl, rfl⟩ := trodVars_none hV
  have hk2 : Rows.uptoBulkAll [d0, d1, d2] ≤ 1048576 := of_decide_eq_true hk
  simp only [Rows.uptoBulkAll] at hk2
  clear hA0
  obtain ⟨s0, rfl, rfl, rfl, hmax0⟩ := open_string Try.underlying9 (hval 0 9 v0 rfl rfl) h0
  have e0 := str_data s0
  have l0 : s0.data.toList.length ≤ 9223372036854775807 := by rw [Array.length_toList]; exact hmax0
  rw [e0]
  simp only [Rows.uptoBulk] at hk2
  obtain ⟨s1, rfl, rfl, rfl, hmax1⟩ := open_string Try.underlying9 (hval 1 9 v1 rfl rfl) h1
  have e1 := str_data s1
  have l1 : s1.data.toList.length ≤ 9223372036854775807 := by rw [Array.length_toList]; exact hmax1
  rw [e1]
  simp only [Rows.uptoBulk] at hk2
  obtain ⟨A2, n2, c2, b2, rfl, hn2, hc2, hm2, hr2, hg2, hb2⟩ := open_bytes Try.underlying22 Try.underlying5 cells5 (hval 2 22 v2 rfl rfl) h2
  refine Calls.mono (fnFifteen_ret (by omega) (by omega) hr2 hn2 hc2 (by omega)) fun e W' he => ?_
  obtain ⟨v, rfl, rfl, hkp⟩ := he
  have hW2 := hW'
  exact ⟨_, rfl, by
    have hp := post_true (f := Try.f3) (s := Rows.fnFifteenSpec) (tb := 4) hW2 rfl rfl Try.underlying4 rfl rfl rfl laid readable (hkp.below (Nat.le_refl _) (fun _ _ => id))
    rw [e0] at hp; rw [e1] at hp; exact hp⟩
set_option maxRecDepth 100000 in
theorem lifted (os : Os) (started : os.Started) (H : Type) (enc : TypeId × Value → H) (F : Stop.Interp) :
    ReturnsInHanded {} Try.checked os 3 .any ((Rows.OpenSpec.upto Rows.fnFifteenSpec).pre6 enc Try.prog Try.f3 Rows.fnFifteenUptoRow.domain false) (((Rows.OpenSpec.upto Rows.fnFifteenSpec).at F).post enc Try.prog Try.f3 false true false false) := by
  refine returnsInHanded_of_cond (C := Try.checked) (s := Rows.OpenSpec.upto Rows.fnFifteenSpec) (k := Rows.uptoSmall) rfl own started (by kernel_rfl) Try.func3
    (OpenSpec.witness (enc := enc) (C := Try.checked) (s := Rows.OpenSpec.upto Rows.fnFifteenSpec) (k := Rows.uptoSmall) rfl false ⟨#[], #[.string .empty, .string .empty, .slice none 0 0], []⟩ 8 (by kernel_rfl) (by kernel_rfl) (by kernel_rfl)
      (x := ([.lit (.string []), .lit (.string []), .nil], [], [])) (by kernel_rfl) rfl (by kernel_rfl)) ?_
  intro W base args ds gs before hval hW _ hk _
  exact contract H enc W base args ds gs before hval hW hk
theorem proved : Rows.FnFifteenUptoSaid :=
  OpenClaim.holds_of_cond 3 Try.f3 rfl rfl rfl rfl rfl rfl rfl ⟨rfl, rfl, rfl, rfl, rfl⟩ rfl rfl rfl rfl rfl (by kernel_rfl) Try.func3 (by kernel_rfl)
    (of_decide_eq_true (by kernel_rfl)) (by unfold Func.isWrapper; first | (rw [if_pos (by decide +kernel)]; kernel_rfl) | (rw [if_neg (by decide +kernel)]; exact ⟨rfl, rfl⟩))
    (fun os started H enc _ F => lifted os started H enc F)
end Go.Proofs.Ytlcbcedhbahbbaa.fnFifteen
