/-
  The Go function laws.FnXor32 returns true and leaves its arguments as they were, for every input whose arguments hold together at most 1048576 values and letters.
  Conditions: that bound.
-/
import Derived.Test.YtlbnglmfbnnhjaaFr
import Derived.Test.YtlbnglmfbnnhjaaLF
namespace Go.Proofs.Ytlbnglmfbnnhjaa.fnXor32
open Go.ChangeShapes Go.WideShapes Go.ChangeAt Go.RowKit
open Go.ChangeMaps (open_string)
theorem cells5 : Try.prog.cellsOf 5 = 1 := by kernel_rfl
theorem cells24 : Try.prog.cellsOf 24 = 1 := by kernel_rfl
theorem readable : ∀ t ∈ Try.f12.params.toList, Try.prog.readableRec t = true ∧ t < Try.prog.types.size := by
  rw [Try.params12]
  intro t ht
  simp only [List.mem_cons, List.not_mem_nil, or_false] at ht
  rcases ht with rfl | rfl | rfl | rfl
  all_goals exact ⟨by kernel_rfl, of_decide_eq_true (by kernel_rfl)⟩
theorem contract (H : Type) (enc : TypeId × Value → H) (W : World) (base : Nat) (args : Array Value) (ds gs : List (DataW H)) (before : List MemPlace)
    (hval : ∀ (j : Nat) t v, Try.f12.params[j]? = some t → args[j]? = some v → Value.okWide Try.prog W .any base t v)
    (hW : DataW.Whole enc Try.prog Try.f12.params.toList Rows.fnXor32Spec.vars false W args.toList ds gs before) (hk : Rows.uptoSmall H (ds ++ gs) = true) :
    Calls Try.prog 12 args W fun e W' => ∃ v, e = .returned v ∧ Rows.fnXor32Spec.post enc Try.prog Try.f12 false true false false W args v W' := by
  have hW' := hW
  obtain ⟨p, q, hA0, hV, rfl, hfz, hnd⟩ := hW
  have hA : DataW.TrodAll enc Try.prog W 0 (fun _ => true) true Try.f12.params.toList args.toList ds p := hA0
  rw [Try.params12] at hA hval
  obtain ⟨v0, vs0, d0, ds0, p0, q0, hargs, rfl, rfl, h0, r0⟩ := trodAll_cons hA
  obtain ⟨v1, vs1, d1, ds1, p1, q1, rfl, rfl, rfl, h1, r1⟩ := trodAll_cons r0
  obtain ⟨v2, vs2, d2, ds2, p2, q2, rfl, rfl, rfl, h2, r2⟩ := trodAll_cons r1
  obtain ⟨v3, vs3, d3, ds3, p3, q3, rfl, rfl, rfl, h3, r3⟩ := trodAll_cons r2
  obtain ⟨rfl, rfl, rfl⟩ := trodAll_nil r3
  obtain rfl : args = #[v0, v1, v2, v3] := by cases args; simp_all
  obtain ⟨rfl, rfl⟩ := trodVars_none hV
  have hk2 : Rows.uptoBulkAll [d0, d1, d2, d3] ≤ 1048576 := of_decide_eq_true hk
  simp only [Rows.uptoBulkAll] at hk2
  clear hA0
  obtain ⟨s0, rfl, rfl, rfl, hmax0⟩ := open_string Try.underlying9 (hval 0 9 v0 rfl rfl) h0
  have e0 := str_data s0
  have l0 : s0.data.toList.length ≤ 9223372036854775807 := by rw [Array.length_toList]; exact hmax0
  rw [e0]
  simp only [Rows.uptoBulk] at hk2
  obtain ⟨z1, rfl, rfl, rfl, hz1⟩ := open_int Try.underlying2 (hval 1 2 v1 rfl rfl) h1
  have hw1 := wf_i64 hz1
  obtain ⟨A2, n2, c2, b2, rfl, hn2, hc2, hm2, hr2, hg2, hb2⟩ := open_bytes Try.underlying24 Try.underlying5 cells5 (hval 2 24 v2 rfl rfl) h2
  obtain ⟨A3, n3, c3, b3, rfl, hn3, hc3, hm3, hr3, hg3, hb3⟩ := open_bytes Try.underlying24 Try.underlying5 cells5 (hval 3 24 v3 rfl rfl) h3
  refine Calls.mono (fnXor32_ret (by omega) hr2 hn2 hc2 (by omega) hr3 hn3 hc3 (by omega)) fun e W' he => ?_
  obtain ⟨v, rfl, rfl, hkp⟩ := he
  have hW2 := hW'
  exact ⟨_, rfl, by
    have hp := post_true (f := Try.f12) (s := Rows.fnXor32Spec) (tb := 4) hW2 rfl rfl Try.underlying4 rfl rfl rfl laid readable (hkp.below (Nat.le_refl _) (fun _ _ => id))
    rw [e0] at hp; exact hp⟩
set_option maxRecDepth 100000 in
theorem lifted (os : Os) (started : os.Started) (H : Type) (enc : TypeId × Value → H) (F : Stop.Interp) :
    ReturnsInHanded {} Try.checked os 12 .any ((Rows.OpenSpec.upto Rows.fnXor32Spec).pre6 enc Try.prog Try.f12 Rows.fnXor32UptoRow.domain false) (((Rows.OpenSpec.upto Rows.fnXor32Spec).at F).post enc Try.prog Try.f12 false true false false) := by
  refine returnsInHanded_of_cond (C := Try.checked) (s := Rows.OpenSpec.upto Rows.fnXor32Spec) (k := Rows.uptoSmall) rfl own started (by kernel_rfl) Try.func12
    (OpenSpec.witness (enc := enc) (C := Try.checked) (s := Rows.OpenSpec.upto Rows.fnXor32Spec) (k := Rows.uptoSmall) rfl false ⟨#[], #[.string .empty, .int .i64 0, .slice none 0 0, .slice none 0 0], []⟩ 8 (by kernel_rfl) (by kernel_rfl) (by kernel_rfl)
      (x := ([.lit (.string []), .lit (.int .i64 0), .nil, .nil], [], [])) (by kernel_rfl) rfl (by kernel_rfl)) ?_
  intro W base args ds gs before hval hW _ hk _
  exact contract H enc W base args ds gs before hval hW hk
theorem proved : Rows.FnXor32UptoSaid :=
  OpenClaim.holds_of_cond 12 Try.f12 rfl rfl rfl rfl rfl rfl rfl ⟨rfl, rfl, rfl, rfl, rfl⟩ rfl rfl rfl rfl rfl (by kernel_rfl) Try.func12 (by kernel_rfl)
    (of_decide_eq_true (by kernel_rfl)) (by unfold Func.isWrapper; first | (rw [if_pos (by decide +kernel)]; kernel_rfl) | (rw [if_neg (by decide +kernel)]; exact ⟨rfl, rfl⟩))
    (fun os started H enc _ F => lifted os started H enc F)
end Go.Proofs.Ytlbnglmfbnnhjaa.fnXor32
