/-
  An append up to the bound of what growslice itself picks.
-/
import Derived.Test.YtmbglgepomeilaaOp2
import Derived.Deep.DeepAppendWide
namespace Go.Proofs.Ytmbglgepomeilaa
open Go.RowKit
variable {P : Program} {w : World} {v : Value}
theorem run_appW {t e ty : Nat} {a : Addr} {c : Nat} {xs r : List Value} (F : El P t e 1) (ho : Own w e v xs) (hr : Rd w (some a) r) (h0 : r ≠ []) (h1 : ∀ u ∈ r, u.oneCell' = true) (hb : (xs.length + r.length) + (xs.length + r.length) / 4 + 192 ≤ 281474976710656) :
    ∃ v' w', (Builtin.append_ #[t, t] ty #[v, .slice (some a) r.length c]).run P w = .ok v' w' ∧ Own w' e v' (xs ++ r) ∧ w.grownBy w' v.ownBlock ∧ (v'.ownBlock = v.ownBlock ∨ v'.ownBlock = some w.heap.size) := by
  obtain ⟨i, z, hi, hz, hs, hby, hzs⟩ := F.info
  have h63 : xs.length + r.length ≤ maxLen := by simp only [maxLen]; omega
  have hcells : ∀ j u, r[j]? = some u → w.cell? (a.add j) = some u := by
    intro j u hu
    rcases hr with h | ⟨g, o, e, h⟩
    · subst h; simp at hu
    · injection e with e; subst e; rw [Addr.add_lit]; exact h j u hu
  have hpos : 0 < r.length := by cases r with | nil => exact absurd rfl h0 | cons x r => simp
  obtain ⟨v', w', hrun, h2, h3, _⟩ := run_append_own_wide (P := P) w 0 t ty e i z 1 1 F.und hi hz hs hby hzs (by omega) v xs.length xs ho a r.length c r (by simp) hcells h1 h63 (by omega) (Nat.zero_le _)
  refine ⟨v', w', hrun, ?_, h3, ?_⟩
  · unfold Own
    rw [List.length_append]
    exact h2
  · rcases ho.2 with ⟨rfl, hx⟩ | ⟨g, cap, cur, rfl, _, hg, hnc, _, hcs, _⟩
    · have hq := run_append_nil (P := P) w t ty e i z F.und hi hz a r.length c r (by simp [hs]) hcells hpos (by omega) (by rw [hby]; omega)
      rw [hrun] at hq
      injection hq with hq _
      subst hq
      exact .inr rfl
    · by_cases hroom : xs.length + r.length ≤ cap
      · have hq := run_append_room (P := P) w t ty e i F.und hi g xs.length cap cur hg a r.length c r (by simp [hs]) hcells h1 hroom (by rw [hs, hcs]; omega)
        rw [hrun] at hq
        injection hq with hq _
        subst hq
        exact .inl rfl
      · have holds : ∀ j u, xs[j]? = some u → w.cell? ((⟨g, 0, none⟩ : Addr).add j) = some u := World.ownsRow.cells (g := g) ho rfl
        have hq := run_append_grow (P := P) w t ty e i z F.und hi hz ⟨g, 0, none⟩ xs.length cap xs (by simp [hs]) holds a r.length c r (by simp [hs]) hcells (by omega) (by omega) (growslice_fits_wide (by omega) (by rw [hby]; omega))
        rw [hrun] at hq
        injection hq with hq _
        subst hq
        exact .inr rfl
end Go.Proofs.Ytmbglgepomeilaa
