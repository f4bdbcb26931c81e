/-
  Walk: stripNewlines.
-/
import Derived.Test.YtlbnglmfbnnhjaaLK
import Derived.Test.YtlbnglmfbnnhjaaDec
namespace Go.Proofs.Ytlbnglmfbnnhjaa
open Go.RowKit

set_option maxRecDepth 4000 in
theorem strip_ret {w : World} {g o m n c c2 : Nat} {cs : Array Value} {t : TypeId} {fz : Nat × Nat} {s : List UInt8} (hb : Bk w g cs t fz) (hs : ∀ (i : Nat) (x : UInt8), s[i]? = some x → cs[o + i]? = some (u8 x)) (hno : ∀ x ∈ s, x.toNat ≠ 10 ∧ x.toNat ≠ 13)
    (hn : s.length = n) (hm : n ≤ m) (hf : o + n ≤ fz.1 ∨ fz.2 ≤ o) (hN : n ≤ 281474976710656) :
    Ret Try.prog 45 #[.slice (some ⟨g, o, none⟩) m c, .slice (some ⟨g, o, none⟩) n c2] w fun v w' => v = .int .i64 (n : Int) ∧ Bk w' g cs t fz ∧ Kp (· = g) w w' ∧ w'.heap.size = w.heap.size := by
  subst hn
  refine ret_of Try.func45 rfl Try.ntmps45 (Nat.le_of_ble_eq_true rfl) ?_
  refine C.seq ?_
  refine C.reg ?_
  refine W.y (y_assign rfl) rfl ?_
  refine W.fin ?_
  refine E.next ?_
  refine C.seq ?_
  refine C.reg ?_
  refine W.y (y_assign rfl) rfl ?_
  refine W.fin ?_
  refine E.next ?_
  refine C.seq ?_
  refine C.seq ?_
  refine C.reg ?_
  refine W.y (y_move rfl) rfl ?_
  refine W.y (y_len rfl Try.underlying24) rfl ?_
  refine W.y (y_move rfl) rfl ?_
  refine W.fin ?_
  refine E.next ?_
  refine C.block ?_
  refine C.loop (σ := Nat) (fun i w' => i ≤ s.length ∧ Bk w' g cs t fz ∧ Kp (· = g) w w' ∧ w'.heap.size = w.heap.size) (fun i => [(0, .slice (some ⟨g, o, none⟩) m c), (5, .int .i64 (i : Int)), (8, .slice (some ⟨g, o, none⟩) s.length c2), (9, .int .i64 (s.length : Int)), (10, .int .i64 (i : Int))]) (fun i => s.length - i) 0 ?_ ?_ ?_
  · exact ⟨by omega, hb, Kp.refl _ _, rfl⟩
  · exact (Sub.cons rfl (Sub.cons rfl (Sub.cons rfl (Sub.cons rfl (Sub.cons rfl (Sub.nil _))))))
  rintro i wi ⟨hi, hbi, hki, hzi⟩
  show C _ _ _ _ [(0, .slice (some ⟨g, o, none⟩) m c), (5, .int .i64 (i : Int)), (8, .slice (some ⟨g, o, none⟩) s.length c2), (9, .int .i64 (s.length : Int)), (10, .int .i64 (i : Int))] _
  by_cases h : i < s.length
  · obtain ⟨x, hx⟩ : ∃ x, s[i]? = some x := ⟨_, List.getElem?_eq_getElem h⟩
    have hcx := hs i x hx
    have hnx := hno x (List.mem_of_getElem? hx)
    have hsame : cs.setIfInBounds (o + i) (u8 x) = cs := by
      apply Array.ext_getElem?
      intro j
      rw [Array.getElem?_setIfInBounds]
      split
      · next e => subst e; rw [hcx]; simp [(Array.getElem?_eq_some_iff.1 hcx).1]
      · rfl
    refine C.seq ?_
    refine C.reg ?_
    refine W.y (y_lssT rfl rfl (by omega)) rfl ?_
    refine W.fin ?_
    refine E.next ?_
    refine C.seq ?_
    refine C.yes rfl ?_
    refine C.skip ?_
    refine E.next ?_
    refine C.seq ?_
    refine C.block ?_
    refine C.seq ?_
    refine C.reg ?_
    refine W.y (y_ixn rfl rfl Try.underlying24 siz5 (by omega)) rfl ?_
    refine W.y (y_load rfl pl5 (Bk.at_ hbi hcx)) rfl ?_
    refine W.y (y_assign rfl) rfl ?_
    refine W.fin ?_
    refine E.next ?_
    refine C.seq ?_
    refine C.seq ?_
    refine C.reg ?_
    refine W.y (y_move rfl) rfl ?_
    refine W.y (y_eqlF rfl rfl (by omega)) rfl ?_
    refine W.y (y_move rfl) rfl ?_
    refine W.gy rfl rfl (y_move rfl) rfl ?_
    refine W.gy rfl rfl (y_eqlF rfl rfl (by omega)) rfl ?_
    refine W.y (y_pick rfl rfl) rfl ?_
    refine W.fin ?_
    refine E.next ?_
    refine C.no rfl ?_
    refine C.skip ?_
    refine E.next ?_
    refine C.seq ?_
    refine C.reg ?_
    refine W.y (y_move rfl) rfl ?_
    refine W.y (y_move rfl) rfl ?_
    refine W.y (y_move rfl) rfl ?_
    refine W.y (y_ixn rfl rfl Try.underlying24 siz5 (by omega)) rfl ?_
    refine W.s (s_store rfl rfl rfl siz5 (Bk.at_ hbi hcx) (Bk.frozen hbi (by omega))) ?_
    refine W.fin ?_
    refine E.next ?_
    refine C.reg ?_
    refine W.y (y_move rfl) rfl ?_
    refine W.y (y_add rfl rfl (wi64 (by omega) (by omega))) rfl ?_
    refine W.y (y_assign rfl) rfl ?_
    refine W.fin ?_
    refine E.blockNormal ?_
    refine E.next ?_
    refine C.reg ?_
    refine W.y (y_add rfl rfl (wi64 (by omega) (by omega))) rfl ?_
    refine W.y (y_move rfl) rfl ?_
    refine W.fin ?_
    exact E.again (i + 1) ⟨by omega, by have := Bk.set hbi (o + i) (u8 x); rwa [hsame] at this, hki.set (.inl rfl) _, by simp only [World.size_setCell]; exact hzi⟩ (Sub.cons rfl (Sub.cons rfl (Sub.cons rfl (Sub.cons rfl (Sub.cons rfl (Sub.nil _)))))) (by omega)
  · obtain rfl : i = s.length := by omega
    refine C.seq ?_
    refine C.reg ?_
    refine W.y (y_lssF rfl rfl (by omega)) rfl ?_
    refine W.fin ?_
    refine E.next ?_
    refine C.seq ?_
    refine C.no rfl ?_
    refine C.exit ?_
    refine E.thenExit ?_
    refine E.thenExit ?_
    refine E.blockOut ?_
    refine E.next ?_
    refine C.seq ?_
    refine C.reg ?_
    refine W.y (y_move rfl) rfl ?_
    refine W.y (y_assign rfl) rfl ?_
    refine W.fin ?_
    refine E.next ?_
    refine C.ret ?_
    exact E.ret1 rfl rfl ⟨rfl, hbi, hki, hzi⟩
end Go.Proofs.Ytlbnglmfbnnhjaa
