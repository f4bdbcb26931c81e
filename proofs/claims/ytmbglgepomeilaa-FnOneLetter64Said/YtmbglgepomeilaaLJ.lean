/-
  Walks: exact.go.
-/
import Derived.Test.YtmbglgepomeilaaLI
import Derived.Test.YtmbglgepomeilaaRoad
namespace Go.Proofs.Ytmbglgepomeilaa
open Go.RowKit
theorem ent31 : Enters Try.prog 31 := enters_of Try.func31 (by kernel_rfl) rfl
theorem ent32 : Enters Try.prog 32 := enters_of Try.func32 (by kernel_rfl) rfl
theorem ent33 : Enters Try.prog 33 := enters_of Try.func33 (by kernel_rfl) rfl

theorem szByteS_ret {w : World} {A : Option Addr} {n c : Nat} {l : Int} (hn : n ≤ 9223372036854775807) (h0 : 0 ≤ l) (h1 : l ≤ 1048576) :
    Ret Try.prog 31 #[.slice A n c, .int .i64 l] w fun v w' => w = w' ∧ v = .int .i64 (if l < n then -1 else l - n) := by
  by_cases h : l < n
  · refine ret_of Try.func31 rfl Try.ntmps31 (Nat.le_of_ble_eq_true rfl) ?_
    refine C.seq ?_
    refine C.reg ?_
    refine W.y (y_assign rfl) rfl ?_
    refine W.fin ?_
    refine E.next ?_
    refine C.seq ?_
    refine C.reg ?_
    refine W.y (y_move rfl) rfl ?_
    refine W.y (y_move rfl) rfl ?_
    refine W.y (y_len rfl Try.underlying24) rfl ?_
    refine W.y (y_sub rfl rfl (wi64 (by omega) (by omega))) rfl ?_
    refine W.y (y_assign rfl) rfl ?_
    refine W.fin ?_
    refine E.next ?_
    refine C.seq ?_
    refine C.seq ?_
    refine C.reg ?_
    refine W.y (y_move rfl) rfl ?_
    refine W.y (y_lssT rfl rfl (by omega)) rfl ?_
    refine W.fin ?_
    refine E.next ?_
    refine C.yes rfl ?_
    refine C.seq ?_
    refine C.reg ?_
    refine W.y (y_assign rfl) rfl ?_
    refine W.fin ?_
    refine E.next ?_
    refine C.ret ?_
    refine E.thenRet ?_
    exact E.ret1 rfl rfl ⟨rfl, by rw [if_pos h]⟩
  · refine ret_of Try.func31 rfl Try.ntmps31 (Nat.le_of_ble_eq_true rfl) ?_
    refine C.seq ?_
    refine C.reg ?_
    refine W.y (y_assign rfl) rfl ?_
    refine W.fin ?_
    refine E.next ?_
    refine C.seq ?_
    refine C.reg ?_
    refine W.y (y_move rfl) rfl ?_
    refine W.y (y_move rfl) rfl ?_
    refine W.y (y_len rfl Try.underlying24) rfl ?_
    refine W.y (y_sub rfl rfl (wi64 (by omega) (by omega))) rfl ?_
    refine W.y (y_assign rfl) rfl ?_
    refine W.fin ?_
    refine E.next ?_
    refine C.seq ?_
    refine C.seq ?_
    refine C.reg ?_
    refine W.y (y_move rfl) rfl ?_
    refine W.y (y_lssF rfl rfl (by omega)) rfl ?_
    refine W.fin ?_
    refine E.next ?_
    refine C.no rfl ?_
    refine C.skip ?_
    refine E.next ?_
    refine C.seq ?_
    refine C.reg ?_
    refine W.y (y_move rfl) rfl ?_
    refine W.y (y_assign rfl) rfl ?_
    refine W.fin ?_
    refine E.next ?_
    refine C.ret ?_
    exact E.ret1 rfl rfl ⟨rfl, by rw [if_neg h]⟩
set_option maxRecDepth 4000 in
theorem szByteSS_ret {w : World} {A : Option Addr} {n c B : Nat} {ps : List (List UInt8)} (hP : Pcs B w A ps) (hn : ps.length = n) (hN : n ≤ 9223372036854775807) (hL : ∀ p ∈ ps, p.length ≤ 9223372036854775807) :
    Ret Try.prog 20 #[.slice A n c, .int .i64 1048576] w fun v w' => w = w' ∧ (v = .int .i64 (-1) ∨ ∃ l : Int, 0 ≤ l ∧ v = .int .i64 l ∧ ps.length + ps.flatten.length ≤ 1048576) := by
  subst hn
  by_cases h0 : 1048576 < ps.length
  · refine ret_of Try.func20 rfl Try.ntmps20 (Nat.le_of_ble_eq_true rfl) ?_
    refine C.seq ?_
    refine C.reg ?_
    refine W.y (y_assign rfl) rfl ?_
    refine W.fin ?_
    refine E.next ?_
    refine C.seq ?_
    refine C.reg ?_
    refine W.y (y_move rfl) rfl ?_
    refine W.y (y_move rfl) rfl ?_
    refine W.y (y_len rfl Try.underlying22) rfl ?_
    refine W.y (y_sub rfl rfl (wi64 (by omega) (by omega))) rfl ?_
    refine W.y (y_assign rfl) rfl ?_
    refine W.fin ?_
    refine E.next ?_
    refine C.seq ?_
    refine C.seq ?_
    refine C.reg ?_
    refine W.y (y_move rfl) rfl ?_
    refine W.y (y_lssT rfl rfl (by omega)) rfl ?_
    refine W.fin ?_
    refine E.next ?_
    refine C.yes rfl ?_
    refine C.seq ?_
    refine C.reg ?_
    refine W.y (y_assign rfl) rfl ?_
    refine W.fin ?_
    refine E.next ?_
    refine C.ret ?_
    refine E.thenRet ?_
    exact E.ret1 rfl rfl ⟨rfl, .inl rfl⟩
  refine ret_of Try.func20 rfl Try.ntmps20 (Nat.le_of_ble_eq_true rfl) ?_
  refine C.seq ?_
  refine C.reg ?_
  refine W.y (y_assign rfl) rfl ?_
  refine W.fin ?_
  refine E.next ?_
  refine C.seq ?_
  refine C.reg ?_
  refine W.y (y_move rfl) rfl ?_
  refine W.y (y_move rfl) rfl ?_
  refine W.y (y_len rfl Try.underlying22) rfl ?_
  refine W.y (y_sub rfl rfl (wi64 (by omega) (by omega))) rfl ?_
  refine W.y (y_assign rfl) rfl ?_
  refine W.fin ?_
  refine E.next ?_
  refine C.seq ?_
  refine C.seq ?_
  refine C.reg ?_
  refine W.y (y_move rfl) rfl ?_
  refine W.y (y_lssF rfl rfl (by omega)) rfl ?_
  refine W.fin ?_
  refine E.next ?_
  refine C.no rfl ?_
  refine C.skip ?_
  refine E.next ?_
  refine C.seq ?_
  refine C.seq ?_
  refine C.reg ?_
  refine W.y (y_assign rfl) rfl ?_
  refine W.fin ?_
  refine E.next ?_
  refine C.block ?_
  refine C.loop (σ := Nat) (fun i w' => i ≤ ps.length ∧ w = w' ∧ 0 ≤ (1048576 - (ps.length : Int) - ((ps.take i).flatten.length : Int))) (fun i => [(0, .slice A ps.length c), (1, .int .i64 (1048576 - (ps.length : Int) - ((ps.take i).flatten.length : Int))), (5, .int .i64 (i : Int))]) (fun i => ps.length - i) 0 ?_ ?_ ?_
  · exact ⟨by omega, rfl, by simp; omega⟩
  · exact (Sub.cons rfl (Sub.cons (congrArg (fun z => some (Value.int .i64 z)) (by simp)) (Sub.cons rfl (Sub.nil _))))
  rintro i _ ⟨hi, rfl, hl⟩
  show C _ _ _ _ [(0, .slice A ps.length c), (1, .int .i64 (1048576 - (ps.length : Int) - ((ps.take i).flatten.length : Int))), (5, .int .i64 (i : Int))] _
  by_cases h : i < ps.length
  · obtain ⟨p, hp⟩ : ∃ p, ps[i]? = some p := ⟨_, List.getElem?_eq_getElem h⟩
    have hft := flat_take hp
    have hpl := hL p (List.mem_of_getElem? hp)
    have hfl : (ps.take (i + 1)).flatten.length = (ps.take i).flatten.length + p.length := by rw [hft, List.length_append]
    obtain ⟨g, o, rfl, hg, hcs⟩ := hP.resolve_left (fun e => by rw [e] at h; simp at h)
    obtain ⟨A', c', hcell, hc', hrd, _⟩ := hcs i p hp
    by_cases hq : (1048576 - (ps.length : Int) - ((ps.take i).flatten.length : Int)) < (p.length : Int)
    · skip
      refine C.seq ?_
      refine C.seq ?_
      refine C.reg ?_
      refine W.y (y_move rfl) rfl ?_
      refine W.y (y_move rfl) rfl ?_
      refine W.y (y_len rfl Try.underlying22) rfl ?_
      refine W.y (y_lssT rfl rfl (by omega)) rfl ?_
      refine W.fin ?_
      refine E.next ?_
      refine C.yes rfl ?_
      refine C.skip ?_
      refine E.next ?_
      refine C.seq ?_
      refine C.block ?_
      refine C.seq ?_
      refine C.reg ?_
      refine W.y (y_move rfl) rfl ?_
      refine W.y (y_move rfl) rfl ?_
      refine W.y (y_ixn rfl rfl Try.underlying22 siz24 (by omega)) rfl ?_
      refine W.y (y_load rfl pl24 hcell) rfl ?_
      refine W.y (y_move rfl) rfl ?_
      refine W.call ent31 rfl (szByteS_ret hpl hl (by omega)) rfl ?_
      rintro _ _ ⟨rfl, rfl⟩
      rw [if_pos hq]
      refine W.y (y_assign rfl) rfl ?_
      refine W.fin ?_
      refine E.next ?_
      refine C.seq ?_
      refine C.reg ?_
      refine W.y (y_move rfl) rfl ?_
      refine W.y (y_lssT rfl rfl (by omega)) rfl ?_
      refine W.fin ?_
      refine E.next ?_
      refine C.yes rfl ?_
      refine C.seq ?_
      refine C.reg ?_
      refine W.y (y_assign rfl) rfl ?_
      refine W.fin ?_
      refine E.next ?_
      refine C.ret ?_
      refine E.blockRet ?_
      refine E.thenRet ?_
      refine E.thenRet ?_
      refine E.blockRet ?_
      refine E.thenRet ?_
      exact E.ret1 rfl rfl ⟨rfl, .inl rfl⟩
    · skip
      refine C.seq ?_
      refine C.seq ?_
      refine C.reg ?_
      refine W.y (y_move rfl) rfl ?_
      refine W.y (y_move rfl) rfl ?_
      refine W.y (y_len rfl Try.underlying22) rfl ?_
      refine W.y (y_lssT rfl rfl (by omega)) rfl ?_
      refine W.fin ?_
      refine E.next ?_
      refine C.yes rfl ?_
      refine C.skip ?_
      refine E.next ?_
      refine C.seq ?_
      refine C.block ?_
      refine C.seq ?_
      refine C.reg ?_
      refine W.y (y_move rfl) rfl ?_
      refine W.y (y_move rfl) rfl ?_
      refine W.y (y_ixn rfl rfl Try.underlying22 siz24 (by omega)) rfl ?_
      refine W.y (y_load rfl pl24 hcell) rfl ?_
      refine W.y (y_move rfl) rfl ?_
      refine W.call ent31 rfl (szByteS_ret hpl hl (by omega)) rfl ?_
      rintro _ _ ⟨rfl, rfl⟩
      rw [if_neg hq]
      refine W.y (y_assign rfl) rfl ?_
      refine W.fin ?_
      refine E.next ?_
      refine C.seq ?_
      refine C.reg ?_
      refine W.y (y_move rfl) rfl ?_
      refine W.y (y_lssF rfl rfl (by omega)) rfl ?_
      refine W.fin ?_
      refine E.next ?_
      refine C.no rfl ?_
      refine C.skip ?_
      refine E.blockNormal ?_
      refine E.next ?_
      refine C.reg ?_
      refine W.y (y_move rfl) rfl ?_
      refine W.y (y_add rfl rfl (wi64 (by omega) (by omega))) rfl ?_
      refine W.y (y_assign rfl) rfl ?_
      refine W.fin ?_
      exact E.again (i + 1) ⟨by omega, rfl, by omega⟩ (Sub.cons rfl (Sub.cons (congrArg (fun z => some (Value.int .i64 z)) (by omega)) (Sub.cons rfl (Sub.nil _)))) (by omega)
  · have hi2 : ps.take i = ps := List.take_of_length_le (by omega)
    rw [hi2] at hl
    refine C.seq ?_
    refine C.seq ?_
    refine C.reg ?_
    refine W.y (y_move rfl) rfl ?_
    refine W.y (y_move rfl) rfl ?_
    refine W.y (y_len rfl Try.underlying22) rfl ?_
    refine W.y (y_lssF rfl rfl (by omega)) rfl ?_
    refine W.fin ?_
    refine E.next ?_
    refine C.no rfl ?_
    refine C.exit ?_
    refine E.thenExit ?_
    refine E.thenExit ?_
    refine E.blockOut ?_
    refine E.next ?_
    refine C.seq ?_
    refine C.reg ?_
    refine W.y (y_move rfl) rfl ?_
    refine W.y (y_assign rfl) rfl ?_
    refine W.fin ?_
    refine E.next ?_
    refine C.ret ?_
    exact E.ret1 rfl rfl ⟨rfl, .inr ⟨_, by rw [hi2]; exact hl, rfl, by omega⟩⟩
set_option maxRecDepth 4000 in
theorem toByteS_ret {w : World} {A : Option Addr} {n c : Nat} {s : List UInt8} (hS : Rd w A (bv s)) (hn : s.length = n) (hN : n ≤ 1048576) :
    Ret Try.prog 32 #[.slice A n c] w fun v w' => v = .slice (some ⟨w.heap.size, 0, none⟩) n n ∧ Rd w' (some ⟨w.heap.size, 0, none⟩) (bv s) ∧ Kp (fun _ => False) w w' ∧ w.heap.size < w'.heap.size := by
  subst hn
  obtain ⟨z, _, hzs, hmk⟩ := run_makeN (P := Try.prog) (w := w) (t := 24) (N := s.length) (k := .i64) (k' := .i64) el24 (by omega) (by omega)
  have hms := made_size (N := s.length) hzs
  have hD : Bk (w.alloc (.cells (madeCells z.cells s.length) 5)) w.heap.size (madeCells z.cells s.length) 5 (0, 0) := Bk.new _ _ _
  have hka : Kp (fun _ => False) w (w.alloc (.cells (madeCells z.cells s.length) 5)) := (Kp.refl _ w).alloc _
  refine ret_of Try.func32 rfl Try.ntmps32 (Nat.le_of_ble_eq_true rfl) ?_
  refine C.seq ?_
  refine C.reg ?_
  refine W.y (y_assign rfl) rfl ?_
  refine W.fin ?_
  refine E.next ?_
  refine C.seq ?_
  refine C.reg ?_
  refine W.y (y_move rfl) rfl ?_
  refine W.y (y_len rfl Try.underlying24) rfl ?_
  refine W.y (y_make rfl rfl hmk) rfl ?_
  refine W.y (y_assign rfl) rfl ?_
  refine W.fin ?_
  refine E.next ?_
  refine C.seq ?_
  refine C.seq ?_
  refine C.reg ?_
  refine W.y (y_assign rfl) rfl ?_
  refine W.fin ?_
  refine E.next ?_
  refine C.block ?_
  refine C.loop (σ := Nat) (fun i w' => i ≤ s.length ∧ Kp (fun _ => False) w w' ∧ ∃ cs : Array Value, Bk w' w.heap.size cs 5 (0, 0) ∧ cs.size = s.length ∧ ∀ (j : Nat) (x : UInt8), j < i → s[j]? = some x → cs[j]? = some (u8 x)) (fun i => [(0, .slice A s.length c), (3, .slice (some ⟨w.heap.size, 0, none⟩) s.length s.length), (4, .int .i64 (i : Int))]) (fun i => s.length - i) 0 ?_ ?_ ?_
  · exact ⟨by omega, hka, _, hD, hms, fun j x h => by omega⟩
  · exact (Sub.cons rfl (Sub.cons rfl (Sub.cons rfl (Sub.nil _))))
  rintro i wi ⟨hi, hki, cs, hbi, hsz, hcs⟩
  show C _ _ _ _ [(0, .slice A s.length c), (3, .slice (some ⟨w.heap.size, 0, none⟩) s.length s.length), (4, .int .i64 (i : Int))] _
  by_cases h : i < s.length
  · obtain ⟨x, hx⟩ : ∃ x, s[i]? = some x := ⟨_, List.getElem?_eq_getElem h⟩
    obtain ⟨ga, oa, rfl, hba⟩ := (hS.kept hki (fun _ _ _ => id)).at_ h
    refine C.seq ?_
    refine C.seq ?_
    refine C.reg ?_
    refine W.y (y_move rfl) rfl ?_
    refine W.y (y_move rfl) rfl ?_
    refine W.y (y_len rfl Try.underlying24) rfl ?_
    refine W.y (y_lssT rfl rfl (by omega)) rfl ?_
    refine W.fin ?_
    refine E.next ?_
    refine C.yes rfl ?_
    refine C.skip ?_
    refine E.next ?_
    refine C.seq ?_
    refine C.block ?_
    refine C.reg ?_
    refine W.y (y_move rfl) rfl ?_
    refine W.y (y_move rfl) rfl ?_
    refine W.y (y_move rfl) rfl ?_
    refine W.y (y_move rfl) rfl ?_
    refine W.y (y_ixn rfl rfl Try.underlying24 siz5 (by omega)) rfl ?_
    refine W.y (y_load rfl pl5 (hba i x hx)) rfl ?_
    refine W.y (y_ixn rfl rfl Try.underlying24 siz5 (by omega)) rfl ?_
    refine W.s (s_store rfl rfl rfl siz5 (Bk.some hbi (by omega)) (Bk.melt hbi)) ?_
    refine W.fin ?_
    refine E.blockNormal ?_
    refine E.next ?_
    refine C.reg ?_
    refine W.y (y_move rfl) rfl ?_
    refine W.y (y_add rfl rfl (wi64 (by omega) (by omega))) rfl ?_
    refine W.y (y_assign rfl) rfl ?_
    refine W.fin ?_
    refine E.again (i + 1) ⟨by omega, hki.set (.inr (Nat.le_refl _)) _, _, Bk.set hbi (0 + i) _, by rw [Array.size_setIfInBounds, hsz], fun j q hj hq => ?_⟩ (Sub.cons rfl (Sub.cons rfl (Sub.cons rfl (Sub.nil _)))) (by omega)
    rw [Nat.zero_add, Array.getElem?_setIfInBounds]
    by_cases e : i = j
    · subst e
      rw [hx] at hq
      injection hq with hq
      rw [if_pos rfl, if_pos (by omega), ← hq]
    · rw [if_neg e]
      exact hcs j q (by omega) hq
  · skip
    refine C.seq ?_
    refine C.seq ?_
    refine C.reg ?_
    refine W.y (y_move rfl) rfl ?_
    refine W.y (y_move rfl) rfl ?_
    refine W.y (y_len rfl Try.underlying24) rfl ?_
    refine W.y (y_lssF rfl rfl (by omega)) rfl ?_
    refine W.fin ?_
    refine E.next ?_
    refine C.no rfl ?_
    refine C.exit ?_
    refine E.thenExit ?_
    refine E.thenExit ?_
    refine E.blockOut ?_
    refine E.next ?_
    refine C.seq ?_
    refine C.reg ?_
    refine W.y (y_move rfl) rfl ?_
    refine W.y (y_assign rfl) rfl ?_
    refine W.fin ?_
    refine E.next ?_
    refine C.ret ?_
    exact E.ret1 rfl rfl ⟨rfl, Rd.of_bs (Bs.of_row hbi (fun j x hx => by rw [Nat.zero_add]; exact hcs j x (by have := get_lt hx; omega) hx)), hki, hbi.lt⟩
set_option maxRecDepth 4000 in
theorem toByteSS_ret {w : World} {A : Option Addr} {n c : Nat} {ps : List (List UInt8)} (hP : Pcs w.heap.size w A ps) (hn : ps.length = n) (hN : ps.flatten.length ≤ 1048576) (hN2 : n ≤ 1048576) :
    Ret Try.prog 22 #[.slice A n c] w fun v w' => (∃ A', v = .slice A' n n ∧ Pcs w'.heap.size w' A' ps) ∧ Kp (fun _ => False) w w' := by
  subst hn
  obtain ⟨z, _, hzs, hmk⟩ := run_makeN (P := Try.prog) (w := w) (t := 22) (N := ps.length) (k := .i64) (k' := .i64) el22 (by omega) (by omega)
  have hms := made_size (N := ps.length) hzs
  have hD : Bk (w.alloc (.cells (madeCells z.cells ps.length) 24)) w.heap.size (madeCells z.cells ps.length) 24 (0, 0) := Bk.new _ _ _
  have hka : Kp (fun _ => False) w (w.alloc (.cells (madeCells z.cells ps.length) 24)) := (Kp.refl _ w).alloc _
  refine ret_of Try.func22 rfl Try.ntmps22 (Nat.le_of_ble_eq_true rfl) ?_
  refine C.seq ?_
  refine C.reg ?_
  refine W.y (y_assign rfl) rfl ?_
  refine W.fin ?_
  refine E.next ?_
  refine C.seq ?_
  refine C.reg ?_
  refine W.y (y_move rfl) rfl ?_
  refine W.y (y_len rfl Try.underlying22) rfl ?_
  refine W.y (y_make rfl rfl hmk) rfl ?_
  refine W.y (y_assign rfl) rfl ?_
  refine W.fin ?_
  refine E.next ?_
  refine C.seq ?_
  refine C.seq ?_
  refine C.reg ?_
  refine W.y (y_assign rfl) rfl ?_
  refine W.fin ?_
  refine E.next ?_
  refine C.block ?_
  refine C.loop (σ := Nat) (fun i w' => i ≤ ps.length ∧ Kp (fun _ => False) w w' ∧ ∃ cs : Array Value, Bk w' w.heap.size cs 24 (0, 0) ∧ cs.size = ps.length ∧ ∀ (j : Nat) (p : List UInt8), j < i → ps[j]? = some p → ∃ g, cs[j]? = some (.slice (some ⟨g, 0, none⟩) p.length p.length) ∧ Rd w' (some ⟨g, 0, none⟩) (bv p) ∧ w.heap.size < g) (fun i => [(0, .slice A ps.length c), (3, .slice (some ⟨w.heap.size, 0, none⟩) ps.length ps.length), (4, .int .i64 (i : Int))]) (fun i => ps.length - i) 0 ?_ ?_ ?_
  · exact ⟨by omega, hka, _, hD, hms, fun j x h => by omega⟩
  · exact (Sub.cons rfl (Sub.cons rfl (Sub.cons rfl (Sub.nil _))))
  rintro i wi ⟨hi, hki, cs, hbi, hsz, hcs⟩
  show C _ _ _ _ [(0, .slice A ps.length c), (3, .slice (some ⟨w.heap.size, 0, none⟩) ps.length ps.length), (4, .int .i64 (i : Int))] _
  by_cases h : i < ps.length
  · obtain ⟨p, hp⟩ : ∃ p, ps[i]? = some p := ⟨_, List.getElem?_eq_getElem h⟩
    have hft := flat_take hp
    have hfl2 := flat_take_le (ps := ps) (i := i + 1)
    have hpl : (ps.take i).flatten.length + p.length ≤ ps.flatten.length := by rw [hft, List.length_append] at hfl2; exact hfl2
    obtain ⟨g, o, rfl, hg, hc2⟩ := (hP.kept (hki.wide _)).resolve_left (fun e => by rw [e] at h; simp at h)
    obtain ⟨A', c', hcell, hc', hrd, _⟩ := hc2 i p hp
    have hbl := hbi.lt
    refine C.seq ?_
    refine C.seq ?_
    refine C.reg ?_
    refine W.y (y_move rfl) rfl ?_
    refine W.y (y_move rfl) rfl ?_
    refine W.y (y_len rfl Try.underlying22) rfl ?_
    refine W.y (y_lssT rfl rfl (by omega)) rfl ?_
    refine W.fin ?_
    refine E.next ?_
    refine C.yes rfl ?_
    refine C.skip ?_
    refine E.next ?_
    refine C.seq ?_
    refine C.block ?_
    refine C.reg ?_
    refine W.y (y_move rfl) rfl ?_
    refine W.y (y_move rfl) rfl ?_
    refine W.y (y_move rfl) rfl ?_
    refine W.y (y_move rfl) rfl ?_
    refine W.y (y_ixn rfl rfl Try.underlying22 siz24 (by omega)) rfl ?_
    refine W.y (y_load rfl pl24 hcell) rfl ?_
    refine W.call ent32 rfl (toByteS_ret hrd rfl (by omega)) rfl ?_
    rintro _ w1 ⟨rfl, hr1, hk1, hz1⟩
    have hb1 := hbi.kept hk1 id
    refine W.y (y_ixn rfl rfl Try.underlying22 siz24 (by omega)) rfl ?_
    refine W.s (s_store rfl rfl rfl siz24 (Bk.some hb1 (by omega)) (Bk.melt hb1)) ?_
    refine W.fin ?_
    refine E.blockNormal ?_
    refine E.next ?_
    refine C.reg ?_
    refine W.y (y_move rfl) rfl ?_
    refine W.y (y_add rfl rfl (wi64 (by omega) (by omega))) rfl ?_
    refine W.y (y_assign rfl) rfl ?_
    refine W.fin ?_
    refine E.again (i + 1) ⟨by omega, (hki.trans hk1).set (.inr (Nat.le_refl _)) _, _, Bk.set hb1 (0 + i) _, by rw [Array.size_setIfInBounds, hsz], fun j q hj hq => ?_⟩ (Sub.cons rfl (Sub.cons rfl (Sub.cons rfl (Sub.nil _)))) (by omega)
    have hset : Kp (· = w.heap.size) w1 (w1.setCell ⟨w.heap.size, 0 + i, none⟩ (.slice (some ⟨wi.heap.size, 0, none⟩) p.length p.length)) := (Kp.refl (· = w.heap.size) w1).set (a := ⟨w.heap.size, 0 + i, none⟩) (.inl rfl) _
    rw [Nat.zero_add] at hset ⊢
    by_cases e : i = j
    · subst e
      rw [hp] at hq
      injection hq with hq
      subst hq
      exact ⟨wi.heap.size, by rw [Array.getElem?_setIfInBounds, if_pos rfl, if_pos (by omega)], hr1.kept hset (fun g2 o2 e2 e3 => by cases e2; omega), hbl⟩
    · obtain ⟨g3, h3, h4, h5⟩ := hcs j q (by omega) hq
      exact ⟨g3, by rw [Array.getElem?_setIfInBounds, if_neg e]; exact h3, (h4.kept hk1 (fun _ _ _ => id)).kept hset (fun g2 o2 e2 e3 => by cases e2; omega), h5⟩
  · have hPo : Pcs wi.heap.size wi (some ⟨w.heap.size, 0, none⟩) ps := row_pcs hbi (fun j p hp => by
        obtain ⟨g3, h3, h4, _⟩ := hcs j p (by have := List.getElem?_eq_some_iff.1 hp; obtain ⟨q, _⟩ := this; omega) hp
        exact ⟨_, _, h3, Nat.le_refl _, h4⟩)
    refine C.seq ?_
    refine C.seq ?_
    refine C.reg ?_
    refine W.y (y_move rfl) rfl ?_
    refine W.y (y_move rfl) rfl ?_
    refine W.y (y_len rfl Try.underlying22) rfl ?_
    refine W.y (y_lssF rfl rfl (by omega)) rfl ?_
    refine W.fin ?_
    refine E.next ?_
    refine C.no rfl ?_
    refine C.exit ?_
    refine E.thenExit ?_
    refine E.thenExit ?_
    refine E.blockOut ?_
    refine E.next ?_
    refine C.seq ?_
    refine C.reg ?_
    refine W.y (y_move rfl) rfl ?_
    refine W.y (y_assign rfl) rfl ?_
    refine W.fin ?_
    refine E.next ?_
    refine C.ret ?_
    exact E.ret1 rfl rfl ⟨⟨_, rfl, hPo⟩, hki⟩
theorem eqByteS_ret {w : World} {A A2 : Option Addr} {n c c2 : Nat} {s : List UInt8} (hS : Rd w A (bv s)) (hS2 : Rd w A2 (bv s)) (hn : s.length = n) (hN : n ≤ 1048576) :
    Ret Try.prog 33 #[.slice A n c, .slice A2 n c2] w fun v w' => v = .bool true ∧ Kp (fun _ => False) w w' := by
  subst hn
  refine ret_of Try.func33 rfl Try.ntmps33 (Nat.le_of_ble_eq_true rfl) ?_
  refine C.seq ?_
  refine C.reg ?_
  refine W.y (y_assign rfl) rfl ?_
  refine W.fin ?_
  refine E.next ?_
  refine C.seq ?_
  refine C.seq ?_
  refine C.reg ?_
  refine W.y (y_move rfl) rfl ?_
  refine W.y (y_len rfl Try.underlying24) rfl ?_
  refine W.y (y_move rfl) rfl ?_
  refine W.y (y_len rfl Try.underlying24) rfl ?_
  refine W.y (y_neqF rfl rfl (by omega)) rfl ?_
  refine W.fin ?_
  refine E.next ?_
  refine C.no rfl ?_
  refine C.skip ?_
  refine E.next ?_
  refine C.seq ?_
  refine C.seq ?_
  refine C.reg ?_
  refine W.y (y_assign rfl) rfl ?_
  refine W.fin ?_
  refine E.next ?_
  refine C.block ?_
  refine C.loop (σ := Nat) (fun i w' => i ≤ s.length ∧ Kp (fun _ => False) w w') (fun i => [(0, .slice A s.length c), (1, .slice A2 s.length c2), (5, .int .i64 (i : Int))]) (fun i => s.length - i) 0 ?_ ?_ ?_
  · exact ⟨by omega, Kp.refl _ _⟩
  · exact (Sub.cons rfl (Sub.cons rfl (Sub.cons rfl (Sub.nil _))))
  rintro i wi ⟨hi, hki⟩
  show C _ _ _ _ [(0, .slice A s.length c), (1, .slice A2 s.length c2), (5, .int .i64 (i : Int))] _
  by_cases h : i < s.length
  · obtain ⟨x, hx⟩ : ∃ x, s[i]? = some x := ⟨_, List.getElem?_eq_getElem h⟩
    obtain ⟨ga, oa, rfl, hba⟩ := (hS.kept hki.drew (fun _ _ _ => id)).at_ h
    obtain ⟨gb, ob, rfl, hbb⟩ := (hS2.kept hki.drew (fun _ _ _ => id)).at_ h
    refine C.seq ?_
    refine C.seq ?_
    refine C.reg ?_
    refine W.y (y_move rfl) rfl ?_
    refine W.y (y_move rfl) rfl ?_
    refine W.y (y_len rfl Try.underlying24) rfl ?_
    refine W.y (y_lssT rfl rfl (by omega)) rfl ?_
    refine W.fin ?_
    refine E.next ?_
    refine C.yes rfl ?_
    refine C.skip ?_
    refine E.next ?_
    refine C.seq ?_
    refine C.block ?_
    refine C.seq ?_
    refine C.still mixed (by kernel_rfl) ?_
    refine S.y (y_move rfl) rfl ?_
    refine S.y (y_move rfl) rfl ?_
    refine S.y (y_ixn rfl rfl Try.underlying24 siz5 (by omega)) rfl ?_
    refine S.y (y_load rfl pl5 (hba i x hx)) rfl ?_
    refine S.y (y_move rfl) rfl ?_
    refine S.y (y_move rfl) rfl ?_
    refine S.y (y_ixn rfl rfl Try.underlying24 siz5 (by omega)) rfl ?_
    refine S.y (y_load rfl pl5 (hbb i x hx)) rfl ?_
    refine S.y (y_neqF rfl rfl (by omega)) rfl ?_
    refine S.end_ ?_
    refine E.next ?_
    refine C.no rfl ?_
    refine C.skip ?_
    refine E.blockNormal ?_
    refine E.next ?_
    refine C.reg ?_
    refine W.y (y_move rfl) rfl ?_
    refine W.y (y_add rfl rfl (wi64 (by omega) (by omega))) rfl ?_
    refine W.y (y_assign rfl) rfl ?_
    refine W.fin ?_
    exact E.again (i + 1) ⟨by omega, hki.drew⟩ (Sub.cons rfl (Sub.cons rfl (Sub.cons rfl (Sub.nil _)))) (by omega)
  · skip
    refine C.seq ?_
    refine C.seq ?_
    refine C.reg ?_
    refine W.y (y_move rfl) rfl ?_
    refine W.y (y_move rfl) rfl ?_
    refine W.y (y_len rfl Try.underlying24) rfl ?_
    refine W.y (y_lssF rfl rfl (by omega)) rfl ?_
    refine W.fin ?_
    refine E.next ?_
    refine C.no rfl ?_
    refine C.exit ?_
    refine E.thenExit ?_
    refine E.thenExit ?_
    refine E.blockOut ?_
    refine E.next ?_
    refine C.seq ?_
    refine C.reg ?_
    refine W.y (y_assign rfl) rfl ?_
    refine W.fin ?_
    refine E.next ?_
    refine C.ret ?_
    exact E.ret1 rfl rfl ⟨rfl, hki⟩
set_option maxRecDepth 4000 in
theorem eqByteSS_ret {w : World} {A A2 : Option Addr} {n c c2 : Nat} {ps : List (List UInt8)} (hP : Pcs w.heap.size w A ps) (hP2 : Pcs w.heap.size w A2 ps) (hn : ps.length = n) (hN : ps.flatten.length ≤ 1048576) (hN2 : n ≤ 1048576) :
    Ret Try.prog 24 #[.slice A n c, .slice A2 n c2] w fun v w' => v = .bool true ∧ Kp (fun _ => False) w w' := by
  subst hn
  refine ret_of Try.func24 rfl Try.ntmps24 (Nat.le_of_ble_eq_true rfl) ?_
  refine C.seq ?_
  refine C.reg ?_
  refine W.y (y_assign rfl) rfl ?_
  refine W.fin ?_
  refine E.next ?_
  refine C.seq ?_
  refine C.seq ?_
  refine C.reg ?_
  refine W.y (y_move rfl) rfl ?_
  refine W.y (y_len rfl Try.underlying22) rfl ?_
  refine W.y (y_move rfl) rfl ?_
  refine W.y (y_len rfl Try.underlying22) rfl ?_
  refine W.y (y_neqF rfl rfl (by omega)) rfl ?_
  refine W.fin ?_
  refine E.next ?_
  refine C.no rfl ?_
  refine C.skip ?_
  refine E.next ?_
  refine C.seq ?_
  refine C.seq ?_
  refine C.reg ?_
  refine W.y (y_assign rfl) rfl ?_
  refine W.fin ?_
  refine E.next ?_
  refine C.block ?_
  refine C.loop (σ := Nat) (fun i w' => i ≤ ps.length ∧ Kp (fun _ => False) w w') (fun i => [(0, .slice A ps.length c), (1, .slice A2 ps.length c2), (5, .int .i64 (i : Int))]) (fun i => ps.length - i) 0 ?_ ?_ ?_
  · exact ⟨by omega, Kp.refl _ _⟩
  · exact (Sub.cons rfl (Sub.cons rfl (Sub.cons rfl (Sub.nil _))))
  rintro i wi ⟨hi, hki⟩
  show C _ _ _ _ [(0, .slice A ps.length c), (1, .slice A2 ps.length c2), (5, .int .i64 (i : Int))] _
  by_cases h : i < ps.length
  · obtain ⟨p, hp⟩ : ∃ p, ps[i]? = some p := ⟨_, List.getElem?_eq_getElem h⟩
    have hft := flat_take hp
    have hfl2 := flat_take_le (ps := ps) (i := i + 1)
    have hpl : (ps.take i).flatten.length + p.length ≤ ps.flatten.length := by rw [hft, List.length_append] at hfl2; exact hfl2
    obtain ⟨g, o, rfl, hg, hc2⟩ := (hP.kept (hki.wide _).drew).resolve_left (fun e => by rw [e] at h; simp at h)
    obtain ⟨A', c', hcell, hc', hrd, _⟩ := hc2 i p hp
    obtain ⟨g2, o2, rfl, hg2, hc3⟩ := (hP2.kept (hki.wide _).drew).resolve_left (fun e => by rw [e] at h; simp at h)
    obtain ⟨A3, c3, hcell3, hc4, hrd3, _⟩ := hc3 i p hp
    refine C.seq ?_
    refine C.seq ?_
    refine C.reg ?_
    refine W.y (y_move rfl) rfl ?_
    refine W.y (y_move rfl) rfl ?_
    refine W.y (y_len rfl Try.underlying22) rfl ?_
    refine W.y (y_lssT rfl rfl (by omega)) rfl ?_
    refine W.fin ?_
    refine E.next ?_
    refine C.yes rfl ?_
    refine C.skip ?_
    refine E.next ?_
    refine C.seq ?_
    refine C.block ?_
    refine C.seq ?_
    refine C.stillTail 8 mixed (by kernel_rfl) ?_
    refine S.y (y_move rfl) rfl ?_
    refine S.y (y_move rfl) rfl ?_
    refine S.y (y_ixn rfl rfl Try.underlying22 siz24 (by omega)) rfl ?_
    refine S.y (y_load rfl pl24 hcell) rfl ?_
    refine S.y (y_move rfl) rfl ?_
    refine S.y (y_move rfl) rfl ?_
    refine S.y (y_ixn rfl rfl Try.underlying22 siz24 (by omega)) rfl ?_
    refine S.y (y_load rfl pl24 hcell3) rfl ?_
    refine S.tail ?_
    refine W.call ent33 rfl (eqByteS_ret hrd hrd3 rfl (by omega)) rfl ?_
    rintro _ w1 ⟨rfl, hk1⟩
    refine W.y (y_not rfl) rfl ?_
    refine W.fin ?_
    refine E.next ?_
    refine C.no rfl ?_
    refine C.skip ?_
    refine E.blockNormal ?_
    refine E.next ?_
    refine C.reg ?_
    refine W.y (y_move rfl) rfl ?_
    refine W.y (y_add rfl rfl (wi64 (by omega) (by omega))) rfl ?_
    refine W.y (y_assign rfl) rfl ?_
    refine W.fin ?_
    exact E.again (i + 1) ⟨by omega, hki.drew.trans hk1⟩ (Sub.cons rfl (Sub.cons rfl (Sub.cons rfl (Sub.nil _)))) (by omega)
  · skip
    refine C.seq ?_
    refine C.seq ?_
    refine C.reg ?_
    refine W.y (y_move rfl) rfl ?_
    refine W.y (y_move rfl) rfl ?_
    refine W.y (y_len rfl Try.underlying22) rfl ?_
    refine W.y (y_lssF rfl rfl (by omega)) rfl ?_
    refine W.fin ?_
    refine E.next ?_
    refine C.no rfl ?_
    refine C.exit ?_
    refine E.thenExit ?_
    refine E.thenExit ?_
    refine E.blockOut ?_
    refine E.next ?_
    refine C.seq ?_
    refine C.reg ?_
    refine W.y (y_assign rfl) rfl ?_
    refine W.fin ?_
    refine E.next ?_
    refine C.ret ?_
    exact E.ret1 rfl rfl ⟨rfl, hki⟩
end Go.Proofs.Ytmbglgepomeilaa
