/-
  Walk: FnParts.
-/
import Derived.Test.YtmbglgepomeilaaLB
namespace Go.Proofs.Ytmbglgepomeilaa
open Go.RowKit

set_option maxRecDepth 4000 in
theorem fnParts64_ret {w : World} {A A2 : Option Addr} {c n c2 n2 : Nat} {al : List UInt8} {pad : Int} {ps : List (List UInt8)} {b : List UInt8} (hal : al.length ≤ 1048576) (hP : Pcs w.heap.size w A ps) (hn : ps.length = n) (hN : ps.flatten.length ≤ 1048576) (hN1 : ps.length ≤ 1048576) (hB : Rd w A2 (bv b)) (hn2 : b.length = n2) (hc2 : n2 ≤ c2) (hN2 : n2 ≤ 1048576) :
    Ret Try.prog 12 #[str al, .int .i64 pad, .slice A n c, .slice A2 n2 c2] w fun v w' => v = .bool true ∧ Kp (fun _ => False) w w' := by
  subst hn hn2
  refine ret_of Try.func12 rfl Try.ntmps12 (Nat.le_of_ble_eq_true rfl) ?_
  refine C.seq ?_
  refine C.reg ?_
  refine W.y (y_assign rfl) rfl ?_
  refine W.fin ?_
  refine E.next ?_
  refine C.seq ?_
  refine C.seq ?_
  refine C.reg ?_
  refine W.y (y_move rfl) rfl ?_
  refine W.y (y_move rfl) rfl ?_
  refine W.call ent15 rfl (fit_ret (N := 64) (by omega)) rfl ?_
  rintro _ _ ⟨rfl, ⟨rfl, hf⟩ | rfl⟩
  rotate_left
  · skip
    refine W.y (y_not rfl) rfl ?_
    refine W.fin ?_
    refine E.next ?_
    refine C.yes rfl ?_
    refine C.seq ?_
    refine C.reg ?_
    refine W.y (y_assign rfl) rfl ?_
    refine W.fin ?_
    refine E.next ?_
    refine C.ret ?_
    refine E.thenRet ?_
    exact E.ret1 rfl rfl ⟨rfl, Kp.refl _ _⟩
  refine W.y (y_not rfl) rfl ?_
  refine W.fin ?_
  refine E.next ?_
  refine C.no rfl ?_
  refine C.skip ?_
  refine E.next ?_
  refine C.seq ?_
  refine C.reg ?_
  refine W.y (y_bs0 el24) rfl ?_
  refine W.y (y_assign rfl) rfl ?_
  refine W.fin ?_
  refine E.next ?_
  refine C.seq ?_
  refine C.reg ?_
  refine W.y (y_assign rfl) rfl ?_
  refine W.fin ?_
  refine E.next ?_
  refine C.seq ?_
  refine C.seq ?_
  refine C.reg ?_
  refine W.y (y_move rfl) rfl ?_
  refine W.y (y_len rfl Try.underlying22) rfl ?_
  refine W.y (y_move rfl) rfl ?_
  refine W.fin ?_
  refine E.next ?_
  refine C.block ?_
  refine C.loop (σ := Nat × Value) (fun (i, vi) w' => i ≤ ps.length ∧ Own w' 5 vi (bv (whole 3 (ps.take i))) ∧ (∀ k, vi.ownBlock = some k → w.heap.size ≤ k) ∧ Kp (fun _ => False) w w') (fun (i, vi) => [(0, str al), (1, .int .i64 pad), (3, .slice A2 b.length c2), (9, vi), (10, str (Pl.letters 6 al (whole 3 (ps.take i)))), (19, .slice A ps.length c), (20, .int .i64 (ps.length : Int)), (21, .int .i64 (i : Int))]) (fun (i, _) => ps.length - i) (0, .slice (some ⟨w.heap.size, 0, none⟩) 0 0) ?_ ?_ ?_
  · exact ⟨by omega, Own.zero w 5, (fun k e => by cases e; exact Nat.le_refl _), (Kp.refl _ w).alloc _⟩
  · exact (Sub.cons rfl (Sub.cons rfl (Sub.cons rfl (Sub.cons rfl (Sub.cons (by rw [show whole 3 (ps.take 0) = [] from by simp [whole], letters_nil al (by omega)]; rfl) (Sub.cons rfl (Sub.cons rfl (Sub.cons rfl (Sub.nil _)))))))))
  rintro ⟨i, vi⟩ wi ⟨hi, how, hob, hk⟩
  show C _ _ _ _ [(0, str al), (1, .int .i64 pad), (3, .slice A2 b.length c2), (9, vi), (10, str (Pl.letters 6 al (whole 3 (ps.take i)))), (19, .slice A ps.length c), (20, .int .i64 (ps.length : Int)), (21, .int .i64 (i : Int))] _
  have hfl := flat_take_le (ps := ps) (i := i)
  obtain ⟨kw, hkw, hkl⟩ := whole_len 3 (ps.take i)
  have hll := Pl.letters_length 6 al (whole 3 (ps.take i))
  have hnl : Pl.nlet 6 (whole 3 (ps.take i)).length = (8 * (whole 3 (ps.take i)).length + 5) / 6 := rfl
  by_cases h : i < ps.length
  · obtain ⟨p, hp⟩ : ∃ p, ps[i]? = some p := ⟨_, List.getElem?_eq_getElem h⟩
    have hwt := whole_take (G := 3) hp
    have hft := flat_take hp
    have hfl2 := flat_take_le (ps := ps) (i := i + 1)
    have hpl : (ps.take i).flatten.length + p.length ≤ ps.flatten.length := by rw [hft, List.length_append] at hfl2; exact hfl2
    obtain ⟨g, o, rfl, hg, hcs⟩ := (hP.kept (hk.wide _)).resolve_left (fun e => by rw [e] at h; simp at h)
    obtain ⟨A', c', hcell, hc', hrd, _⟩ := hcs i p hp
    have hcl := cut_len 3 p
    obtain ⟨q, hq⟩ : ∃ q, q = p.take (p.length / 3 * 3) := ⟨_, rfl⟩
    rw [← hq] at hcl hwt
    have hrq : Rd wi A' (bv q) := by rw [hq]; exact hrd.takeB _
    obtain ⟨v1, x1, hr1, ho1, hg1, ha1⟩ := run_app (P := Try.prog) (w := wi) (ty := 24) (c := c') el24 how hrq (one_u8 q) (by simp only [bv_length]; omega) (by omega)
    rw [bv_length] at hr1
    rw [hcl] at hr1
    have hk1 : Kp (fun _ => False) w x1 := hk.grown hg1 (fun k e => .inr (hob k e))
    have hx1 : Kp (fun k => vi.ownBlock = some k) wi x1 := grown_kp hg1 (fun k e => .inl e)
    have hrq1 : Rd x1 A' (bv q) := by
      have h0 := (hP.kept (hk1.wide _)).resolve_left (fun e => by rw [e] at h; simp at h)
      obtain ⟨g2, o2, e2, _, hcs2⟩ := h0
      cases e2
      obtain ⟨A3, c3, hcell3, _, hrd3, _⟩ := hcs2 i p hp
      have hsame : x1.cell? ⟨g, o + i, none⟩ = wi.cell? ⟨g, o + i, none⟩ := by
        refine World.cell?_of_block (hx1.block g (World.block_lt_of_cell? wi _ hcell) (fun e => ?_))
        have := hob g e
        omega
      rw [hsame, hcell] at hcell3
      cases hcell3
      rw [hq]
      exact hrd3.takeB _
    have htw : Pl.text 6 4 al pad q = Pl.letters 6 al q := text_of_whole (whole64 hcl)
    have hlq := Pl.letters_length 6 al q
    have hnq : Pl.nlet 6 q.length = (8 * q.length + 5) / 6 := rfl
    have hla : Pl.letters 6 al (whole 3 (ps.take i) ++ q) = Pl.letters 6 al (whole 3 (ps.take i)) ++ Pl.letters 6 al q := Pl.letters_append (k := 4 * kw) (by omega) al _ _ (by omega)
    refine C.seq ?_
    refine C.reg ?_
    refine W.y (y_lssT rfl rfl (by omega)) rfl ?_
    refine W.fin ?_
    refine E.next ?_
    refine C.seq ?_
    refine C.yes rfl ?_
    refine C.skip ?_
    refine E.next ?_
    refine C.seq ?_
    refine C.block ?_
    refine C.seq ?_
    refine C.reg ?_
    refine W.y (y_ixn rfl rfl Try.underlying22 siz24 (by omega)) rfl ?_
    refine W.y (y_load rfl pl24 hcell) rfl ?_
    refine W.y (y_assign rfl) rfl ?_
    refine W.fin ?_
    refine E.next ?_
    refine C.seq ?_
    refine C.reg ?_
    refine W.y (y_move rfl) rfl ?_
    refine W.y (y_move rfl) rfl ?_
    refine W.y (y_len rfl Try.underlying24) rfl ?_
    refine W.y (y_quo rfl rfl (by omega) (by omega) (by omega)) rfl ?_
    refine W.y (Does.as (y_mul rfl rfl (wi64 (by omega) (by omega))) (vint (b := ((p.length / 3 * 3 : Nat) : Int)) (by omega))) rfl ?_
    refine W.y (y_cuth rfl rfl Try.underlying24 siz5 (by omega)) rfl ?_
    refine W.y (y_assign rfl) rfl ?_
    refine W.fin ?_
    refine E.next ?_
    refine C.seq ?_
    refine C.reg ?_
    refine W.y (y_move rfl) rfl ?_
    refine W.y (y_move rfl) rfl ?_
    refine W.y (y_app rfl rfl hr1) rfl ?_
    refine W.y (y_assign rfl) rfl ?_
    refine W.fin ?_
    refine E.next ?_
    refine C.reg ?_
    refine W.y (y_move rfl) rfl ?_
    refine W.y (y_move rfl) rfl ?_
    refine W.y (y_move rfl) rfl ?_
    refine W.y (y_move rfl) rfl ?_
    refine W.call ent27 rfl (encodeImpl64_ret hf hrq1 hcl (by omega) (by omega)) rfl ?_
    rintro _ w2 ⟨e2, hw2⟩
    rw [htw] at e2
    subst e2
    refine W.y (y_cat rfl rfl (by omega)) rfl ?_
    refine W.y (y_assign rfl) rfl ?_
    refine W.fin ?_
    refine E.blockNormal ?_
    refine E.next ?_
    refine C.reg ?_
    refine W.y (y_add rfl rfl (wi64 (by omega) (by omega))) rfl ?_
    refine W.y (y_move rfl) rfl ?_
    refine W.fin ?_
    refine E.again (i + 1, v1) ⟨by omega, by rw [hwt, bv_append]; exact ho1.kept hw2 (fun _ _ => id), ?_, hk1.trans hw2⟩ (Sub.cons rfl (Sub.cons rfl (Sub.cons rfl (Sub.cons rfl (Sub.cons (by rw [hwt, hla]; rfl) (Sub.cons rfl (Sub.cons rfl (Sub.cons rfl (Sub.nil _))))))))) (by show ps.length - (i + 1) < ps.length - i; omega)
    intro k e
    have := hk.size
    rcases ha1 with e1 | e1
    · exact hob k (by rw [← e1, e])
    · rw [e1] at e; injection e with e; omega
  · have hi2 : ps.take i = ps := List.take_of_length_le (by omega)
    have hBi := hB.kept hk (fun _ _ _ => id)
    obtain ⟨A3, c3, rfl, hrd3, hc3, hob3⟩ := how.bytes
    obtain ⟨v1, x1, hr1, ho1, hg1, ha1⟩ := run_app (P := Try.prog) (w := wi) (ty := 24) (c := c2) el24 how hBi (one_u8 b) (by simp only [bv_length]; omega) (by omega)
    rw [bv_length] at hr1
    rw [← bv_append] at ho1
    obtain ⟨A4, c4, rfl, hrd4, hc4, _⟩ := ho1.bytes
    have hk1 : Kp (fun _ => False) w x1 := hk.grown hg1 (fun k e => .inr (hob k e))
    have hlen : (whole 3 (ps.take i) ++ b).length = (whole 3 (ps.take i)).length + b.length := List.length_append
    have hts : Pl.text 6 4 al pad (whole 3 (ps.take i) ++ b) = Pl.letters 6 al (whole 3 (ps.take i)) ++ Pl.text 6 4 al pad b := text_split (k := kw) (by omega) (by omega)
    have htg := text_ge (bits := 6) (block := 4) (al := al) (pad := pad) (src := whole 3 (ps.take i) ++ b)
    have hng : Pl.nlet 6 (whole 3 (ps.take i) ++ b).length = (8 * (whole 3 (ps.take i) ++ b).length + 5) / 6 := rfl
    have htl := text_length64 (al := al) hf.lo b
    have hle := encLen64_le pad b.length
    refine C.seq ?_
    refine C.reg ?_
    refine W.y (y_lssF rfl rfl (by omega)) rfl ?_
    refine W.fin ?_
    refine E.next ?_
    refine C.seq ?_
    refine C.no rfl ?_
    refine C.exit ?_
    refine E.thenExit ?_
    refine E.thenExit ?_
    refine E.blockOut ?_
    refine E.next ?_
    refine C.seq ?_
    refine C.reg ?_
    refine W.y (y_move rfl) rfl ?_
    refine W.y (y_move rfl) rfl ?_
    refine W.y (y_move rfl) rfl ?_
    refine W.y (y_move rfl) rfl ?_
    refine W.y (y_app rfl rfl hr1) rfl ?_
    refine W.call ent27 rfl (encodeImpl64_ret hf hrd4 rfl hc4 (by omega)) rfl ?_
    rintro _ w1 ⟨rfl, hw1⟩
    refine W.y (y_assign rfl) rfl ?_
    refine W.fin ?_
    refine E.next ?_
    refine C.seq ?_
    refine C.reg ?_
    refine W.y (y_move rfl) rfl ?_
    refine W.y (y_move rfl) rfl ?_
    refine W.y (y_move rfl) rfl ?_
    refine W.y (y_move rfl) rfl ?_
    refine W.y (y_move rfl) rfl ?_
    refine W.call ent27 rfl (encodeImpl64_ret hf (hB.kept (hk1.trans hw1) (fun _ _ _ => id)) rfl hc2 (by omega)) rfl ?_
    rintro _ w2 ⟨rfl, hw2⟩
    refine W.y (y_cat rfl rfl (by omega)) rfl ?_
    refine W.y (y_eqsT rfl rfl hts) rfl ?_
    refine W.y (y_move rfl) rfl ?_
    refine W.gy rfl rfl (y_move rfl) rfl ?_
    refine W.gy rfl rfl (y_len' rfl Try.underlying9) rfl ?_
    refine W.gy rfl rfl (y_move rfl) rfl ?_
    refine W.gy rfl rfl (y_len rfl Try.underlying24) rfl ?_
    refine W.gy rfl rfl (y_move rfl) rfl ?_
    refine W.gy rfl rfl (y_len rfl Try.underlying24) rfl ?_
    refine W.gy rfl rfl (y_add rfl rfl (wi64 (by omega) (by omega))) rfl ?_
    refine W.gy rfl rfl (y_geqT rfl rfl (by omega)) rfl ?_
    refine W.y (y_pick rfl rfl) rfl ?_
    refine W.y (y_assign rfl) rfl ?_
    refine W.fin ?_
    refine E.next ?_
    refine C.ret ?_
    exact E.ret1 rfl rfl ⟨rfl, (hk1.trans hw1).trans hw2⟩
end Go.Proofs.Ytmbglgepomeilaa
