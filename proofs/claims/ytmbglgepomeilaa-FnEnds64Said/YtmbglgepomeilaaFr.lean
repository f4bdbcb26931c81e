/-
  The frame of the statements: arguments opened as bytes and pieces, the bound's gifts, the last step behind the call.
-/
import Derived.Test.YtmbglgepomeilaaRows
import Derived.Test.YtmbglgepomeilaaLaw
import Derived.WalkKit
import Derived.ProofKit
import Derived.OpenShut
import Derived.JoinedCond
import Derived.Carry
import Derived.Below
import Derived.ChangeSame
import Derived.Deep.Matrix
namespace Go.Proofs.Ytmbglgepomeilaa
open Go.ChangeShapes Go.WideShapes Go.ChangeAt Go.RowKit Go.Deep
open Go.ChangeMaps (open_string shut_string)

theorem laid : laidOutB Try.prog = true := by kernel_rfl
theorem own : ownKnob Try.prog.godebug = none := by kernel_rfl
def bytesOf (zs : List Int) : List UInt8 := zs.map fun z => UInt8.ofNat z.toNat
@[simp] theorem bytesOf_length (zs : List Int) : (bytesOf zs).length = zs.length := by simp [bytesOf]
theorem wf_u8 {z : Int} (h : (Lit.int .u8 z).wf = true) : 0 ≤ z ∧ z ≤ 255 := by
  simpa [Lit.wf, IntKind.min, IntKind.max, IntKind.bits, IntKind.signed, Bool.and_eq_true] using h
theorem wf_i64 {z : Int} (h : (Lit.int .i64 z).wf = true) : -9223372036854775808 ≤ z ∧ z ≤ 9223372036854775807 := by
  simpa [Lit.wf, IntKind.min, IntKind.max, IntKind.bits, IntKind.signed, Bool.and_eq_true] using h
theorem u8_ofZ {z : Int} (h : (Lit.int .u8 z).wf = true) : u8 (UInt8.ofNat z.toNat) = .int .u8 z := by
  obtain ⟨h0, h1⟩ := wf_u8 h
  unfold u8
  congr 1
  rw [UInt8.toNat_ofNat']
  omega
theorem spot_of {w : World} {a : Addr} {v : Value} (h : w.cell? a = some v) : a = ⟨a.block, a.off, none⟩ := by
  obtain ⟨b, o, s⟩ := a
  cases s with
  | none => rfl
  | some k =>
    unfold World.cell? at h
    split at h <;> simp at h
theorem add_flat (b o i : Nat) : Addr.add ⟨b, o, none⟩ i = ⟨b, o + i, none⟩ := by
  unfold Addr.add
  split
  · next h => subst h; rfl
  · rfl
theorem Rd.of_ints {w : World} {a : Addr} {zs : List Int} {n : Nat} (hn : n ≤ zs.length) (hw : ∀ z ∈ zs, (Lit.int .u8 z).wf = true) (h : ∀ i, i < n → w.cell? (a.add i) = some (.int .u8 (zs.getD i 0))) :
    Rd w (some a) (bv (bytesOf (zs.take n))) := by
  rcases Nat.eq_zero_or_pos n with h0 | h0
  · subst h0; exact .inl (by simp [bytesOf, bv])
  · have hs := spot_of (h 0 h0)
    have hs' : a = ⟨a.block, a.off, none⟩ := by simpa [Addr.add] using hs
    refine .inr ⟨a.block, a.off, congrArg some hs', fun i u hu => ?_⟩
    simp only [bv, bytesOf, List.getElem?_map, Option.map_eq_some_iff] at hu
    obtain ⟨c, ⟨z, hz, rfl⟩, rfl⟩ := hu
    rw [List.getElem?_take] at hz
    split at hz
    · next hi =>
      have h2 := h i hi
      rw [hs', add_flat] at h2
      rw [h2, List.getD_eq_getElem?_getD, hz, u8_ofZ (hw z (List.mem_of_getElem? hz))]
      rfl
    · cases hz
theorem bulk_lits {H : Type} (k : IntKind) (zs : List Int) : Rows.uptoBulkAll (lits (H := H) k zs) = zs.length := by
  induction zs with
  | nil => simp [lits, Rows.uptoBulkAll]
  | cons z r ih => simp only [lits, List.map_cons, Rows.uptoBulkAll, Rows.uptoBulk, List.length_cons] at ih ⊢; omega
section
variable {H : Type} {enc : TypeId × Value → H} {P : Program} {w : World}
theorem cells1 {v u : Value} (h : v.cells.toList = [u]) (hu : ∀ vs, u ≠ .agg vs) : v = u ∨ ∃ vs, v = .agg vs := by
  cases v <;> simp_all [Value.cells]
/-- bytes -/
theorem open_bytes {t e : TypeId} {r : Reach} {b0 : Nat} {v : Value} {d : DataW H} {ps : List MemPlace} (ht : P.underlying t = some (.slice e)) (he : P.underlying e = some (.int .u8)) (hc : P.cellsOf e = 1)
    (hval : Value.okWide P w r b0 t v) (h : DataW.Trod enc P w 0 (fun _ => true) true t v d ps) :
    ∃ A n c s, v = .slice A n c ∧ s.length = n ∧ n ≤ c ∧ c ≤ maxLen ∧ Rd w A (bv s) ∧ (∀ g o, A = some ⟨g, o, none⟩ → s ≠ [] → g < w.heap.size) ∧ s.length + 1 ≤ Rows.uptoBulk d := by
  obtain ⟨fuel, hf⟩ := h
  obtain ⟨A, n, c, rfl⟩ := okWide_slice ht hval
  rcases open_ints ht he hc hf with ⟨h1, h2⟩ | ⟨a, len, cap, zs, h1, hb, hl, hm, hz, h2, hcell, hw⟩
  · injection h2 with h2 h3
    subst h2
    simp [Value.cells] at h1
    obtain ⟨rfl, rfl, rfl⟩ := h1
    exact ⟨none, 0, 0, [], rfl, rfl, Nat.le_refl _, Nat.zero_le _, .inl rfl, (fun g o e => by cases e), by simp [Rows.uptoBulk]⟩
  · injection h2 with h2 h3
    subst h2
    simp [Value.cells] at h1
    obtain ⟨rfl, rfl, rfl⟩ := h1
    simp only [if_true] at hz
    refine ⟨some a, n, c, bytesOf (zs.take n), rfl, by simp; omega, hl, hm, Rd.of_ints (by omega) hw (fun i hi => hcell i (by omega)), fun g o e hs => ?_, ?_⟩
    · injection e with e
      have hn : 0 < zs.length := by
        rcases Nat.eq_zero_or_pos zs.length with h0 | h0
        · exact absurd (by simp [bytesOf, List.eq_nil_of_length_eq_zero h0]) hs
        · exact h0
      have := World.block_lt_of_cell? w _ (hcell 0 hn)
      simpa [Addr.add, e] using this
    · simp only [Rows.uptoBulk, bulk_lits]
      simp
theorem bulk_rows {H : Type} {f : Nat → DataW H} {g : Nat → List UInt8} : ∀ (l : List Nat), (∀ r ∈ l, (g r).length + 1 ≤ Rows.uptoBulk (f r)) → (l.map g).flatten.length + l.length ≤ Rows.uptoBulkAll (l.map f)
  | [], _ => by simp [Rows.uptoBulkAll]
  | x :: r, h => by
    have h1 := h x (by simp)
    have h2 := bulk_rows r (fun y hy => h y (by simp [hy]))
    simp only [List.map_cons, List.flatten_cons, List.length_append, List.length_cons, Rows.uptoBulkAll] at h2 ⊢
    omega
/-- pieces -/
theorem open_pieces {t e q : TypeId} {r : Reach} {b0 : Nat} {v : Value} {d : DataW H} {pl : List MemPlace} (ht : P.underlying t = some (.slice e)) (he : P.underlying e = some (.slice q)) (hq : P.underlying q = some (.int .u8)) (ce : P.cellsOf e = 1) (cq : P.cellsOf q = 1)
    (hval : Value.okWide P w r b0 t v) (h : DataW.Trod enc P w 0 (fun _ => true) true t v d pl) :
    ∃ A n c ps, v = .slice A n c ∧ ps.length = n ∧ n ≤ c ∧ Pcs w.heap.size w A ps ∧ ps.flatten.length + ps.length + 1 ≤ Rows.uptoBulk d ∧ c ≤ 9223372036854775807 ∧ ∀ p ∈ ps, p.length ≤ 9223372036854775807 := by
  obtain ⟨fuel, hf⟩ := h
  obtain ⟨A, n, c, rfl⟩ := okWide_slice ht hval
  rcases open_int_rows ht he hq ce cq hf with ⟨h1, h2⟩ | ⟨a, len, cap, As, L, Cs, Z, h1, hb, hl, hm, h2, hx⟩
  · injection h2 with h2 h3
    subst h2
    simp [Value.cells] at h1
    obtain ⟨rfl, rfl, rfl⟩ := h1
    exact ⟨none, 0, 0, [], rfl, rfl, Nat.le_refl _, .inl rfl, by simp [Rows.uptoBulk], by omega, fun p hp => by cases hp⟩
  · injection h2 with h2 h3
    subst h2
    simp [Value.cells] at h1
    obtain ⟨rfl, rfl, rfl⟩ := h1
    have hlen : ∀ i, i < n → (bytesOf ((Z i).take (L i))).length = L i := fun i hi => by
      obtain ⟨_, hL, _, hZ, _⟩ := hx i (by omega)
      simp; omega
    refine ⟨some a, n, c, (List.range n).map fun i => bytesOf ((Z i).take (L i)), rfl, by simp, hl, ?_, ?_, by simp only [maxLen] at hm; omega, fun p hp => ?_⟩
    · rcases Nat.eq_zero_or_pos n with h0 | h0
      · subst h0; exact .inl rfl
      · have hc0 := (hx 0 (by omega)).1
        have hs' : a = ⟨a.block, a.off, none⟩ := by simpa [Addr.add] using spot_of hc0
        refine .inr ⟨a.block, a.off, congrArg some hs', by simpa [Addr.add] using World.block_lt_of_cell? w _ hc0, fun i p hp => ?_⟩
        simp only [List.getElem?_map, Option.map_eq_some_iff] at hp
        obtain ⟨j, hj, rfl⟩ := hp
        have hi : i < n := by
          rcases Nat.lt_or_ge i n with h | h
          · exact h
          · rw [List.getElem?_eq_none (by simpa using h)] at hj; cases hj
        rw [List.getElem?_range hi] at hj
        obtain ⟨hcell, hL, hC, hZ, hw, hn0, hA⟩ := hx i (by omega)
        injection hj with hj
        subst hj
        rw [hlen i hi]
        refine ⟨As i, Cs i, ?_, hL, ?_, fun b hb2 hne => ?_⟩
        · rw [hs', add_flat] at hcell; exact hcell
        · cases hAi : As i with
          | none =>
            have := hn0 hAi
            refine .inl ?_
            have h0 : (bytesOf ((Z i).take (L i))).length = 0 := by rw [hlen i hi]; omega
            rw [List.eq_nil_of_length_eq_zero h0]; rfl
          | some a' => exact Rd.of_ints (by omega) hw (fun k hk => (hA a' hAi).2 k (by omega))
        · have hpos : 0 < L i := by
            rcases Nat.eq_zero_or_pos (L i) with h | h
            · exact absurd (List.eq_nil_of_length_eq_zero (by rw [hlen i hi]; exact h)) hne
            · exact h
          simpa [Addr.add] using World.block_lt_of_cell? w _ ((hA b hb2).2 0 (by omega))
    · have hr := bulk_rows (f := fun r => intRow .u8 (As r) (L r) (Z r)) (H := H) (g := fun i => bytesOf ((Z i).take (L i))) (List.range n) (fun i hi => by
        have hi' : i < n := by simpa using hi
        obtain ⟨_, hL, _, hZ, _, hn0, _⟩ := hx i (by omega)
        rw [hlen i hi']
        cases hAi : As i with
        | none => have := hn0 hAi; simp only [intRow, Rows.uptoBulk]; omega
        | some a' => simp only [intRow, Rows.uptoBulk, bulk_lits]; simp; omega)
      simp only [Rows.uptoBulk]
      simp only [List.length_range] at hr
      simp only [List.length_map, List.length_range]
      omega
    · obtain ⟨i, hi, rfl⟩ := List.mem_map.1 hp
      have hi' : i < n := by simpa using hi
      obtain ⟨_, hL, hC, _⟩ := hx i (by omega)
      simp only [maxLen] at hC
      rw [hlen i hi']
      omega
theorem trodAll_stays {W W' : World} {sp : Nat → Bool} (hl : laidOutB P = true) : ∀ {ts : List TypeId} {vs : List Value} {ds : List (DataW H)} {ps : List MemPlace}, (∀ t ∈ ts, P.readableRec t = true ∧ t < P.types.size) →
    DataW.TrodAll enc P W 0 (fun _ => true) true ts vs ds ps → (∀ p ∈ ps, W.sameAt W' p) → (∀ p ∈ ps, sp p.block = true) → DataW.TrodAll enc P W' 0 sp true ts vs ds ps
  | [], vs, ds, ps, _, h, _, _ => by
    obtain ⟨rfl, rfl, rfl⟩ := trodAll_nil h
    exact trodAll_mk0
  | t :: ts, vs, ds, ps, hr, h, h1, h2 => by
    obtain ⟨v, vs', d, ds', p, q, rfl, rfl, rfl, ha, hb⟩ := trodAll_cons h
    exact trodAll_cons_mk (WideElems.Trod_stays hl (hr t (by simp)).1 (hr t (by simp)).2 ha (fun x hx => h1 x (by simp [hx])) (fun x hx => h2 x (by simp [hx])))
      (trodAll_stays hl (fun u hu => hr u (by simp [hu])) hb (fun x hx => h1 x (by simp [hx])) (fun x hx => h2 x (by simp [hx])))
/-- the last step: the law said true, and below the heap's old size nothing turned -/
theorem post_true {f : Func} {s : ChangeSpec} {tb : TypeId} {W W' : World} {args : Array Value} {ds : List (DataW H)} {before : List MemPlace} (hW : DataW.Whole enc P f.params.toList s.vars false W args.toList ds [] before)
    (hv : s.vars = []) (hrt : f.resultTypes = #[tb]) (hbo : P.underlying tb = some .bool) (hfr : (s.fn H (ds ++ [])).results = [.lit (.bool true)]) (hfa : (s.fn H (ds ++ [])).args = ds) (hfv : (s.fn H (ds ++ [])).vars = [])
    (hl : laidOutB P = true) (hr : ∀ t ∈ f.params.toList, P.readableRec t = true ∧ t < P.types.size) (hb : Below W.heap.size W W') : s.post enc P f false true false false W args (.bool true) W' := by
  have hlt : ∀ p ∈ before, p.block < W.heap.size := fun p hp => hW.lt p hp
  have hW' := hW
  obtain ⟨pa, pv, hA0, hV, rfl, hz, hn⟩ := hW
  have hA : DataW.TrodAll enc P W 0 (fun _ => true) true f.params.toList args.toList ds pa := hA0
  rw [hv] at hV
  obtain ⟨_, rfl⟩ := trodVars_none hV
  simp only [List.append_nil] at hlt hz hn hW'
  have hargs : ∀ sp : Nat → Bool, (∀ p ∈ pa, sp p.block = true) → DataW.TrodAll enc P W' 0 sp true f.params.toList args.toList (s.fn H (ds ++ [])).args pa := fun sp hs => by
    rw [hfa]
    exact trodAll_stays hl hr hA (fun p hp => hb.same (hlt p hp)) hs
  have hres : ∀ (b : Nat) (sp : Nat → Bool) (hd : Bool), DataW.TrodAll enc P W' b sp hd f.resultTypes.toList ((Value.bool true).resultList f.resultTypes.size) (s.fn H (ds ++ [])).results [] := fun b sp hd => by
    rw [hfr, hrt]
    exact trodAll_cons_mk (p := []) (shut_bool hbo _) trodAll_mk0
  have hvars : ∀ sp : Nat → Bool, DataW.TrodVars enc P W' sp s.vars (s.fn H (ds ++ [])).vars [] := fun sp => by rw [hv, hfv]; rfl
  have hok : ∀ (j : Nat) (t : TypeId) (r : Value), f.resultTypes[j]? = some t → ((Value.bool true).resultList f.resultTypes.size)[j]? = some r → Value.okWide P W' .any 0 t r := ok_one hrt rfl (okWide_bool_mk hbo _)
  have hall := trodAll_append (hargs (fun _ => true) (fun _ _ => rfl)) (hres 0 (fun _ => true) true)
  have hold : ∀ p ∈ pa, (fun b => decide (b < W.heap.size)) p.block = true := fun p hp => by simpa using hlt p hp
  refine ⟨ds, [], pa, [], pa, [], hW', hres _ _ _, hargs _ hold, hvars _, World.keptBut_mono (fun p hp => ⟨hp, .inr (.inl hp)⟩) (hb.frame (· ∈ pa)), fun _ => ⟨hok, _, _, pa, ⟨pa, [], hall, hvars _, by simp, ?_, ?_⟩, ?_⟩⟩
  · intro b off hp
    rw [hb.frozen (hlt _ hp)]
    exact hz b off hp
  · exact hn
  · intro p hp _
    simpa using hp
end
end Go.Proofs.Ytmbglgepomeilaa
