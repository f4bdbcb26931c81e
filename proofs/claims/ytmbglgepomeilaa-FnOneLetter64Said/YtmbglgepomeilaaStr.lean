/-
  THE STATE OF A STREAM THAT ENCODES. No program in sight.
-/
import Derived.Test.YtmbglgepomeilaaEnc
namespace Go.Proofs.Ytmbglgepomeilaa
open Go.RowKit

theorem Own.one {w : World} {e : TypeId} {v : Value} {xs : List Value} (h : Own w e v xs) : v.oneCell' = true := by
  rcases h.form with ⟨rfl, _⟩ | ⟨g, cap, cs, rfl, _⟩ <;> rfl

theorem bv_drop (s : List UInt8) (k : Nat) : (bv s).drop k = bv (s.drop k) := by simp [bv]
theorem Rd.cut {w : World} {A : Option Addr} {r : List Value} (h : Rd w A r) (i : Nat) {c : Nat} (hi : i ≤ r.length) (hc : r.length ≤ c) : Rd w (if c = i then A else A.map (·.add i)) (r.drop i) := by
  by_cases e : c = i
  · left; rw [List.drop_eq_nil_of_le (by omega)]
  · rw [if_neg e]
    rcases h with rfl | ⟨g, o, rfl, h⟩
    · left; simp
    · refine .inr ⟨g, o + i, by simp [Addr.add_lit], fun j u hj => ?_⟩
      rw [List.getElem?_drop] at hj
      rw [Nat.add_assoc]
      exact h (i + j) u hj
theorem add_block (a : Addr) (i : Nat) : (a.add i).block = a.block := by unfold Addr.add; split <;> rfl
theorem cut_far {A : Option Addr} {c i : Nat} (p : Nat → Prop) (h : ∀ a : Addr, A = some a → p a.block) : ∀ a : Addr, (if c = i then A else A.map (·.add i)) = some a → p a.block := by
  intro a e
  split at e
  · exact h a e
  · rcases A with _ | b
    · cases e
    · simp only [Option.map_some, Option.some.injEq] at e
      rw [← e, add_block]
      exact h b rfl

/-- the encoder's own cells: no error; the encoding, the writer; bytes that wait (at most G); their number; room for texts -/
structure Es (G : Nat) (es : Array Value) (gc gk TK : Nat) (pend : List UInt8) : Prop where
  size : es.size = 4 + G + 1024
  err : es[0]? = some .nilIface
  enc : es[1]? = some (.pointer (some ⟨gc, 0, none⟩))
  wr : es[2]? = some (.iface TK (.pointer (some ⟨gk, 0, none⟩)))
  nb : es[3 + G]? = some (.int .i64 (pend.length : Int))
  buf : ∀ (i : Nat) (c : UInt8), pend[i]? = some c → es[3 + i]? = some (u8 c)
section
variable {G gc gk TK : Nat} {es : Array Value} {pend : List UInt8}
theorem get_lt {l : List UInt8} {i : Nat} {c : UInt8} (h : l[i]? = some c) : i < l.length := by
  rcases Nat.lt_or_ge i l.length with h1 | h1
  · exact h1
  · simp [List.getElem?_eq_none h1] at h
theorem Es.push (h : Es G es gc gk TK pend) (hl : pend.length < G) (c : UInt8) :
    Es G ((es.setIfInBounds (3 + pend.length) (u8 c)).setIfInBounds (3 + G) (.int .i64 ((pend.length : Int) + 1))) gc gk TK (pend ++ [c]) := by
  have hs := h.size
  refine ⟨by simp; exact hs, ?_, ?_, ?_, ?_, fun i x hx => ?_⟩
  · rw [Array.getElem?_setIfInBounds, if_neg (by omega), Array.getElem?_setIfInBounds, if_neg (by omega)]; exact h.err
  · rw [Array.getElem?_setIfInBounds, if_neg (by omega), Array.getElem?_setIfInBounds, if_neg (by omega)]; exact h.enc
  · rw [Array.getElem?_setIfInBounds, if_neg (by omega), Array.getElem?_setIfInBounds, if_neg (by omega)]; exact h.wr
  · rw [Array.getElem?_setIfInBounds, if_pos rfl, if_pos (by simp; omega)]; simp
  · have hi := get_lt hx
    simp only [List.length_append, List.length_singleton] at hi
    rw [Array.getElem?_setIfInBounds, if_neg (by omega), Array.getElem?_setIfInBounds]
    by_cases e : i = pend.length
    · subst e
      simp at hx
      rw [if_pos rfl, if_pos (by omega), hx]
    · rw [if_neg (by omega)]
      exact h.buf i x (by rwa [List.getElem?_append_left (by omega)] at hx)
theorem Es.out (h : Es G es gc gk TK pend) (hp : pend.length ≤ G) {vs : List Value} (hl : vs.length ≤ 1024) : Es G (splice es (4 + G) vs) gc gk TK pend := by
  have hs := h.size
  have hz : 4 + G + vs.length ≤ es.size := by omega
  refine ⟨by rw [splice_size]; exact hs, ?_, ?_, ?_, ?_, fun i x hx => ?_⟩
  · rw [splice_get _ hz, if_neg (by omega)]; exact h.err
  · rw [splice_get _ hz, if_neg (by omega)]; exact h.enc
  · rw [splice_get _ hz, if_neg (by omega)]; exact h.wr
  · rw [splice_get _ hz, if_neg (by omega)]; exact h.nb
  · have := get_lt hx
    rw [splice_get _ hz, if_neg (by omega)]; exact h.buf i x hx
theorem Es.err0 (h : Es G es gc gk TK pend) : Es G (es.setIfInBounds 0 .nilIface) gc gk TK pend := by
  have hs := h.size
  refine ⟨by simp; exact hs, ?_, ?_, ?_, ?_, fun i x hx => ?_⟩
  · rw [Array.getElem?_setIfInBounds, if_pos rfl, if_pos (by omega)]
  · rw [Array.getElem?_setIfInBounds, if_neg (by omega)]; exact h.enc
  · rw [Array.getElem?_setIfInBounds, if_neg (by omega)]; exact h.wr
  · rw [Array.getElem?_setIfInBounds, if_neg (by omega)]; exact h.nb
  · rw [Array.getElem?_setIfInBounds, if_neg (by omega)]; exact h.buf i x hx
theorem Es.clear (h : Es G es gc gk TK pend) : Es G (es.setIfInBounds (3 + G) (.int .i64 0)) gc gk TK [] := by
  have hs := h.size
  refine ⟨by simp; exact hs, ?_, ?_, ?_, ?_, fun i x hx => by simp at hx⟩
  · rw [Array.getElem?_setIfInBounds, if_neg (by omega)]; exact h.err
  · rw [Array.getElem?_setIfInBounds, if_neg (by omega)]; exact h.enc
  · rw [Array.getElem?_setIfInBounds, if_neg (by omega)]; exact h.wr
  · rw [Array.getElem?_setIfInBounds, if_pos rfl, if_pos (by omega)]; rfl
theorem Es.fill (h : Es G es gc gk TK pend) {p : List UInt8} (hp : p.length ≤ G) : Es G ((splice es 3 (bv p)).setIfInBounds (3 + G) (.int .i64 (p.length : Int))) gc gk TK p := by
  have hs := h.size
  have hz : 3 + (bv p).length ≤ es.size := by rw [bv_length]; omega
  have hb := bv_length p
  refine ⟨by simp; exact hs, ?_, ?_, ?_, ?_, fun i x hx => ?_⟩
  · rw [Array.getElem?_setIfInBounds, if_neg (by omega), splice_get _ hz, if_neg (by omega)]; exact h.err
  · rw [Array.getElem?_setIfInBounds, if_neg (by omega), splice_get _ hz, if_neg (by omega)]; exact h.enc
  · rw [Array.getElem?_setIfInBounds, if_neg (by omega), splice_get _ hz, if_neg (by omega)]; exact h.wr
  · rw [Array.getElem?_setIfInBounds, if_pos rfl, if_pos (by rw [splice_size]; omega)]
  · have := get_lt hx
    rw [Array.getElem?_setIfInBounds, if_neg (by omega), splice_get _ hz, if_pos (by omega)]
    have e : 3 + i - 3 = i := by omega
    rw [e]
    simp [bv, hx]
end

/-- a stream that has been given the bytes 'all': their whole groups are written, the rest waits -/
structure ES (G bits N : Nat) (T te tk TK u : TypeId) (w : World) (B ge gc gk : Nat) (cs : Array Value) (v : Value) (al : List UInt8) (pad : Int) (all : List UInt8) : Prop where
  bc : Bk w gc cs te (0, 0)
  ec : EncC N cs al pad
  be : ∃ es, Bk w ge es T (0, 0) ∧ Es G es gc gk TK (all.drop (all.length / G * G))
  bk : Bk w gk #[v] tk (0, 0)
  ow : Own w u v (bv (Pl.letters bits al (all.take (all.length / G * G))))
  ob : ∀ k, v.ownBlock = some k → B ≤ k ∧ k ≠ ge ∧ k ≠ gc ∧ k ≠ gk
  ne : ge ≠ gc ∧ ge ≠ gk ∧ gc ≠ gk ∧ B ≤ ge ∧ B ≤ gc ∧ B ≤ gk

theorem all_whole {G : Nat} (hG : 0 < G) {all q : List UInt8} (h : all.length % G = 0) (hq : q.length < G) :
    (all ++ q).take ((all ++ q).length / G * G) = all ∧ (all ++ q).drop ((all ++ q).length / G * G) = q := by
  have e : (all ++ q).length / G * G = all.length := by
    rw [List.length_append]
    have h1 := Nat.div_add_mod all.length G
    rw [h, Nat.add_zero] at h1
    have h2 : (all.length + q.length) / G = all.length / G := by
      rw [← h1, Nat.mul_add_div hG, Nat.div_eq_of_lt hq, Nat.mul_div_cancel_left _ hG]; omega
    rw [h2, Nat.mul_comm]; exact h1
  rw [e]
  simp

theorem padn_add {block k n : Nat} : Pl.padn block (block * k + n) = Pl.padn block n := by
  unfold Pl.padn
  rw [Nat.mul_add_mod]
theorem text_split {bits block k : Nat} (hb : 0 < bits) {al : List UInt8} {pad : Int} {a q : List UInt8} (h : 8 * a.length = bits * (block * k)) :
    Pl.text bits block al pad (a ++ q) = Pl.letters bits al a ++ Pl.text bits block al pad q := by
  unfold Pl.text
  rw [Pl.letters_append hb al a q h, List.length_append, Pl.nlet_add hb h]
  unfold Pl.pads
  rw [padn_add, List.append_assoc]

section
variable {P : Program} {n : Nat} {l : Env} {w : World} {ds : Option Tmp} {ty t : TypeId} {pos : String} {af : Array Edge} {gd : Option (Nat × Bool)} {x y : Operand} {v u r : Value}
theorem y_build0 (hr : (Instr.build t #[]).run P w = .ok r w) : Does P n l w ⟨ds, .build t #[], ty, pos, af, gd⟩ r w := fun f _ => by
  simp only [execOp, Array.map_empty, Sem.run_bind, hr, Result.andThen_ok, Sem.run_pure]
theorem y_build2 {i j : Nat} (hx : ev l x = some v) (hy : ev l y = some u) (hr : (Instr.build t #[(i, v), (j, u)]).run P w = .ok r w) : Does P n l w ⟨ds, .build t #[(i, x), (j, y)], ty, pos, af, gd⟩ r w := fun f hf => by
  have h : (#[(i, x), (j, y)].map fun (p : Nat × Operand) => (p.1, f.eval p.2)) = #[(i, v), (j, u)] := by simp [hf.eval hx, hf.eval hy]
  have h' : (#[(i, x), (j, y)].map fun | (a, b) => (a, f.eval b)) = #[(i, v), (j, u)] := h
  simp only [execOp, h', Sem.run_bind, hr, Result.andThen_ok, Sem.run_pure]
theorem y_mkf {fn : Fn} (hx : ev l x = some v) : Does P n l w ⟨ds, .makeFunc fn #[x] #[], ty, pos, af, gd⟩ (.func fn #[v] #[]) w := fun f hf => by
  simp [execOp, hf.eval hx, Instr.makeFunc]
def NilA (P : Program) (t : TypeId) (name : String) : Prop := ∀ a w, (nilAhead (P.types.size + Made.depth) t (.pointer (some a)) name).run P w = .ok (some false) w
theorem y_nilm {name : String} {a : Addr} (hx : ev l x = some (.func (.method name) #[.iface t (.pointer (some a))] #[])) (h : NilA P t name) :
    Does P n l w ⟨ds, .nilCheck x, ty, pos, af, gd⟩ (.func (.method name) #[.iface t (.pointer (some a))] #[]) w := fun f hf => by
  simp [execOp, hf.eval hx, program, Sem.run, h a w]
end
/-- the cells of a type's zero value -/
def zc (P : Program) (t : TypeId) : Array Value := (((P.info? t).bind (·.zero)).map (·.cells)).getD #[]

theorem Own.slice {w : World} {e : TypeId} {v : Value} {xs : List Value} (h : Own w e v xs) : ∃ A c, v = .slice A xs.length c ∧ Rd w A xs ∧ xs.length ≤ c ∧ ∀ a : Addr, A = some a → v.ownBlock = some a.block := by
  rcases h.form with ⟨rfl, rfl⟩ | ⟨g, cap, cs, rfl, hb, hl, _, hc⟩
  · exact ⟨none, 0, rfl, .inl rfl, Nat.le_refl _, fun a e => by cases e⟩
  · exact ⟨_, cap, rfl, .inr ⟨g, 0, rfl, fun i u hu => by rw [Nat.zero_add]; exact hb.at_ (hc i u hu)⟩, hl, fun a e => by injection e with e; rw [← e]; rfl⟩

/-- pieces: a slice of slices of bytes, all of it below block B -/
def Pcs (B : Nat) (w : World) (A : Option Addr) (ps : List (List UInt8)) : Prop :=
  ps = [] ∨ ∃ g o, A = some ⟨g, o, none⟩ ∧ g < B ∧ ∀ (i : Nat) (p : List UInt8), ps[i]? = some p → ∃ A' c', w.cell? ⟨g, o + i, none⟩ = some (.slice A' p.length c') ∧ p.length ≤ c' ∧ Rd w A' (bv p) ∧ ∀ a : Addr, A' = some a → p ≠ [] → a.block < B
theorem Pcs.kept {B : Nat} {w w' : World} {A : Option Addr} {ps : List (List UInt8)} (h : Pcs B w A ps) (hk : Kp (fun k => B ≤ k) w w') : Pcs B w' A ps := by
  rcases h with h | ⟨g, o, e, hg, h⟩
  · exact .inl h
  · refine .inr ⟨g, o, e, hg, fun i p hp => ?_⟩
    obtain ⟨A', c', h1, h2, h3, h4⟩ := h i p hp
    have h5 : Rd w' A' (bv p) := by
      by_cases hp0 : p = []
      · exact .inl (by rw [hp0]; rfl)
      · exact h3.kept hk (fun g' o' e' => by have := h4 _ e' hp0; simp only at this; omega)
    refine ⟨A', c', ?_, h2, h5, h4⟩
    rw [← h1]
    exact World.cell?_of_block (hk.block g (World.block_lt_of_cell? w _ h1) (by omega))
theorem Pcs.mono {B B' : Nat} {w : World} {A : Option Addr} {ps : List (List UInt8)} (h : Pcs B w A ps) (hB : B ≤ B') : Pcs B' w A ps := by
  rcases h with h | ⟨g, o, e, hg, h⟩
  · exact .inl h
  · refine .inr ⟨g, o, e, by omega, fun i p hp => ?_⟩
    obtain ⟨A', c', h1, h2, h3, h4⟩ := h i p hp
    exact ⟨A', c', h1, h2, h3, fun a e h0 => by have := h4 a e h0; omega⟩
theorem flat_take {ps : List (List UInt8)} {i : Nat} {p : List UInt8} (h : ps[i]? = some p) : (ps.take (i + 1)).flatten = (ps.take i).flatten ++ p := by
  rw [List.take_add_one, h]
  simp
theorem flat_take_le {ps : List (List UInt8)} {i : Nat} : (ps.take i).flatten.length ≤ ps.flatten.length := by
  conv => rhs; rw [← List.take_append_drop i ps]
  rw [List.flatten_append, List.length_append]
  omega

end Go.Proofs.Ytmbglgepomeilaa
