/-
  WHAT AN ENCODING HOLDS; LENGTHS OF TEXTS. No program in sight.
-/
import Derived.Test.YtmbglgepomeilaaOp2
import Derived.Test.YtmbglgepomeilaaPl
namespace Go.Proofs.Ytmbglgepomeilaa
open Go.RowKit

/-- the place of a byte in an alphabet; 255 if it has none -/
def dm (al : List UInt8) (b : Nat) : Nat := if al.findIdx (fun c => c.toNat == b) < al.length then al.findIdx (fun c => c.toNat == b) else 255
/-- an encoding of N letters: the letters, where each byte stands, the padding -/
structure EncD (N : Nat) (cs : Array Value) (al ald : List UInt8) (pad : Int) : Prop where
  len : al.length = N
  enc : ∀ (i : Nat) (c : UInt8), al[i]? = some c → cs[i]? = some (u8 c)
  dec : ∀ (b : Nat), b < 256 → cs[N + b]? = some (.int .u8 ((dm ald b : Nat) : Int))
  pad_ : cs[N + 256]? = some (.int .i32 pad)
abbrev EncC (N : Nat) (cs : Array Value) (al : List UInt8) (pad : Int) : Prop := EncD N cs al al pad

theorem EncD.letter {N : Nat} {cs : Array Value} {al ald : List UInt8} {pad : Int} (h : EncD N cs al ald pad) {i : Nat} (hi : i < N) : cs[i]? = some (u8 (Pl.letter al i)) := by
  have hl : i < al.length := by rw [h.len]; exact hi
  refine h.enc i _ ?_
  simp [Pl.letter, hl]

/-- the length of a text of base32 -/
def encLen32 (pad : Int) (n : Nat) : Nat := if pad = -1 then n / 5 * 8 + (n % 5 * 8 + 4) / 5 else (n + 4) / 5 * 8
def encLen64 (pad : Int) (n : Nat) : Nat := if pad = -1 then n / 3 * 4 + (n % 3 * 8 + 5) / 6 else (n + 2) / 3 * 4
theorem encLen32_le (pad : Int) (n : Nat) : encLen32 pad n ≤ (n + 4) / 5 * 8 := by unfold encLen32; split <;> omega
theorem encLen64_le (pad : Int) (n : Nat) : encLen64 pad n ≤ (n + 2) / 3 * 4 := by unfold encLen64; split <;> omega
theorem text_length32 {al : List UInt8} {pad : Int} (hp : -1 ≤ pad) (src : List UInt8) : (Pl.text 5 8 al pad src).length = encLen32 pad src.length := by
  unfold Pl.text encLen32 Pl.pads Pl.padn
  rw [List.length_append, Pl.letters_length]
  unfold Pl.nlet
  by_cases h : pad = -1
  · subst h; simp; omega
  · rw [if_pos (by omega), if_neg h]; simp; omega
theorem text_length64 {al : List UInt8} {pad : Int} (hp : -1 ≤ pad) (src : List UInt8) : (Pl.text 6 4 al pad src).length = encLen64 pad src.length := by
  unfold Pl.text encLen64 Pl.pads Pl.padn
  rw [List.length_append, Pl.letters_length]
  unfold Pl.nlet
  by_cases h : pad = -1
  · subst h; simp; omega
  · rw [if_pos (by omega), if_neg h]; simp; omega

/-- a group of base32, as the program reckons it -/
theorem group32 (al : List UInt8) (b0 b1 b2 b3 b4 : UInt8) {hi lo : Nat} (hh : hi = b0.toNat * 2 ^ 24 + b1.toNat * 2 ^ 16 + b2.toNat * 2 ^ 8 + b3.toNat) (hl : lo = hi * 2 ^ 8 % 4294967296 + b4.toNat) :
    bv (Pl.letters 5 al [b0, b1, b2, b3, b4]) = [u8 (Pl.letter al (hi / 2 ^ 27 % 2 ^ 5)), u8 (Pl.letter al (hi / 2 ^ 22 % 2 ^ 5)), u8 (Pl.letter al (hi / 2 ^ 17 % 2 ^ 5)), u8 (Pl.letter al (hi / 2 ^ 12 % 2 ^ 5)),
      u8 (Pl.letter al (hi / 2 ^ 7 % 2 ^ 5)), u8 (Pl.letter al (hi / 2 ^ 2 % 2 ^ 5)), u8 (Pl.letter al (lo / 2 ^ 5 % 2 ^ 5)), u8 (Pl.letter al (lo % 2 ^ 5))] := by
  have h0 := b0.toNat_lt; have h1 := b1.toNat_lt; have h2 := b2.toNat_lt; have h3 := b3.toNat_lt; have h4 := b4.toNat_lt
  subst hl; subst hh
  simp only [Pl.letters, Pl.nums32_5, bv, List.map_cons, List.map_nil, List.cons.injEq, and_true]
  refine ⟨?_, ?_, ?_, ?_, ?_, ?_, ?_, ?_⟩ <;> first | trivial | (refine congrArg (fun i => u8 (Pl.letter al i)) ?_; omega)
theorem letters_take32 (al : List UInt8) {src : List UInt8} {k : Nat} {b0 b1 b2 b3 b4 : UInt8} (h0 : src[5 * k]? = some b0) (h1 : src[5 * k + 1]? = some b1) (h2 : src[5 * k + 2]? = some b2) (h3 : src[5 * k + 3]? = some b3)
    (h4 : src[5 * k + 4]? = some b4) : Pl.letters 5 al (src.take (5 * (k + 1))) = Pl.letters 5 al (src.take (5 * k)) ++ Pl.letters 5 al [b0, b1, b2, b3, b4] := by
  have hlt : 5 * k + 4 < src.length := by
    rcases Nat.lt_or_ge (5 * k + 4) src.length with h | h
    · exact h
    · simp [List.getElem?_eq_none h] at h4
  have e : src.take (5 * (k + 1)) = src.take (5 * k) ++ [b0, b1, b2, b3, b4] := by
    rw [show 5 * (k + 1) = 5 * k + 1 + 1 + 1 + 1 + 1 by omega]
    rw [List.take_add_one, List.take_add_one, List.take_add_one, List.take_add_one, List.take_add_one, h0, h1, h2, h3, h4]
    simp
  rw [e]
  exact Pl.letters_append (k := 8 * k) (by omega) al _ _ (by rw [List.length_take]; omega)

/-- the tails of base32, as the program reckons them -/
theorem tail32_4 (al : List UInt8) (b0 b1 b2 b3 : UInt8) :
    bv (Pl.letters 5 al [b0, b1, b2, b3]) = [u8 (Pl.letter al ((b0.toNat * 2 ^ 24 + (b1.toNat * 2 ^ 16 + (b2.toNat * 2 ^ 8 + b3.toNat))) / 2 ^ 27 % 2 ^ 5)), u8 (Pl.letter al ((b0.toNat * 2 ^ 24 + (b1.toNat * 2 ^ 16 + (b2.toNat * 2 ^ 8 + b3.toNat))) / 2 ^ 22 % 2 ^ 5)),
      u8 (Pl.letter al ((b1.toNat * 2 ^ 16 + (b2.toNat * 2 ^ 8 + b3.toNat)) / 2 ^ 17 % 2 ^ 5)), u8 (Pl.letter al ((b1.toNat * 2 ^ 16 + (b2.toNat * 2 ^ 8 + b3.toNat)) / 2 ^ 12 % 2 ^ 5)),
      u8 (Pl.letter al ((b2.toNat * 2 ^ 8 + b3.toNat) / 2 ^ 7 % 2 ^ 5)), u8 (Pl.letter al (b3.toNat / 2 ^ 2 % 2 ^ 5)), u8 (Pl.letter al (b3.toNat * 2 ^ 3 % 2 ^ 5))] := by
  have h0 := b0.toNat_lt; have h1 := b1.toNat_lt; have h2 := b2.toNat_lt; have h3 := b3.toNat_lt
  simp only [Pl.letters, Pl.nums32_4, bv, List.map_cons, List.map_nil, List.cons.injEq, and_true]
  refine ⟨?_, ?_, ?_, ?_, ?_, ?_, ?_⟩ <;> first | trivial | (refine congrArg (fun i => u8 (Pl.letter al i)) ?_; omega)
theorem tail32_3 (al : List UInt8) (b0 b1 b2 : UInt8) :
    bv (Pl.letters 5 al [b0, b1, b2]) = [u8 (Pl.letter al ((b0.toNat * 2 ^ 24 + (b1.toNat * 2 ^ 16 + (b2.toNat * 2 ^ 8 + 0))) / 2 ^ 27 % 2 ^ 5)), u8 (Pl.letter al ((b0.toNat * 2 ^ 24 + (b1.toNat * 2 ^ 16 + (b2.toNat * 2 ^ 8 + 0))) / 2 ^ 22 % 2 ^ 5)),
      u8 (Pl.letter al ((b1.toNat * 2 ^ 16 + (b2.toNat * 2 ^ 8 + 0)) / 2 ^ 17 % 2 ^ 5)), u8 (Pl.letter al ((b1.toNat * 2 ^ 16 + (b2.toNat * 2 ^ 8 + 0)) / 2 ^ 12 % 2 ^ 5)),
      u8 (Pl.letter al ((b2.toNat * 2 ^ 8 + 0) / 2 ^ 7 % 2 ^ 5))] := by
  have h0 := b0.toNat_lt; have h1 := b1.toNat_lt; have h2 := b2.toNat_lt
  simp only [Pl.letters, Pl.nums32_3, bv, List.map_cons, List.map_nil, List.cons.injEq, and_true]
  refine ⟨?_, ?_, ?_, ?_, ?_⟩ <;> first | trivial | (refine congrArg (fun i => u8 (Pl.letter al i)) ?_; omega)
theorem tail32_2 (al : List UInt8) (b0 b1 : UInt8) :
    bv (Pl.letters 5 al [b0, b1]) = [u8 (Pl.letter al ((b0.toNat * 2 ^ 24 + (b1.toNat * 2 ^ 16 + 0)) / 2 ^ 27 % 2 ^ 5)), u8 (Pl.letter al ((b0.toNat * 2 ^ 24 + (b1.toNat * 2 ^ 16 + 0)) / 2 ^ 22 % 2 ^ 5)),
      u8 (Pl.letter al ((b1.toNat * 2 ^ 16 + 0) / 2 ^ 17 % 2 ^ 5)), u8 (Pl.letter al ((b1.toNat * 2 ^ 16 + 0) / 2 ^ 12 % 2 ^ 5))] := by
  have h0 := b0.toNat_lt; have h1 := b1.toNat_lt
  simp only [Pl.letters, Pl.nums32_2, bv, List.map_cons, List.map_nil, List.cons.injEq, and_true]
  refine ⟨?_, ?_, ?_, ?_⟩ <;> first | trivial | (refine congrArg (fun i => u8 (Pl.letter al i)) ?_; omega)
theorem tail32_1 (al : List UInt8) (b0 : UInt8) :
    bv (Pl.letters 5 al [b0]) = [u8 (Pl.letter al ((b0.toNat * 2 ^ 24 + 0) / 2 ^ 27 % 2 ^ 5)), u8 (Pl.letter al ((b0.toNat * 2 ^ 24 + 0) / 2 ^ 22 % 2 ^ 5))] := by
  have h0 := b0.toNat_lt
  simp only [Pl.letters, Pl.nums32_1, bv, List.map_cons, List.map_nil, List.cons.injEq, and_true]
  refine ⟨?_, ?_⟩ <;> first | trivial | (refine congrArg (fun i => u8 (Pl.letter al i)) ?_; omega)
/-- a padding as a byte -/
theorem pad_u8 {pad : Int} (h0 : 0 ≤ pad) (h1 : pad ≤ 255) : IntKind.u8.wrap pad = (((UInt8.ofNat pad.toNat).toNat : Nat) : Int) := by
  rw [IntKind.wrap_u8']
  simp
  omega
theorem pad_u8n {pad : Int} (h0 : 0 ≤ pad) (h1 : pad ≤ 255) : IntKind.u8.wrap pad = ((pad.toNat : Nat) : Int) := by
  rw [IntKind.wrap_u8']
  omega
theorem wi32 {a : Int} (h0 : -2147483648 ≤ a) (h1 : a ≤ 2147483647) : IntKind.i32.wrap a = a := by
  simp only [IntKind.wrap, IntKind.bits, IntKind.signed]
  simp
  omega
/-- cells that are set from the last one on -/
theorem rev2 {cs : Array Value} {o : Nat} {v0 v1 : Value} : (cs.setIfInBounds (o + 1) v1).setIfInBounds o v0 = splice cs o [v0, v1] := by
  simp only [splice]
  exact Array.setIfInBounds_comm _ _ (by omega)
theorem splice_set {cs : Array Value} {o i : Nat} {vs : List Value} {v : Value} (h : i < o ∨ o + vs.length ≤ i) : splice (cs.setIfInBounds i v) o vs = (splice cs o vs).setIfInBounds i v := by
  induction vs generalizing cs o with
  | nil => rfl
  | cons u r ih =>
    simp only [splice, List.length_cons] at h ⊢
    rw [Array.setIfInBounds_comm _ _ (by omega : i ≠ o), ih (by omega)]
theorem splice_snoc {cs : Array Value} {o : Nat} {vs : List Value} {v : Value} : splice (cs.setIfInBounds (o + vs.length) v) o vs = splice cs o (vs ++ [v]) := by
  rw [splice_set (by omega), splice_append]
  rfl

theorem EncD.size {N : Nat} {cs : Array Value} {al ald : List UInt8} {pad : Int} (h : EncD N cs al ald pad) : N + 257 ≤ cs.size := by
  rcases Nat.lt_or_ge (N + 256) cs.size with h1 | h1
  · omega
  · have := h.pad_; simp [Array.getElem?_eq_none h1] at this
theorem EncD.letter0 {N : Nat} {cs : Array Value} {al ald : List UInt8} {pad : Int} (h : EncD N cs al ald pad) {i : Nat} (hi : i < N) : cs[0 + 0 + i]? = some (u8 (Pl.letter al i)) := by
  rw [show 0 + 0 + i = i by omega]; exact h.letter hi
theorem bv_append (a b : List UInt8) : bv (a ++ b) = bv a ++ bv b := by simp [bv]
theorem text_of_whole {bits block : Nat} {al : List UInt8} {pad : Int} {src : List UInt8} (h : Pl.nlet bits src.length % block = 0) : Pl.text bits block al pad src = Pl.letters bits al src := by
  unfold Pl.text Pl.pads Pl.padn
  rw [h]
  simp
theorem text_nopad {bits block : Nat} {al : List UInt8} {src : List UInt8} : Pl.text bits block al (-1) src = Pl.letters bits al src := by
  unfold Pl.text Pl.pads
  simp
theorem text_pad {bits block : Nat} {al : List UInt8} {pad : Int} {src : List UInt8} (h : 0 ≤ pad) {j : Nat} (hj : Pl.padn block (Pl.nlet bits src.length) = j) :
    bv (Pl.text bits block al pad src) = bv (Pl.letters bits al src) ++ List.replicate j (u8 (UInt8.ofNat pad.toNat)) := by
  unfold Pl.text Pl.pads
  rw [if_pos h, bv_append, hj]
  simp [bv]
theorem rev4 {cs : Array Value} {o : Nat} {v0 v1 v2 v3 : Value} : (((cs.setIfInBounds (o + 3) v3).setIfInBounds (o + 2) v2).setIfInBounds (o + 1) v1).setIfInBounds o v0 = splice cs o [v0, v1, v2, v3] := by
  rw [show [v0, v1, v2, v3] = [v0, v1, v2] ++ [v3] from rfl, ← splice_snoc, show [v0, v1, v2] = [v0, v1] ++ [v2] from rfl, ← splice_snoc, ← rev2]
  rfl
theorem rev5 {cs : Array Value} {o : Nat} {v0 v1 v2 v3 v4 : Value} : ((((cs.setIfInBounds (o + 4) v4).setIfInBounds (o + 3) v3).setIfInBounds (o + 2) v2).setIfInBounds (o + 1) v1).setIfInBounds o v0 = splice cs o [v0, v1, v2, v3, v4] := by
  rw [show [v0, v1, v2, v3, v4] = [v0, v1, v2, v3] ++ [v4] from rfl, ← splice_snoc, ← rev4]
  rfl
theorem rev7 {cs : Array Value} {o : Nat} {v0 v1 v2 v3 v4 v5 v6 : Value} : ((((((cs.setIfInBounds (o + 6) v6).setIfInBounds (o + 5) v5).setIfInBounds (o + 4) v4).setIfInBounds (o + 3) v3).setIfInBounds (o + 2) v2).setIfInBounds (o + 1) v1).setIfInBounds o v0 = splice cs o [v0, v1, v2, v3, v4, v5, v6] := by
  rw [show [v0, v1, v2, v3, v4, v5, v6] = [v0, v1, v2, v3, v4, v5] ++ [v6] from rfl, ← splice_snoc, show [v0, v1, v2, v3, v4, v5] = [v0, v1, v2, v3, v4] ++ [v5] from rfl, ← splice_snoc, ← rev5]
  rfl
theorem letters_len32 {al src : List UInt8} {k : Nat} (h : src.length = 5 * k) : (Pl.letters 5 al src).length = 8 * k := by
  rw [Pl.letters_length, h, Pl.nlet_whole (k := 8 * k) (by omega) (by omega)]
theorem letters_tail {bits k : Nat} (hb : 0 < bits) (al : List UInt8) {src : List UInt8} {m : Nat} (hm : m ≤ src.length) (h : 8 * m = bits * k) : Pl.letters bits al src = Pl.letters bits al (src.take m) ++ Pl.letters bits al (src.drop m) := by
  have := Pl.letters_append (k := k) hb al (src.take m) (src.drop m) (by rw [List.length_take, Nat.min_eq_left hm]; exact h)
  rwa [List.take_append_drop] at this
theorem drop1 {src : List UInt8} {m : Nat} {b0 : UInt8} (hl : src.length = m + 1) (h0 : src[m]? = some b0) : src.drop m = [b0] := by
  refine List.ext_getElem? fun i => ?_
  rw [List.getElem?_drop]
  match i with
  | 0 => simpa using h0
  | i + 1 => rw [List.getElem?_eq_none (by omega)]; simp
theorem drop2 {src : List UInt8} {m : Nat} {b0 b1 : UInt8} (hl : src.length = m + 2) (h0 : src[m]? = some b0) (h1 : src[m + 1]? = some b1) : src.drop m = [b0, b1] := by
  refine List.ext_getElem? fun i => ?_
  rw [List.getElem?_drop]
  match i with
  | 0 => simpa using h0
  | 1 => simpa using h1
  | i + 2 => rw [List.getElem?_eq_none (by omega)]; simp
theorem drop3 {src : List UInt8} {m : Nat} {b0 b1 b2 : UInt8} (hl : src.length = m + 3) (h0 : src[m]? = some b0) (h1 : src[m + 1]? = some b1) (h2 : src[m + 2]? = some b2) : src.drop m = [b0, b1, b2] := by
  refine List.ext_getElem? fun i => ?_
  rw [List.getElem?_drop]
  match i with
  | 0 => simpa using h0
  | 1 => simpa using h1
  | 2 => simpa using h2
  | i + 3 => rw [List.getElem?_eq_none (by omega)]; simp
theorem drop4 {src : List UInt8} {m : Nat} {b0 b1 b2 b3 : UInt8} (hl : src.length = m + 4) (h0 : src[m]? = some b0) (h1 : src[m + 1]? = some b1) (h2 : src[m + 2]? = some b2) (h3 : src[m + 3]? = some b3) : src.drop m = [b0, b1, b2, b3] := by
  refine List.ext_getElem? fun i => ?_
  rw [List.getElem?_drop]
  match i with
  | 0 => simpa using h0
  | 1 => simpa using h1
  | 2 => simpa using h2
  | 3 => simpa using h3
  | i + 4 => rw [List.getElem?_eq_none (by omega)]; simp
theorem cut_addr {g o i j c : Nat} (hj : j = o + i) (h : ¬ c = i) : (if c = i then some (⟨g, o, none⟩ : Addr) else (some ⟨g, o, none⟩ : Option Addr).map (·.add i)) = some ⟨g, j, none⟩ := by
  rw [if_neg h, hj]
  simp [Addr.add_lit]

/-- an alphabet and a padding that may be used -/
structure Fit (N : Nat) (al : List UInt8) (pad : Int) : Prop where
  len : al.length = N
  lo : -1 ≤ pad
  hi : pad ≤ 255
  nl : pad ≠ 10 ∧ pad ≠ 13
  no : ∀ (i : Nat) (c : UInt8), al[i]? = some c → c.toNat ≠ 10 ∧ c.toNat ≠ 13 ∧ c.toNat ≠ 61 ∧ (c.toNat : Int) ≠ pad
  nodup : ∀ (i j : Nat) (a b : UInt8), i < j → al[i]? = some a → al[j]? = some b → a ≠ b
theorem findIdx_none {al : List UInt8} {b : Nat} (h : ∀ x ∈ al, x.toNat ≠ b) : al.findIdx (fun c => c.toNat == b) = al.length := by
  rw [List.findIdx_eq_length]
  intro x hx
  simpa using h x hx
theorem dm_none {al : List UInt8} {b : Nat} (h : ∀ x ∈ al, x.toNat ≠ b) : dm al b = 255 := by
  unfold dm
  rw [findIdx_none h, if_neg (by omega)]
theorem dm_snoc {l : List UInt8} {c : UInt8} (h : ∀ x ∈ l, x ≠ c) (b : Nat) : dm (l ++ [c]) b = if c.toNat = b then l.length else dm l b := by
  unfold dm
  rw [List.findIdx_append, List.length_append, List.length_singleton]
  by_cases hc : c.toNat = b
  · have hn : l.findIdx (fun c => c.toNat == b) = l.length := findIdx_none fun x hx e => h x hx (UInt8.toNat_inj.1 (e.trans hc.symm))
    simp [hn, List.findIdx_cons, hc]
  · rw [if_neg hc]
    by_cases hl : l.findIdx (fun c => c.toNat == b) < l.length
    · simp only [if_pos hl]
      rw [if_pos (by omega)]
    · have hb : (c.toNat == b) = false := by simpa using hc
      have hle := List.findIdx_le_length (xs := l) (p := fun c => c.toNat == b)
      simp only [if_neg hl, List.findIdx_cons, hb, List.findIdx_nil, cond_false]
      rw [if_neg (by omega)]
theorem mem_take_get {l : List UInt8} {k : Nat} {x : UInt8} (h : x ∈ l.take k) : ∃ j, j < k ∧ l[j]? = some x := by
  obtain ⟨j, hj, e⟩ := List.mem_iff_getElem.1 h
  refine ⟨j, by rw [List.length_take] at hj; omega, ?_⟩
  rw [List.getElem_take] at e
  rw [← e]
  exact List.getElem?_eq_getElem _
theorem Fit.fresh {N : Nat} {al : List UInt8} {pad : Int} (h : Fit N al pad) {i : Nat} {c : UInt8} (hc : al[i]? = some c) : ∀ x ∈ al.take i, x ≠ c := by
  intro x hx
  obtain ⟨j, hj, e⟩ := mem_take_get hx
  exact h.nodup j i x c hj e hc
theorem Fit.dm_fresh {N : Nat} {al : List UInt8} {pad : Int} (h : Fit N al pad) {i : Nat} {c : UInt8} (hc : al[i]? = some c) : dm (al.take i) c.toNat = 255 :=
  dm_none fun x hx e => h.fresh hc x hx (UInt8.toNat_inj.1 e)
theorem Fit.dm_pad {N : Nat} {al : List UInt8} {pad : Int} (h : Fit N al pad) (h0 : 0 ≤ pad) : dm al pad.toNat = 255 :=
  dm_none fun x hx e => by
    obtain ⟨i, hi, e'⟩ := List.mem_iff_getElem.1 hx
    have := (h.no i x (by rw [← e']; exact List.getElem?_eq_getElem _)).2.2.2
    omega
theorem Fit.dm_at {N : Nat} {al : List UInt8} {pad : Int} (h : Fit N al pad) {i : Nat} {c : UInt8} (hc : al[i]? = some c) : dm al c.toNat = i := by
  have hlt : i < al.length := by
    rcases Nat.lt_or_ge i al.length with h1 | h1
    · exact h1
    · simp [List.getElem?_eq_none h1] at hc
  have hx : al.findIdx (fun x => x.toNat == c.toNat) = i := by
    rw [List.findIdx_eq hlt]
    refine ⟨?_, fun j hj => ?_⟩
    · rw [List.getElem?_eq_getElem hlt] at hc
      injection hc with hc
      simp [hc]
    · have := h.nodup j i al[j] c hj (List.getElem?_eq_getElem _) hc
      simpa using fun e => this (UInt8.toNat_inj.1 e)
  unfold dm
  rw [hx, if_pos hlt]
/-- one letter more in the table -/
theorem EncD.step {N : Nat} {cs : Array Value} {al : List UInt8} {pad p : Int} {i : Nat} {c : UInt8} (h : EncD N cs al (al.take i) p) (hf : Fit N al pad) (hc : al[i]? = some c) :
    EncD N (cs.setIfInBounds (N + c.toNat) (.int .u8 (i : Int))) al (al.take (i + 1)) p := by
  have hsz := h.size
  have hlt := c.toNat_lt
  have hil : i < al.length := by
    rcases Nat.lt_or_ge i al.length with h1 | h1
    · exact h1
    · simp [List.getElem?_eq_none h1] at hc
  have et : al.take (i + 1) = al.take i ++ [c] := by rw [List.take_add_one, hc]; rfl
  have hl := h.len
  refine ⟨h.len, fun j x hx => ?_, fun b hb => ?_, ?_⟩
  · have hj : j < al.length := by
      rcases Nat.lt_or_ge j al.length with h1 | h1
      · exact h1
      · simp [List.getElem?_eq_none h1] at hx
    rw [Array.getElem?_setIfInBounds, if_neg (by omega)]
    exact h.enc j x hx
  · rw [Array.getElem?_setIfInBounds, et, dm_snoc (hf.fresh hc)]
    by_cases e : c.toNat = b
    · rw [if_pos (by omega), if_pos e, if_pos (by omega), List.length_take, Nat.min_eq_left (by omega)]
    · rw [if_neg (by omega), if_neg e]
      exact h.dec b hb
  · rw [Array.getElem?_setIfInBounds, if_neg (by omega)]
    exact h.pad_
theorem EncD.padded {N : Nat} {cs : Array Value} {al ald : List UInt8} {p pad : Int} (h : EncD N cs al ald p) : EncD N (cs.setIfInBounds (N + 256) (.int .i32 pad)) al ald pad := by
  have hsz := h.size
  have hl := h.len
  refine ⟨h.len, fun j x hx => ?_, fun b hb => ?_, ?_⟩
  · have hj : j < al.length := by
      rcases Nat.lt_or_ge j al.length with h1 | h1
      · exact h1
      · simp [List.getElem?_eq_none h1] at hx
    rw [Array.getElem?_setIfInBounds, if_neg (by omega)]
    exact h.enc j x hx
  · rw [Array.getElem?_setIfInBounds, if_neg (by omega)]
    exact h.dec b hb
  · rw [Array.getElem?_setIfInBounds, if_pos rfl, if_pos (by omega)]
/-- the table as NewEncoding lays it first -/
theorem encD_first' {N : Nat} {z : Array Value} {al r : List UInt8} {p : Int} (hl : al.length = N) (hz : N + 257 ≤ z.size) (hr : r.length = 256) (hr' : ∀ b : Nat, b < 256 → r[b]? = some 255) :
    EncD N (splice (splice (z.setIfInBounds (N + 256) (.int .i32 p)) 0 (bv al)) N (bv r)) al (al.take 0) p := by
  have h1 : (bv r).length = 256 := by rw [bv_length, hr]
  have h2 : (bv al).length = N := by rw [bv_length, hl]
  have s1 : (splice (z.setIfInBounds (N + 256) (.int .i32 p)) 0 (bv al)).size = z.size := by rw [splice_size]; simp
  have s2 : (z.setIfInBounds (N + 256) (.int .i32 p)).size = z.size := by simp
  refine ⟨hl, fun j x hx => ?_, fun b hb => ?_, ?_⟩
  · have hj : j < al.length := by
      rcases Nat.lt_or_ge j al.length with h1 | h1
      · exact h1
      · simp [List.getElem?_eq_none h1] at hx
    rw [splice_get _ (by omega), if_neg (by omega), splice_get _ (by omega), if_pos (by omega)]
    simp [bv, hx]
  · rw [splice_get _ (by omega), if_pos (by omega)]
    have : N + b - N = b := by omega
    rw [this]
    simp [bv, u8, hr' b hb, dm]
  · rw [splice_get _ (by omega), if_neg (by omega), splice_get _ (by omega), if_neg (by omega), Array.getElem?_setIfInBounds, if_pos rfl, if_pos (by omega)]
theorem encD_first {N : Nat} {z : Array Value} {al : List UInt8} {p : Int} (hl : al.length = N) (hz : N + 257 ≤ z.size) :
    EncD N (splice (splice (z.setIfInBounds (N + 256) (.int .i32 p)) 0 (bv al)) N (bv (List.replicate 256 255))) al (al.take 0) p :=
  encD_first' hl hz List.length_replicate fun b hb => by rw [List.getElem?_replicate, if_pos hb]

theorem bs_spliced {w : World} {g o : Nat} {cs : Array Value} {t : TypeId} {fz : Nat × Nat} {s : List UInt8} (h : Bk w g (splice cs o (bv s)) t fz) (ho : o + s.length ≤ cs.size) : Bs w g o s := by
  intro j x hx
  have hj : j < s.length := by
    rcases Nat.lt_or_ge j s.length with h1 | h1
    · exact h1
    · simp [List.getElem?_eq_none h1] at hx
  rw [h.cell, splice_get _ (by rw [bv_length]; exact ho), if_pos (by rw [bv_length]; omega)]
  have e : o + j - o = j := by omega
  rw [e]
  simp [bv, hx]

/-- the first letters -/
def lets (bits : Nat) (al src : List UInt8) (i : Nat) : List UInt8 := (List.range i).map fun j => Pl.letter al (Pl.numF bits (Pl.bit src) (bits * j))
@[simp] theorem lets_length (bits : Nat) (al src : List UInt8) (i : Nat) : (lets bits al src i).length = i := by simp [lets]
theorem lets_succ (bits : Nat) (al src : List UInt8) (i : Nat) : lets bits al src (i + 1) = lets bits al src i ++ [Pl.letter al (Pl.numF bits (Pl.bit src) (bits * i))] := by simp [lets, List.range_succ]
theorem lets_all (bits : Nat) (al src : List UInt8) : lets bits al src (Pl.nlet bits src.length) = Pl.letters bits al src := by simp [lets, Pl.letters, Pl.nums]
theorem bit_out {src : List UInt8} {p : Nat} (h : src.length ≤ p / 8) : Pl.bit src p = 0 := by
  unfold Pl.bit Pl.bitK
  rw [List.getElem?_eq_none (by rw [Pl.nats_length]; exact h)]
  simp
theorem bit_in {src : List UInt8} {p : Nat} {b : UInt8} (h : src[p / 8]? = some b) : Pl.bit src p = b.toNat / 2 ^ (7 - p % 8) % 2 := by
  unfold Pl.bit Pl.bitK Pl.nats
  simp [h]
theorem div_step (b j : Nat) : b / 2 ^ (j + 1) = b / 2 ^ j / 2 := by rw [Nat.pow_succ, Nat.div_div_eq_div_mul]

end Go.Proofs.Ytmbglgepomeilaa
