/-
  PLAIN: bits, numbers of letters, texts. No program in sight.
-/
namespace Go.Proofs.Ytmbglgepomeilaa.Pl

/-- the number of b bits from p on of a stream of bits -/
def numF : Nat → (Nat → Nat) → Nat → Nat
  | 0, _, _ => 0
  | b + 1, f, p => 2 * numF b f p + f (p + b)

/-- bit p of a row of k-bit numbers; 0 behind their end -/
def bitK (k : Nat) (xs : List Nat) (p : Nat) : Nat := (xs[p / k]?).getD 0 / 2 ^ (k - 1 - p % k) % 2

theorem bitK_lt (k : Nat) (xs : List Nat) (p : Nat) : bitK k xs p < 2 := by unfold bitK; omega

theorem numF_congr {b : Nat} {f g : Nat → Nat} {p q : Nat} (h : ∀ j, j < b → f (p + j) = g (q + j)) : numF b f p = numF b g q := by
  induction b with
  | zero => rfl
  | succ b ih =>
    simp only [numF]
    rw [ih fun j hj => h j (by omega), h b (by omega)]

theorem numF_lt {b : Nat} {f : Nat → Nat} {p : Nat} (h : ∀ j, f j < 2) : numF b f p < 2 ^ b := by
  induction b with
  | zero => simp [numF]
  | succ b ih =>
    have := h (p + b)
    simp only [numF, Nat.pow_succ]
    omega

/-- the bits of a number of bits -/
theorem numF_bit {b : Nat} {f : Nat → Nat} {p j : Nat} (h : ∀ j, f j < 2) (hj : j < b) : numF b f p / 2 ^ (b - 1 - j) % 2 = f (p + j) := by
  induction b with
  | zero => omega
  | succ b ih =>
    have hb := h (p + b)
    simp only [numF]
    by_cases hjb : j = b
    · subst hjb
      simp
      omega
    · have e : b + 1 - 1 - j = (b - 1 - j) + 1 := by omega
      rw [e, Nat.pow_succ, Nat.mul_comm (2 ^ (b - 1 - j)) 2, ← Nat.div_div_eq_div_mul]
      have : (2 * numF b f p + f (p + b)) / 2 = numF b f p := by omega
      rw [this, ih (by omega)]

/-- a number is the number of its bits -/
theorem numF_self {b x : Nat} {f : Nat → Nat} {p : Nat} (hx : x < 2 ^ b) (h : ∀ j, j < b → f (p + j) = x / 2 ^ (b - 1 - j) % 2) : numF b f p = x := by
  induction b generalizing x with
  | zero => simp at hx; simp [numF, hx]
  | succ b ih =>
    simp only [numF]
    rw [h b (by omega), ih (x := x / 2) (by rw [Nat.pow_succ] at hx; omega)]
    · simp; omega
    · intro j hj
      rw [h j (by omega)]
      have e : b + 1 - 1 - j = (b - 1 - j) + 1 := by omega
      rw [e, Nat.pow_succ, Nat.mul_comm (2 ^ (b - 1 - j)) 2, ← Nat.div_div_eq_div_mul]

theorem numF_ext {b : Nat} {f g : Nat → Nat} {p q : Nat} (hf : ∀ j, f j < 2) (hg : ∀ j, g j < 2) (h : numF b f p = numF b g q) : ∀ j, j < b → f (p + j) = g (q + j) := by
  intro j hj
  rw [← numF_bit (p := p) hf hj, ← numF_bit (p := q) hg hj, h]

/-- bytes as numbers -/
def nats (src : List UInt8) : List Nat := src.map UInt8.toNat
@[simp] theorem nats_length (src : List UInt8) : (nats src).length = src.length := by simp [nats]
theorem nats_append (a b : List UInt8) : nats (a ++ b) = nats a ++ nats b := by simp [nats]
theorem nats_lt (src : List UInt8) : ∀ x ∈ nats src, x < 256 := by
  intro x hx
  obtain ⟨b, _, rfl⟩ := List.mem_map.1 hx
  exact b.toNat_lt
theorem nats_inj {a b : List UInt8} (h : nats a = nats b) : a = b := by
  induction a generalizing b with
  | nil => cases b <;> simp_all [nats]
  | cons x a ih =>
    cases b with
    | nil => simp [nats] at h
    | cons y b =>
      simp only [nats, List.map_cons, List.cons.injEq] at h
      rw [UInt8.toNat_inj.1 h.1, ih h.2]

/-- the bits of bytes -/
def bit (src : List UInt8) (p : Nat) : Nat := bitK 8 (nats src) p
theorem bit_lt (src : List UInt8) (p : Nat) : bit src p < 2 := bitK_lt _ _ _

/-- how many letters of so many bits some bytes have -/
def nlet (bits n : Nat) : Nat := (8 * n + (bits - 1)) / bits

/-- the numbers of the letters -/
def nums (bits : Nat) (src : List UInt8) : List Nat := (List.range (nlet bits src.length)).map fun i => numF bits (bit src) (bits * i)
@[simp] theorem nums_length (bits : Nat) (src : List UInt8) : (nums bits src).length = nlet bits src.length := by simp [nums]

def letter (al : List UInt8) (n : Nat) : UInt8 := (al[n]?).getD 0
def letters (bits : Nat) (al : List UInt8) (src : List UInt8) : List UInt8 := (nums bits src).map (letter al)
@[simp] theorem letters_length (bits : Nat) (al src : List UInt8) : (letters bits al src).length = nlet bits src.length := by simp [letters]

/-- how many paddings fill up the last block -/
def padn (block n : Nat) : Nat := (block - n % block) % block
def pads (block : Nat) (pad : Int) (n : Nat) : List UInt8 := if 0 ≤ pad then List.replicate (padn block n) (UInt8.ofNat pad.toNat) else []
def text (bits block : Nat) (al : List UInt8) (pad : Int) (src : List UInt8) : List UInt8 := letters bits al src ++ pads block pad (nlet bits src.length)

/-- whole groups -/
theorem bitK_append_left {k : Nat} {xs ys : List Nat} {p : Nat} (h : p < k * xs.length) : bitK k (xs ++ ys) p = bitK k xs p := by
  unfold bitK
  rw [List.getElem?_append_left (Nat.div_lt_of_lt_mul h)]

theorem bitK_append_right {k : Nat} (hk : 0 < k) {xs ys : List Nat} {p : Nat} : bitK k (xs ++ ys) (k * xs.length + p) = bitK k ys p := by
  unfold bitK
  have e : (k * xs.length + p) / k = xs.length + p / k := by rw [Nat.mul_add_div hk]
  rw [e, List.getElem?_append_right (Nat.le_add_right _ _), Nat.mul_add_mod]
  simp

theorem nlet_add {bits n m k : Nat} (hb : 0 < bits) (h : 8 * n = bits * k) : nlet bits (n + m) = k + nlet bits m := by
  unfold nlet
  have : 8 * (n + m) + (bits - 1) = bits * k + (8 * m + (bits - 1)) := by omega
  rw [this, Nat.mul_add_div hb]

theorem nlet_whole {bits n k : Nat} (hb : 0 < bits) (h : 8 * n = bits * k) : nlet bits n = k := by
  have := nlet_add (m := 0) hb h
  simp only [Nat.add_zero] at this
  rw [this]
  unfold nlet
  simp only [Nat.mul_zero, Nat.zero_add]
  rw [Nat.div_eq_of_lt (by omega)]; rfl

theorem nums_append {bits k : Nat} (hb : 0 < bits) (g r : List UInt8) (h : 8 * g.length = bits * k) : nums bits (g ++ r) = nums bits g ++ nums bits r := by
  unfold nums
  have e2 := nlet_whole hb h
  rw [List.length_append, nlet_add hb h, e2, List.range_add, List.map_append, List.map_map]
  congr 1
  · refine List.map_congr_left fun i hi => numF_congr fun j hj => ?_
    have hi := List.mem_range.1 hi
    unfold bit
    rw [nats_append, bitK_append_left]
    rw [nats_length, h]
    calc bits * i + j < bits * i + bits := by omega
      _ = bits * (i + 1) := by rw [Nat.mul_add]; simp
      _ ≤ bits * k := Nat.mul_le_mul_left _ hi
  · refine List.map_congr_left fun i _ => numF_congr fun j hj => ?_
    simp only
    have := bitK_append_right (k := 8) (by omega) (xs := nats g) (ys := nats r) (p := bits * i + j)
    unfold bit
    rw [nats_append, ← this, nats_length, h]
    congr 1
    rw [Nat.mul_add]; omega

theorem letters_append {bits k : Nat} (hb : 0 < bits) (al g r : List UInt8) (h : 8 * g.length = bits * k) : letters bits al (g ++ r) = letters bits al g ++ letters bits al r := by
  unfold letters
  rw [nums_append hb g r h, List.map_append]

/-- the groups of base32, written out -/
theorem nums32_5 (a b c d e : UInt8) : nums 5 [a, b, c, d, e] = [a.toNat / 8, a.toNat % 8 * 4 + b.toNat / 64, b.toNat / 2 % 32, b.toNat % 2 * 16 + c.toNat / 16,
    c.toNat % 16 * 2 + d.toNat / 128, d.toNat / 4 % 32, d.toNat % 4 * 8 + e.toNat / 32, e.toNat % 32] := by
  have ha := a.toNat_lt; have hb := b.toNat_lt; have hc := c.toNat_lt; have hd := d.toNat_lt; have he := e.toNat_lt
  simp only [nums, nlet, List.length_cons, List.length_nil, Nat.reduceAdd, Nat.reduceMul, Nat.reduceSub, Nat.reduceDiv, List.range, List.range.loop, List.map_cons, List.map_nil, numF, bit, bitK, nats,
    Nat.reduceMod, Nat.reducePow, List.getElem?_cons_zero, List.getElem?_cons_succ, Option.getD_some, List.cons.injEq, and_true, Nat.mul_zero, Nat.zero_add, Nat.zero_div, Nat.zero_mod, Nat.sub_zero, Nat.add_zero]
  refine ⟨?_, ?_, ?_, ?_, ?_, ?_, ?_, ?_⟩ <;> omega

theorem nums32_4 (a b c d : UInt8) : nums 5 [a, b, c, d] = [a.toNat / 8, a.toNat % 8 * 4 + b.toNat / 64, b.toNat / 2 % 32, b.toNat % 2 * 16 + c.toNat / 16,
    c.toNat % 16 * 2 + d.toNat / 128, d.toNat / 4 % 32, d.toNat % 4 * 8] := by
  have ha := a.toNat_lt; have hb := b.toNat_lt; have hc := c.toNat_lt; have hd := d.toNat_lt
  simp [nums, nlet, List.range, List.range.loop, numF, bit, bitK, nats]
  omega
theorem nums32_3 (a b c : UInt8) : nums 5 [a, b, c] = [a.toNat / 8, a.toNat % 8 * 4 + b.toNat / 64, b.toNat / 2 % 32, b.toNat % 2 * 16 + c.toNat / 16,
    c.toNat % 16 * 2] := by
  have ha := a.toNat_lt; have hb := b.toNat_lt; have hc := c.toNat_lt
  simp [nums, nlet, List.range, List.range.loop, numF, bit, bitK, nats]
  omega
theorem nums32_2 (a b : UInt8) : nums 5 [a, b] = [a.toNat / 8, a.toNat % 8 * 4 + b.toNat / 64, b.toNat / 2 % 32, b.toNat % 2 * 16] := by
  have ha := a.toNat_lt; have hb := b.toNat_lt
  simp [nums, nlet, List.range, List.range.loop, numF, bit, bitK, nats]
  omega
theorem nums32_1 (a : UInt8) : nums 5 [a] = [a.toNat / 8, a.toNat % 8 * 4] := by
  have ha := a.toNat_lt
  simp [nums, nlet, List.range, List.range.loop, numF, bit, bitK, nats]
  omega
theorem nums64_3 (a b c : UInt8) : nums 6 [a, b, c] = [a.toNat / 4, a.toNat % 4 * 16 + b.toNat / 16, b.toNat % 16 * 4 + c.toNat / 64, c.toNat % 64] := by
  have ha := a.toNat_lt; have hb := b.toNat_lt; have hc := c.toNat_lt
  simp [nums, nlet, List.range, List.range.loop, numF, bit, bitK, nats]
  omega
theorem nums64_2 (a b : UInt8) : nums 6 [a, b] = [a.toNat / 4, a.toNat % 4 * 16 + b.toNat / 16, b.toNat % 16 * 4] := by
  have ha := a.toNat_lt; have hb := b.toNat_lt
  simp [nums, nlet, List.range, List.range.loop, numF, bit, bitK, nats]
  omega
theorem nums64_1 (a : UInt8) : nums 6 [a] = [a.toNat / 4, a.toNat % 4 * 16] := by
  have ha := a.toNat_lt
  simp [nums, nlet, List.range, List.range.loop, numF, bit, bitK, nats]
  omega

/-- numbers of k bits taken as bytes; bits that make no whole byte fall away -/
def unpack (k : Nat) (vs : List Nat) : List UInt8 := (List.range (k * vs.length / 8)).map fun i => UInt8.ofNat (numF 8 (bitK k vs) (8 * i))
@[simp] theorem unpack_length (k : Nat) (vs : List Nat) : (unpack k vs).length = k * vs.length / 8 := by simp [unpack]

theorem nums_getElem {bits : Nat} {src : List UInt8} {i : Nat} (h : i < nlet bits src.length) : (nums bits src)[i]? = some (numF bits (bit src) (bits * i)) := by
  simp [nums, h]

theorem nums_lt {bits : Nat} {src : List UInt8} : ∀ v ∈ nums bits src, v < 2 ^ bits := by
  intro v hv
  obtain ⟨i, _, rfl⟩ := List.mem_map.1 hv
  exact numF_lt (bit_lt src)

theorem bitK_nums {bits : Nat} (hb : 0 < bits) (src : List UInt8) (p : Nat) (h : p < bits * nlet bits src.length) : bitK bits (nums bits src) p = bit src p := by
  unfold bitK
  rw [nums_getElem (Nat.div_lt_of_lt_mul h), Option.getD_some]
  have := numF_bit (b := bits) (f := bit src) (p := bits * (p / bits)) (j := p % bits) (bit_lt src) (Nat.mod_lt _ hb)
  rw [this, Nat.div_add_mod]

theorem nlet_ge {bits : Nat} (hb : 0 < bits) (n : Nat) : 8 * n ≤ bits * nlet bits n := by
  unfold nlet
  have := Nat.div_add_mod (8 * n + (bits - 1)) bits
  have := Nat.mod_lt (8 * n + (bits - 1)) hb
  omega

theorem nlet_back {bits : Nat} (hb : 0 < bits) (h8 : bits ≤ 8) (n : Nat) : bits * nlet bits n / 8 = n := by
  have h1 := nlet_ge hb n
  have h2 : bits * nlet bits n ≤ 8 * n + (bits - 1) := by
    unfold nlet
    have := Nat.div_add_mod (8 * n + (bits - 1)) bits
    omega
  omega

theorem bit_byte {src : List UInt8} {i j : Nat} (hi : i < src.length) (hj : j < 8) : bit src (8 * i + j) = src[i].toNat / 2 ^ (7 - j) % 2 := by
  unfold bit bitK
  have e1 : (8 * i + j) / 8 = i := by omega
  have e2 : (8 * i + j) % 8 = j := by omega
  rw [e1, e2]
  simp [nats, hi]

theorem numF_byte {src : List UInt8} {i : Nat} (hi : i < src.length) : numF 8 (bit src) (8 * i) = src[i].toNat :=
  numF_self (src[i].toNat_lt) fun j hj => by rw [bit_byte hi hj]

theorem ext_bits {a b : List UInt8} (hl : a.length = b.length) (h : ∀ p, p < 8 * a.length → bit a p = bit b p) : a = b := by
  refine List.ext_getElem hl fun i h1 h2 => ?_
  rw [← UInt8.toNat_inj, ← numF_byte h1, ← numF_byte h2]
  exact numF_congr fun j hj => h _ (by omega)

theorem bit_unpack {k : Nat} (vs : List Nat) (p : Nat) (h : p < 8 * (k * vs.length / 8)) : bit (unpack k vs) p = bitK k vs p := by
  have hi : p / 8 < (unpack k vs).length := by rw [unpack_length]; omega
  have hp : p = 8 * (p / 8) + p % 8 := by omega
  rw [hp, bit_byte hi (Nat.mod_lt _ (by omega))]
  simp only [unpack, List.getElem_map, List.getElem_range]
  have hlt := numF_lt (b := 8) (f := bitK k vs) (p := 8 * (p / 8)) (bitK_lt k vs)
  have := numF_bit (b := 8) (f := bitK k vs) (p := 8 * (p / 8)) (j := p % 8) (bitK_lt k vs) (Nat.mod_lt _ (by omega))
  rw [← this]
  simp only [UInt8.toNat_ofNat']
  congr 1
  rw [Nat.mod_eq_of_lt hlt]

theorem unpack_nums {bits : Nat} (hb : 0 < bits) (h8 : bits ≤ 8) (src : List UInt8) : unpack bits (nums bits src) = src := by
  have hl : (unpack bits (nums bits src)).length = src.length := by rw [unpack_length, nums_length, nlet_back hb h8]
  refine ext_bits hl fun p hp => ?_
  rw [hl] at hp
  rw [bit_unpack _ _ (by rw [nums_length, nlet_back hb h8]; exact hp)]
  exact bitK_nums hb src p (by have := nlet_ge hb src.length; omega)

theorem unpack_append {k m : Nat} (hk : 0 < k) (g r : List Nat) (h : k * g.length = 8 * m) : unpack k (g ++ r) = unpack k g ++ unpack k r := by
  unfold unpack
  rw [List.length_append, Nat.mul_add, h]
  have e1 : (8 * m + k * r.length) / 8 = m + k * r.length / 8 := by omega
  have e2 : 8 * m / 8 = m := by omega
  rw [e1, e2, List.range_add, List.map_append, List.map_map]
  congr 1
  · refine List.map_congr_left fun i hi => ?_
    have hi := List.mem_range.1 hi
    congr 1
    exact numF_congr fun j hj => bitK_append_left (by omega)
  · refine List.map_congr_left fun i _ => ?_
    refine congrArg UInt8.ofNat (numF_congr fun j hj => ?_)
    have := bitK_append_right (k := k) hk (xs := g) (ys := r) (p := 8 * i + j)
    rw [← this, h]
    congr 1
    show 8 * (m + i) + j = _
    omega

end Go.Proofs.Ytmbglgepomeilaa.Pl
