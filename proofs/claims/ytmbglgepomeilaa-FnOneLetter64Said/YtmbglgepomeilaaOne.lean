/-
  One letter of a text turned: which bytes it stands for. No program in sight, but for one operation on bytes.
-/
import Derived.Test.YtmbglgepomeilaaDec
namespace Go.Proofs.Ytmbglgepomeilaa
open Go.RowKit
theorem u8_andNot_nat (a b : Nat) (ha : a < 256) (hb : b < 256) : Go.bits .andNot .u8 (a : Int) (b : Int) = ((a &&& (255 - b) : Nat) : Int) := by
  show IntKind.u8.wrap ((BitVec.ofInt 8 (a : Int) &&& ~~~ BitVec.ofInt 8 (b : Int)).toNat : Int) = _
  rw [BitVec.toNat_and, BitVec.toNat_not, BitVec.ofInt_natCast, BitVec.ofInt_natCast, BitVec.toNat_ofNat, BitVec.toNat_ofNat, Nat.mod_eq_of_lt (by omega), Nat.mod_eq_of_lt (by omega)]
  have h : a &&& (2 ^ 8 - 1 - b) < 256 := Nat.lt_of_le_of_lt Nat.and_le_left ha
  rw [IntKind.wrap_u8']
  show ((a &&& (2 ^ 8 - 1 - b) : Nat) : Int) % 256 = ((a &&& (2 ^ 8 - 1 - b) : Nat) : Int)
  omega
theorem y_andNot8 {P : Program} {n : Nat} {l : Env} {w : World} {x y : Operand} {ds : Option Nat} {t t' ty : TypeId} {pos : String} {af : Array Edge} {gd : Option (Nat × Bool)} {a b : Nat} (hx : ev l x = some (.int .u8 (a : Int))) (hy : ev l y = some (.int .u8 (b : Int)))
    (ha : a < 256) (hb : b < 256) : Does P n l w ⟨ds, .binOp .andNot t x y t', ty, pos, af, gd⟩ (.int .u8 ((a &&& (255 - b) : Nat) : Int)) w := fun f hf => by
  have h : Op.intBits .andNot .u8 (a : Int) (b : Int) = pure (.int .u8 (Go.bits .andNot .u8 (a : Int) (b : Int))) := rfl
  simp [execOp, hf.eval hx, hf.eval hy, eqGuard, binOp, h, u8_andNot_nat a b ha hb]
theorem y_shrI {P : Program} {n : Nat} {l : Env} {w : World} {x y : Operand} {ds : Option Nat} {t t' ty : TypeId} {pos : String} {af : Array Edge} {gd : Option (Nat × Bool)} {k' : IntKind} {a s : Nat} (hx : ev l x = some (.int .i64 (a : Int))) (hy : ev l y = some (.int k' (s : Int))) (hs : s ≤ 64) :
    Does P n l w ⟨ds, .binOp .shr t x y t', ty, pos, af, gd⟩ (.int .i64 ((a / 2 ^ s : Nat) : Int)) w := fun f hf => by
  have h0 : ¬ ((s : Int) < 0) := by omega
  have hm : min s IntKind.i64.bits = s := by show min s 64 = s; omega
  have he : Int.fdiv (a : Int) (2 ^ s) = (a : Int) / 2 ^ s := Int.fdiv_eq_ediv_of_nonneg _ (Int.le_of_lt (Int.pow_pos (by omega)))
  simp [execOp, hf.eval hx, hf.eval hy, eqGuard_shr, binOp_shr]
theorem and_bit (a b j : Nat) : (a &&& b) / 2 ^ j % 2 = (a / 2 ^ j % 2) * (b / 2 ^ j % 2) := by
  have h := Nat.testBit_and a b j
  simp only [Nat.testBit_eq_decide_div_mod_eq] at h
  rcases Nat.mod_two_eq_zero_or_one (a / 2 ^ j) with h1 | h1 <;> rcases Nat.mod_two_eq_zero_or_one (b / 2 ^ j) with h2 | h2 <;> rcases Nat.mod_two_eq_zero_or_one ((a &&& b) / 2 ^ j) with h3 | h3 <;> simp [h1, h2, h3] at h ⊢
theorem or_bit (a b j : Nat) : (a ||| b) / 2 ^ j % 2 = if b / 2 ^ j % 2 = 1 then 1 else a / 2 ^ j % 2 := by
  have h := Nat.testBit_or a b j
  simp only [Nat.testBit_eq_decide_div_mod_eq] at h
  rcases Nat.mod_two_eq_zero_or_one (a / 2 ^ j) with h1 | h1 <;> rcases Nat.mod_two_eq_zero_or_one (b / 2 ^ j) with h2 | h2 <;> rcases Nat.mod_two_eq_zero_or_one ((a ||| b) / 2 ^ j) with h3 | h3 <;> simp [h1, h2, h3] at h ⊢
theorem no_bit8 : ∀ a : Fin 8, ∀ b : Fin 8, (255 - 128 / 2 ^ a.val) / 2 ^ (7 - b.val) % 2 = if a.val = b.val then 0 else 1 := by decide
/-- a bit put into its place -/
theorem bit_put {src : List UInt8} {k t : Nat} {c c' : UInt8} (hc : src[k / 8]? = some c) (ht : t < 2)
    (hx : c'.toNat = if t = 1 then (c.toNat &&& (255 - 128 / 2 ^ (k % 8))) ||| 128 / 2 ^ (k % 8) else c.toNat &&& (255 - 128 / 2 ^ (k % 8))) (p : Nat) : Pl.bit (src.set (k / 8) c') p = if p = k then t else Pl.bit src p := by
  have hlt := get_lt hc
  rw [bit_at, bit_at]
  by_cases h8 : p / 8 = k / 8
  · have h1 := one_bit8 ⟨k % 8, Nat.mod_lt _ (by omega)⟩ ⟨p % 8, Nat.mod_lt _ (by omega)⟩
    have h2 := no_bit8 ⟨k % 8, Nat.mod_lt _ (by omega)⟩ ⟨p % 8, Nat.mod_lt _ (by omega)⟩
    simp only at h1 h2
    rw [h8, List.getElem?_set_self hlt, hc]
    simp only [Option.map_some, Option.getD_some]
    rw [hx]
    by_cases hp : p = k
    · rw [if_pos hp]
      rw [if_pos (by rw [hp])] at h1 h2
      by_cases h3 : t = 1
      · rw [if_pos h3, or_bit, if_pos h1, h3]
      · rw [if_neg h3, and_bit, h2, Nat.mul_zero]; omega
    · rw [if_neg hp]
      rw [if_neg (by omega)] at h1 h2
      by_cases h3 : t = 1
      · rw [if_pos h3, or_bit, if_neg (by omega), and_bit, h2, Nat.mul_one]
      · rw [if_neg h3, and_bit, h2, Nat.mul_one]
  · rw [List.getElem?_set_ne (fun e => h8 e.symm), if_neg (fun e => h8 (by rw [e]))]
theorem oneletter {bits m v : Nat} {src want : List UInt8} (hb : 0 < bits) (h8 : bits ≤ 8) (hl : want.length = src.length) (hm : m < Pl.nlet bits src.length)
    (hbit : ∀ p, Pl.bit want p = if bits * m ≤ p ∧ p < bits * m + bits then v / 2 ^ (bits - 1 - (p - bits * m)) % 2 else Pl.bit src p) : Pl.unpack bits ((Pl.nums bits src).set m v) = want := by
  have hsl : ((Pl.nums bits src).set m v).length = Pl.nlet bits src.length := by rw [List.length_set, Pl.nums_length]
  have hul : (Pl.unpack bits ((Pl.nums bits src).set m v)).length = want.length := by rw [Pl.unpack_length, hsl, Pl.nlet_back hb h8, hl]
  refine Pl.ext_bits hul fun p hp => ?_
  rw [hul, hl] at hp
  have hge := Pl.nlet_ge hb src.length
  rw [Pl.bit_unpack _ _ (by rw [hsl, Pl.nlet_back hb h8]; exact hp), hbit]
  by_cases h : p / bits = m
  · have h1 := Nat.div_add_mod p bits
    have h2 := Nat.mod_lt p hb
    rw [h] at h1
    rw [if_pos (by omega)]
    unfold Pl.bitK
    rw [h, List.getElem?_set_self (by rw [Pl.nums_length]; exact hm), Option.getD_some, show p - bits * m = p % bits by omega]
  · rw [if_neg, ← Pl.bitK_nums hb src p (by omega)]
    · unfold Pl.bitK
      rw [List.getElem?_set_ne (fun e => h e.symm)]
    · rintro ⟨e1, e2⟩
      apply h
      rw [show p = bits * m + (p - bits * m) by omega, Nat.mul_add_div hb, Nat.div_eq_of_lt (by omega), Nat.add_zero]
theorem text_form {bits block : Nat} {al src : List UInt8} {pad : Int} : Pl.text bits block al pad src = (Pl.nums bits src).map (Pl.letter al) ++ Pl.pads block pad (Pl.nums bits src).length := by
  rw [Pl.nums_length]
  rfl
theorem text_set {bits block m v : Nat} {al src : List UInt8} {pad : Int} (hm : m < Pl.nlet bits src.length) : (Pl.text bits block al pad src).set m (Pl.letter al v) = ((Pl.nums bits src).set m v).map (Pl.letter al) ++ Pl.pads block pad ((Pl.nums bits src).set m v).length := by
  rw [text_form, List.set_append_left _ _ (by rw [List.length_map, Pl.nums_length]; exact hm), List.map_set, List.length_set]
theorem nums_set_lt {bits m v : Nat} {src : List UInt8} (hv : v < 2 ^ bits) : ∀ x ∈ (Pl.nums bits src).set m v, x < 2 ^ bits := fun x hx => by
  rcases List.mem_or_eq_of_mem_set hx with h | h
  · exact Pl.nums_lt x h
  · omega
end Go.Proofs.Ytmbglgepomeilaa
