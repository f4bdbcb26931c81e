/-
  Reading base64: groups taken whole, the end of a text, what is kept in a row of bytes. No program in sight.
-/
import Derived.Test.YtmbglgepomeilaaOne
namespace Go.Proofs.Ytmbglgepomeilaa
open Go.RowKit
/-- bytes that a row holds from a place on -/
def Hd (ds : Array Value) (o : Nat) (xs : List UInt8) : Prop := ∀ (i : Nat) (x : UInt8), xs[i]? = some x → ds[o + i]? = some (u8 x)
theorem Hd.put {ds : Array Value} {off n : Nat} {xs ys : List UInt8} {more : List Value} (h : Hd ds off xs) (hl : xs.length = n) (hsz : off + n + ys.length + more.length ≤ ds.size) : Hd (splice ds (off + n) (bv ys ++ more)) off (xs ++ ys) := by
  intro i x hx
  have hbl : (bv ys ++ more).length = ys.length + more.length := by rw [List.length_append, bv_length]
  rw [splice_get _ (by omega)]
  by_cases hi : i < n
  · rw [if_neg (by omega)]
    rw [List.getElem?_append_left (by omega)] at hx
    exact h i x hx
  · rw [List.getElem?_append_right (by omega)] at hx
    have hlt := get_lt hx
    rw [if_pos (by omega), show off + i - (off + n) = i - xs.length by omega, List.getElem?_append_left (by rw [bv_length]; exact hlt)]
    simp [bv, hx]
theorem Hd.rd {w : World} {g o : Nat} {ds : Array Value} {t : TypeId} {fz : Nat × Nat} {xs : List UInt8} (hb : Bk w g ds t fz) (h : Hd ds o xs) : Rd w (some ⟨g, o, none⟩) (bv xs) := Rd.of_bs (Bs.of_row hb h)
theorem zr_all {P : Program} {t : TypeId} {cs : Array Value} (h : ((P.info? t).bind (·.zero)).map (fun z => z.cells) = some cs) : ∃ z, (∀ w, (zeroValue t).run P w = .ok z w) ∧ z.cells = cs := by
  simp only [Option.map_eq_some_iff, Option.bind_eq_some_iff] at h
  obtain ⟨z, ⟨i, hi, hz⟩, hk⟩ := h
  exact ⟨z, fun w => by simp [zeroValue, typeInfo, hi, hz], hk⟩
/-- how many bytes a text may stand for -/
def decLen (pad : Int) (n : Nat) : Nat := if pad = -1 then n / 4 * 3 + n % 4 * 6 / 8 else n / 4 * 3
theorem unpack64_8 {v0 v1 v2 v3 v4 v5 v6 v7 : Nat} (h0 : v0 < 64) (h1 : v1 < 64) (h2 : v2 < 64) (h3 : v3 < 64) (h4 : v4 < 64) (h5 : v5 < 64) (h6 : v6 < 64) (h7 : v7 < 64) : Pl.unpack 6 [v0, v1, v2, v3, v4, v5, v6, v7] = [v0 * 2 ^ 2 % 256 + v1 / 2 ^ 4, v1 * 2 ^ 4 % 256 + v2 / 2 ^ 2, v2 * 2 ^ 6 % 256 + v3, v4 * 2 ^ 2 % 256 + v5 / 2 ^ 4, v5 * 2 ^ 4 % 256 + v6 / 2 ^ 2, v6 * 2 ^ 6 % 256 + v7].map UInt8.ofNat := by
  rw [show [v0, v1, v2, v3, v4, v5, v6, v7] = [v0, v1, v2, v3] ++ [v4, v5, v6, v7] from rfl, Pl.unpack_append (m := 3) (by omega) _ _ rfl, unpack64_4 h0 h1 h2 h3, unpack64_4 h4 h5 h6 h7]
  rfl
theorem put64 {v0 v1 v2 v3 v4 v5 v6 v7 X : Nat} (h1 : v1 < 64) (h2 : v2 < 64) (h3 : v3 < 64) (h4 : v4 < 64) (h5 : v5 < 64) (h6 : v6 < 64) (h7 : v7 < 64) (hX : X = v0 * 2 ^ 58 + v1 * 2 ^ 52 + v2 * 2 ^ 46 + v3 * 2 ^ 40 + v4 * 2 ^ 34 + v5 * 2 ^ 28 + v6 * 2 ^ 22 + v7 * 2 ^ 16) : X / 2 ^ 56 % 256 = v0 * 2 ^ 2 % 256 + v1 / 2 ^ 4 ∧ X / 2 ^ 48 % 256 = v1 * 2 ^ 4 % 256 + v2 / 2 ^ 2 ∧ X / 2 ^ 40 % 256 = v2 * 2 ^ 6 % 256 + v3 ∧ X / 2 ^ 32 % 256 = v4 * 2 ^ 2 % 256 + v5 / 2 ^ 4 ∧ X / 2 ^ 24 % 256 = v5 * 2 ^ 4 % 256 + v6 / 2 ^ 2 ∧ X / 2 ^ 16 % 256 = v6 * 2 ^ 6 % 256 + v7 := by
  subst hX
  refine ⟨?_, ?_, ?_, ?_, ?_, ?_⟩ <;> omega
theorem put64_bytes {v0 v1 v2 v3 v4 v5 v6 v7 X : Nat} (h0 : v0 < 64) (h1 : v1 < 64) (h2 : v2 < 64) (h3 : v3 < 64) (h4 : v4 < 64) (h5 : v5 < 64) (h6 : v6 < 64) (h7 : v7 < 64) (hX : X = v0 * 2 ^ 58 + v1 * 2 ^ 52 + v2 * 2 ^ 46 + v3 * 2 ^ 40 + v4 * 2 ^ 34 + v5 * 2 ^ 28 + v6 * 2 ^ 22 + v7 * 2 ^ 16) : ([.int .u8 ((X / 2 ^ 56 % 256 : Nat) : Int), .int .u8 ((X / 2 ^ 48 % 256 : Nat) : Int), .int .u8 ((X / 2 ^ 40 % 256 : Nat) : Int), .int .u8 ((X / 2 ^ 32 % 256 : Nat) : Int), .int .u8 ((X / 2 ^ 24 % 256 : Nat) : Int), .int .u8 ((X / 2 ^ 16 % 256 : Nat) : Int), .int .u8 ((X / 2 ^ 8 % 256 : Nat) : Int), .int .u8 ((X % 256 : Nat) : Int)] : List Value) = bv (Pl.unpack 6 [v0, v1, v2, v3, v4, v5, v6, v7]) ++ [.int .u8 ((X / 2 ^ 8 % 256 : Nat) : Int), .int .u8 ((X % 256 : Nat) : Int)] := by
  obtain ⟨e0, e1, e2, e3, e4, e5⟩ := put64 h1 h2 h3 h4 h5 h6 h7 hX
  rw [unpack64_8 h0 h1 h2 h3 h4 h5 h6 h7, bytes_of (by
    intro x hx
    simp only [List.mem_cons, List.not_mem_nil, or_false] at hx
    rcases hx with rfl | rfl | rfl | rfl | rfl | rfl <;> omega), e0, e1, e2, e3, e4, e5]
  rfl
theorem put32_bytes {v0 v1 v2 v3 Y : Nat} (h0 : v0 < 64) (h1 : v1 < 64) (h2 : v2 < 64) (h3 : v3 < 64) (hY : Y = v0 * 2 ^ 26 + v1 * 2 ^ 20 + v2 * 2 ^ 14 + v3 * 2 ^ 8) : ([.int .u8 ((Y / 2 ^ 24 % 256 : Nat) : Int), .int .u8 ((Y / 2 ^ 16 % 256 : Nat) : Int), .int .u8 ((Y / 2 ^ 8 % 256 : Nat) : Int), .int .u8 ((Y % 256 : Nat) : Int)] : List Value) = bv (Pl.unpack 6 [v0, v1, v2, v3]) ++ [.int .u8 ((Y % 256 : Nat) : Int)] := by
  obtain ⟨e0, e1, e2⟩ : Y / 2 ^ 24 % 256 = v0 * 2 ^ 2 % 256 + v1 / 2 ^ 4 ∧ Y / 2 ^ 16 % 256 = v1 * 2 ^ 4 % 256 + v2 / 2 ^ 2 ∧ Y / 2 ^ 8 % 256 = v2 * 2 ^ 6 % 256 + v3 := by
    subst hY
    refine ⟨?_, ?_, ?_⟩ <;> omega
  rw [unpack64_4 h0 h1 h2 h3, bytes_of (by simp; omega), e0, e1, e2]
  rfl
/-- the last letter of a text has no bits of its own behind its bytes -/
theorem strict3 {s : List UInt8} {q v : Nat} (hl : (Pl.nums 6 s).length = 4 * q + 3) (hv : (Pl.nums 6 s)[4 * q + 2]? = some v) : v % 4 = 0 := by
  rw [Pl.nums_length] at hl
  have hs : s.length = 3 * q + 2 := by unfold Pl.nlet at hl; omega
  rw [Pl.nums_getElem (by omega)] at hv
  injection hv with hv
  have h4 := bit_out (src := s) (p := 6 * (4 * q + 2) + 4) (by omega)
  have h5 := bit_out (src := s) (p := 6 * (4 * q + 2) + 5) (by omega)
  simp only [Pl.numF] at hv
  rw [h4, h5] at hv
  omega
theorem strict2 {s : List UInt8} {q v : Nat} (hl : (Pl.nums 6 s).length = 4 * q + 2) (hv : (Pl.nums 6 s)[4 * q + 1]? = some v) : v % 16 = 0 := by
  rw [Pl.nums_length] at hl
  have hs : s.length = 3 * q + 1 := by unfold Pl.nlet at hl; omega
  rw [Pl.nums_getElem (by omega)] at hv
  injection hv with hv
  have h2 := bit_out (src := s) (p := 6 * (4 * q + 1) + 2) (by omega)
  have h3 := bit_out (src := s) (p := 6 * (4 * q + 1) + 3) (by omega)
  have h4 := bit_out (src := s) (p := 6 * (4 * q + 1) + 4) (by omega)
  have h5 := bit_out (src := s) (p := 6 * (4 * q + 1) + 5) (by omega)
  simp only [Pl.numF] at hv
  rw [h2, h3, h4, h5] at hv
  omega
/-- what lies apart from a stretch is as it was -/
def Outs (ds ds' : Array Value) (off m : Nat) : Prop := ∀ i : Nat, (i < off ∨ off + m ≤ i) → ds'[i]? = ds[i]?
theorem Outs.refl (ds : Array Value) (off m : Nat) : Outs ds ds off m := fun _ _ => rfl
theorem Outs.splice {ds ds' : Array Value} {off m o : Nat} {xs : List Value} (h : Outs ds ds' off m) (h1 : off ≤ o) (h2 : o + xs.length ≤ off + m) (h3 : o + xs.length ≤ ds'.size) : Outs ds (splice ds' o xs) off m := fun i hi => by
  rw [splice_get _ h3, if_neg (by omega)]
  exact h i hi
theorem or255 : ∀ x : Fin 256, x.val ||| 255 = 255 := by decide +kernel
theorem dm_lt {al : List UInt8} {b : Nat} (h : al.length ≤ 256) : dm al b < 256 := by
  unfold dm
  split <;> omega
end Go.Proofs.Ytmbglgepomeilaa
