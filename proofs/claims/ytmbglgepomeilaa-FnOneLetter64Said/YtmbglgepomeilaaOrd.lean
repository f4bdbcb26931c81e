/-
  Texts are ordered as bytes are. No program in sight.
-/
import Derived.Test.YtmbglgepomeilaaLaw
namespace Go.Proofs.Ytmbglgepomeilaa
open Go.RowKit
theorem numF_first {b : Nat} {f g : Nat → Nat} {p q : Nat} (hf : ∀ j, f j < 2) (hg : ∀ j, g j < 2) (h : Pl.numF b f p < Pl.numF b g q) : ∃ t, t < b ∧ (∀ s, s < t → f (p + s) = g (q + s)) ∧ f (p + t) < g (q + t) := by
  induction b with
  | zero => simp [Pl.numF] at h
  | succ b ih =>
    simp only [Pl.numF] at h
    have h1 := hf (p + b)
    have h2 := hg (q + b)
    rcases Nat.lt_trichotomy (Pl.numF b f p) (Pl.numF b g q) with e | e | e
    · obtain ⟨t, ht, h3, h4⟩ := ih e
      exact ⟨t, by omega, h3, h4⟩
    · exact ⟨b, by omega, Pl.numF_ext hf hg e, by omega⟩
    · omega
theorem numF_less {b t : Nat} {f g : Nat → Nat} {p q : Nat} (hf : ∀ j, f j < 2) (ht : t < b) (h : ∀ s, s < t → f (p + s) = g (q + s)) (hl : f (p + t) < g (q + t)) : Pl.numF b f p < Pl.numF b g q := by
  induction b with
  | zero => omega
  | succ b ih =>
    simp only [Pl.numF]
    have h1 := hf (p + b)
    by_cases e : t = b
    · subst e
      rw [Pl.numF_congr h]
      omega
    · have := ih (by omega)
      omega
theorem numF_le {b : Nat} {f g : Nat → Nat} {p q : Nat} (h : ∀ s, s < b → f (p + s) ≤ g (q + s)) : Pl.numF b f p ≤ Pl.numF b g q := by
  induction b with
  | zero => simp [Pl.numF]
  | succ b ih =>
    have h1 := ih fun s hs => h s (by omega)
    have h2 := h b (by omega)
    simp only [Pl.numF]
    omega
def Less (x y : List UInt8) : Prop := ∃ i : Nat, (∀ j : Nat, j < i → x[j]? = y[j]?) ∧ ((x[i]? = none ∧ ∃ v : UInt8, y[i]? = some v) ∨ ∃ u v : UInt8, x[i]? = some u ∧ y[i]? = some v ∧ u.toNat < v.toNat)
theorem less_iff : ∀ x y : List UInt8, Op.bytesLess x y = true ↔ Less x y
  | x, [] => by
    constructor
    · intro h; cases x <;> simp [Op.bytesLess] at h
    · rintro ⟨i, _, ⟨_, v, h⟩ | ⟨u, v, _, h, _⟩⟩ <;> simp at h
  | [], b :: y => by
    constructor
    · intro _; exact ⟨0, fun j hj => by omega, .inl ⟨rfl, b, rfl⟩⟩
    · intro _; rfl
  | a :: x, b :: y => by
    have ih := less_iff x y
    constructor
    · intro h
      simp only [Op.bytesLess, Bool.or_eq_true, Bool.and_eq_true, decide_eq_true_eq, beq_iff_eq] at h
      rcases h with h | ⟨rfl, h⟩
      · exact ⟨0, fun j hj => by omega, .inr ⟨a, b, rfl, rfl, UInt8.lt_iff_toNat_lt.1 h⟩⟩
      · obtain ⟨i, h1, h2⟩ := ih.1 h
        refine ⟨i + 1, fun j hj => ?_, by simpa using h2⟩
        cases j with
        | zero => rfl
        | succ j => simpa using h1 j (by omega)
    · rintro ⟨i, h1, h2⟩
      simp only [Op.bytesLess, Bool.or_eq_true, Bool.and_eq_true, decide_eq_true_eq, beq_iff_eq]
      cases i with
      | zero =>
        left
        rcases h2 with ⟨h2, _⟩ | ⟨u, v, hu, hv, hl⟩
        · simp at h2
        · simp at hu hv
          subst hu hv
          exact UInt8.lt_iff_toNat_lt.2 hl
      | succ i =>
        right
        have h0 := h1 0 (by omega)
        simp at h0
        exact ⟨h0, ih.2 ⟨i, fun j hj => by simpa using h1 (j + 1) (by omega), by simpa using h2⟩⟩
theorem less_irrefl : ∀ x : List UInt8, Op.bytesLess x x = false
  | [] => rfl
  | a :: x => by simp [Op.bytesLess, less_irrefl x]
theorem less_asymm : ∀ x y : List UInt8, Op.bytesLess x y = true → Op.bytesLess y x = false
  | x, [], h => by cases x <;> simp [Op.bytesLess] at h
  | [], b :: y, _ => rfl
  | a :: x, b :: y, h => by
    simp only [Op.bytesLess, Bool.or_eq_true, Bool.and_eq_true, decide_eq_true_eq, beq_iff_eq] at h
    rcases h with h | ⟨rfl, h⟩
    · have h1 : ¬ b < a := fun e => UInt8.lt_irrefl _ (UInt8.lt_trans h e)
      have h2 : ¬ b = a := fun e => UInt8.lt_irrefl _ (e ▸ h)
      simp [Op.bytesLess, h1, h2]
    · simp [Op.bytesLess, less_asymm x y h, UInt8.lt_irrefl]
theorem less_tri : ∀ x y : List UInt8, Op.bytesLess x y = false → Op.bytesLess y x = false → x = y
  | [], [], _, _ => rfl
  | a :: x, [], _, h => by simp [Op.bytesLess] at h
  | [], b :: y, h, _ => by simp [Op.bytesLess] at h
  | a :: x, b :: y, h1, h2 => by
    simp only [Op.bytesLess, Bool.or_eq_false_iff, decide_eq_false_iff_not] at h1 h2
    have e : a = b := by
      apply UInt8.toNat_inj.1
      have q1 : ¬ a.toNat < b.toNat := fun e => h1.1 (UInt8.lt_iff_toNat_lt.2 e)
      have q2 : ¬ b.toNat < a.toNat := fun e => h2.1 (UInt8.lt_iff_toNat_lt.2 e)
      omega
    subst e
    simp only [beq_self_eq_true, Bool.true_and] at h1 h2
    rw [less_tri x y h1.2 h2.2]
theorem nlet_last {bits n j : Nat} (hb : 0 < bits) (hj : j + 1 < Pl.nlet bits n) : bits * j + bits ≤ 8 * n := by
  unfold Pl.nlet at hj
  have h : (j + 2) * bits ≤ 8 * n + (bits - 1) := (Nat.le_div_iff_mul_le hb).1 hj
  rw [Nat.add_mul, Nat.mul_comm j bits] at h
  omega
theorem nlet_next {bits n m : Nat} (hb : 0 < bits) (h8 : bits ≤ 8) (h : n < m) : Pl.nlet bits n < Pl.nlet bits m := by
  have h1 : Pl.nlet bits n * bits ≤ 8 * n + (bits - 1) := Nat.div_mul_le_self _ _
  have h2 : Pl.nlet bits n + 1 ≤ (8 * m + (bits - 1)) / bits := (Nat.le_div_iff_mul_le hb).2 (by rw [Nat.add_mul]; omega)
  exact h2
theorem bit_beyond {a : List UInt8} {p : Nat} (h : 8 * a.length ≤ p) : Pl.bit a p = 0 := bit_out (by omega)
theorem bits_agree {a b : List UInt8} {i : Nat} (h : ∀ j, j < i → a[j]? = b[j]?) {p : Nat} (hp : p < 8 * i) : Pl.bit a p = Pl.bit b p := by
  rw [bit_at, bit_at, h (p / 8) (by omega)]
/-- bytes that are less have a text that is less -/
theorem text_less {bits block N : Nat} {al a b : List UInt8} {pad : Int} (hb : 0 < bits) (h8 : bits ≤ 8) (hN : 2 ^ bits = N) (hinc : ∀ i j, i < j → j < N → (Pl.letter al i).toNat < (Pl.letter al j).toNat)
    (hpad : pad < ((Pl.letter al 0).toNat : Int)) (h : Less a b) : Less (Pl.text bits block al pad a) (Pl.text bits block al pad b) := by
  have lta : ∀ p, Pl.numF bits (Pl.bit a) p < N := fun p => by rw [← hN]; exact num_lt a p
  have ltb : ∀ p, Pl.numF bits (Pl.bit b) p < N := fun p => by rw [← hN]; exact num_lt b p
  obtain ⟨i, hpre, ⟨ha, v, hv⟩ | ⟨u, v, hu, hv, huv⟩⟩ := h
  · have hbi := get_lt hv
    have hai : a.length = i := by
      have h1 : a.length ≤ i := by
        rcases Nat.lt_or_ge i a.length with e | e
        · rw [List.getElem?_eq_getElem e] at ha; cases ha
        · exact e
      rcases Nat.lt_or_ge a.length i with e | e
      · have := hpre a.length e
        rw [List.getElem?_eq_none (Nat.le_refl _), List.getElem?_eq_getElem (by omega)] at this
        cases this
      · omega
    have hnx := nlet_next (bits := bits) hb h8 (show a.length < b.length by omega)
    have hle : ∀ p, Pl.bit a p ≤ Pl.bit b p := fun p => by
      by_cases hp : p < 8 * i
      · rw [bits_agree hpre hp]; exact Nat.le_refl _
      · rw [bit_beyond (by omega)]; exact Nat.zero_le _
    have hfull : ∀ j, j + 1 < Pl.nlet bits a.length → Pl.numF bits (Pl.bit a) (bits * j) = Pl.numF bits (Pl.bit b) (bits * j) := fun j hj => by
      have h1 := nlet_last hb hj
      exact Pl.numF_congr fun s hs => bits_agree hpre (by omega)
    by_cases hall : ∀ j, j < Pl.nlet bits a.length → Pl.numF bits (Pl.bit a) (bits * j) = Pl.numF bits (Pl.bit b) (bits * j)
    · refine ⟨Pl.nlet bits a.length, fun j hj => ?_, ?_⟩
      · rw [text_get hj, text_get (by omega), hall j hj]
      · rw [text_get (src := b) hnx]
        cases hx : (Pl.text bits block al pad a)[Pl.nlet bits a.length]? with
        | none => exact .inl ⟨rfl, _, rfl⟩
        | some x =>
          refine .inr ⟨x, _, rfl, rfl, ?_⟩
          have hx2 := hx
          unfold Pl.text at hx2
          rw [List.getElem?_append_right (by rw [Pl.letters_length]; exact Nat.le_refl _)] at hx2
          have hm := List.mem_of_getElem? hx2
          unfold Pl.pads at hm
          split at hm
          · next hp =>
            have e := List.eq_of_mem_replicate hm
            have h0 : (Pl.letter al 0).toNat ≤ (Pl.letter al (Pl.numF bits (Pl.bit b) (bits * Pl.nlet bits a.length))).toNat := by
              rcases Nat.eq_zero_or_pos (Pl.numF bits (Pl.bit b) (bits * Pl.nlet bits a.length)) with z | z
              · rw [z]; exact Nat.le_refl _
              · exact Nat.le_of_lt (hinc 0 _ z (ltb _))
            have h9 := (Pl.letter al 0).toNat_lt
            rw [e, UInt8.toNat_ofNat']
            omega
          · cases hm
    · obtain ⟨j, hj⟩ := Classical.not_forall.1 hall
      obtain ⟨hj1, hj2⟩ := Classical.not_imp.1 hj
      have hjl : j + 1 = Pl.nlet bits a.length := by
        rcases Nat.lt_or_ge (j + 1) (Pl.nlet bits a.length) with e | e
        · exact absurd (hfull j e) hj2
        · omega
      have hlt : Pl.numF bits (Pl.bit a) (bits * j) < Pl.numF bits (Pl.bit b) (bits * j) := Nat.lt_of_le_of_ne (numF_le fun s _ => hle _) hj2
      refine ⟨j, fun s hs => ?_, .inr ⟨_, _, text_get hj1, text_get (by omega), hinc _ _ hlt (ltb _)⟩⟩
      rw [text_get (by omega), text_get (by omega), hfull s (by omega)]
  · have hai := get_lt hu
    have hbi := get_lt hv
    have eu : a[i] = u := by rw [List.getElem?_eq_getElem hai] at hu; injection hu
    have ev_ : b[i] = v := by rw [List.getElem?_eq_getElem hbi] at hv; injection hv
    have h1 : Pl.numF 8 (Pl.bit a) (8 * i) < Pl.numF 8 (Pl.bit b) (8 * i) := by rw [Pl.numF_byte hai, Pl.numF_byte hbi, eu, ev_]; exact huv
    obtain ⟨t, ht, hs, hl⟩ := numF_first (Pl.bit_lt a) (Pl.bit_lt b) h1
    have hag : ∀ p, p < 8 * i + t → Pl.bit a p = Pl.bit b p := fun p hp => by
      by_cases e : p < 8 * i
      · exact bits_agree hpre e
      · have := hs (p - 8 * i) (by omega)
        rwa [show 8 * i + (p - 8 * i) = p by omega] at this
    have hdm : bits * ((8 * i + t) / bits) + (8 * i + t) % bits = 8 * i + t := Nat.div_add_mod _ _
    have hka : (8 * i + t) / bits < Pl.nlet bits a.length := Nat.div_lt_of_lt_mul (Nat.lt_of_lt_of_le (by omega) (Pl.nlet_ge hb _))
    have hkb : (8 * i + t) / bits < Pl.nlet bits b.length := Nat.div_lt_of_lt_mul (Nat.lt_of_lt_of_le (by omega) (Pl.nlet_ge hb _))
    have hmod : (8 * i + t) % bits < bits := Nat.mod_lt _ hb
    have hlt : Pl.numF bits (Pl.bit a) (bits * ((8 * i + t) / bits)) < Pl.numF bits (Pl.bit b) (bits * ((8 * i + t) / bits)) :=
      numF_less (Pl.bit_lt a) hmod (fun s hs => hag _ (by omega)) (by rw [hdm]; exact hl)
    refine ⟨(8 * i + t) / bits, fun j hj => ?_, .inr ⟨_, _, text_get hka, text_get hkb, hinc _ _ hlt (ltb _)⟩⟩
    have hjb : bits * j + bits ≤ bits * ((8 * i + t) / bits) := by
      have := Nat.mul_le_mul_left bits hj
      rwa [Nat.mul_succ] at this
    rw [text_get (by omega), text_get (by omega), Pl.numF_congr fun s hs => hag _ (by omega)]
theorem inc_all {al : List UInt8} {N : Nat} (hl : al.length = N) (h : ∀ (j : Nat) (p q : UInt8), al[j]? = some p → al[j + 1]? = some q → p.toNat < q.toNat) : ∀ i j, i < j → j < N → (Pl.letter al i).toNat < (Pl.letter al j).toNat := by
  intro i j hij hj
  induction j with
  | zero => omega
  | succ j ih =>
    have h1 := h j _ _ (letter_get (by omega) hl) (letter_get hj hl)
    rcases Nat.lt_or_ge i j with e | e
    · have := ih e (by omega); omega
    · obtain rfl : i = j := by omega
      exact h1
theorem order_law {bits block N : Nat} {al a b : List UInt8} {pad : Int} (hb : 0 < bits) (h8 : bits ≤ 8) (hN : 2 ^ bits = N) (hinc : ∀ i j, i < j → j < N → (Pl.letter al i).toNat < (Pl.letter al j).toNat)
    (hpad : pad < ((Pl.letter al 0).toNat : Int)) :
    (Op.bytesLess (Pl.text bits block al pad a) (Pl.text bits block al pad b) == Op.bytesLess a b) = true ∧ (decide (Pl.text bits block al pad a = Pl.text bits block al pad b) == decide (a = b)) = true := by
  have key : ∀ a b : List UInt8, Op.bytesLess a b = true → Op.bytesLess (Pl.text bits block al pad a) (Pl.text bits block al pad b) = true := fun a b h =>
    (less_iff _ _).2 (text_less hb h8 hN hinc hpad ((less_iff _ _).1 h))
  cases h1 : Op.bytesLess a b with
  | true =>
    have h2 := key a b h1
    have h3 : ¬ a = b := fun e => by rw [e, less_irrefl] at h1; cases h1
    have h4 : ¬ Pl.text bits block al pad a = Pl.text bits block al pad b := fun e => by rw [e, less_irrefl] at h2; cases h2
    rw [h2]
    simp [h3, h4]
  | false =>
    cases h2 : Op.bytesLess b a with
    | true =>
      have h3 := key b a h2
      have h4 := less_asymm _ _ h3
      have h5 : ¬ a = b := fun e => by rw [e, less_irrefl] at h2; cases h2
      have h6 : ¬ Pl.text bits block al pad a = Pl.text bits block al pad b := fun e => by rw [e, less_irrefl] at h3; cases h3
      rw [h4]
      simp [h5, h6]
    | false =>
      have e := less_tri _ _ h1 h2
      subst e
      simp [less_irrefl]
end Go.Proofs.Ytmbglgepomeilaa
