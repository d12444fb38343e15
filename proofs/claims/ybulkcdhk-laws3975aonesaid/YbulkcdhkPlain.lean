import Derived.Test.YbulkcdhkFlo
namespace Go.Proofs.Ybulkcdhk
open Ieee

theorem dSign : double.signWeight = 9223372036854775808 := by decide
theorem dBin : double.binade = 4503599627370496 := by decide
theorem dInf : double.infRung = 9218868437227405312 := by decide
theorem dPlace : double.leastPlace = -1074 := by decide

/-- The sign of a word. -/
def sgn (r : Nat) : Bool := r / 9223372036854775808 % 2 == 1

theorem read_sub {r : Nat} (h : r % 9223372036854775808 < 4503599627370496) : double.read r = .number (sgn r) (r % 9223372036854775808) (-1074) := by
  unfold Format.read sgn
  simp only [dSign, dBin, dInf, dPlace]
  rw [if_pos h]

theorem read_norm {r : Nat} (h1 : 4503599627370496 ≤ r % 9223372036854775808) (h2 : r % 9223372036854775808 < 9218868437227405312) :
    double.read r = .number (sgn r) (4503599627370496 + r % 9223372036854775808 % 4503599627370496) (-1074 + (r % 9223372036854775808 / 4503599627370496 - 1 : Nat)) := by
  unfold Format.read sgn
  simp only [dSign, dBin, dInf, dPlace]
  rw [if_neg (by omega), if_pos h2]

theorem read_inf {r : Nat} (h : r % 9223372036854775808 = 9218868437227405312) : double.read r = .infinity (sgn r) := by
  unfold Format.read sgn
  simp only [dSign, dBin, dInf, dPlace]
  rw [if_neg (by omega), if_neg (by omega), if_pos h]

theorem word_back {r : Nat} (h : r < 18446744073709551616) : double.word (sgn r) (r % 9223372036854775808) = r := by
  unfold Format.word sgn
  rw [dSign]
  rcases (show r / 9223372036854775808 = 0 ∨ r / 9223372036854775808 = 1 by omega) with e | e
  · rw [e]; simp; omega
  · rw [e]; simp; omega

theorem cut_exact (neg : Bool) (m k : Nat) (hm : 0 < m) : Toward.even.cut neg (m * 2 ^ k) k = m := by
  have hp : 0 < 2 ^ k := Nat.two_pow_pos k
  have hk : k ≤ (m * 2 ^ k).log2 := (Nat.le_log2 (Nat.ne_of_gt (Nat.mul_pos hm hp))).2 (Nat.le_mul_of_pos_left _ hm)
  unfold Toward.cut
  have e : min k ((m * 2 ^ k).log2 + 2) = k := Nat.min_eq_left (by omega)
  simp only [e, Nat.one_shiftLeft, Nat.mul_mod_left, Nat.mul_div_cancel _ hp, Nat.mul_zero]
  have h1 : decide (2 ^ k < 0) = false := decide_eq_false (by omega)
  have h2 : (2 ^ k == 0) = false := by rw [beq_eq_false_iff_ne]; omega
  rw [h1, h2]
  rfl

/-- A number of the format, said over the least place, is written as its own word. -/
theorem near_exact (neg : Bool) (m k : Nat) (h0 : 0 < m) (h1 : m < 9007199254740992) (h2 : k = 0 ∨ 4503599627370496 ≤ m) (h3 : k * 4503599627370496 + m ≤ 9218868437227405312) :
    double.nearest neg (m * 2 ^ k) (-1074) = double.word neg (k * 4503599627370496 + m) := by
  have hp : 0 < 2 ^ k := Nat.two_pow_pos k
  have hne : m * 2 ^ k ≠ 0 := Nat.ne_of_gt (Nat.mul_pos h0 hp)
  have hlast : max ((-1074 : Int) + ((m * 2 ^ k).log2 : Nat) - (52 : Nat)) (-1074) = -1074 + (k : Int) := by
    have hup : (m * 2 ^ k).log2 < 53 + k := by
      rw [Nat.log2_lt hne, Nat.pow_add]
      exact Nat.mul_lt_mul_of_pos_right h1 hp
    rcases h2 with rfl | h2
    · omega
    · have hlo : 52 + k ≤ (m * 2 ^ k).log2 := by
        rw [Nat.le_log2 hne, Nat.pow_add]
        exact Nat.mul_le_mul_right _ h2
      omega
  unfold Format.nearest
  rw [if_neg hne]
  simp only [dPlace, dBin, dInf]
  rw [show double.fractionBits = 52 from rfl, hlast]
  rw [show ((-1074 : Int) - (-1074 + (k : Int))).toNat = 0 by omega, show ((-1074 : Int) + (k : Int) - (-1074)).toNat = k by omega, Nat.shiftLeft_zero, cut_exact neg m k h0, Nat.min_eq_left h3]

theorem near_zero (neg : Bool) (p : Int) : double.nearest neg 0 p = double.word neg 0 := by
  unfold Format.nearest
  rw [if_pos rfl]

theorem signed_zero (t : Bool) (k : Nat) : signed t 0 k = 0 := by
  unfold signed
  simp

theorem signed_pos (s : Bool) (m k : Nat) (h : 0 < m) : signed s m k ≠ 0 ∧ (decide (signed s m k < 0)) = s ∧ (signed s m k).natAbs = m * 2 ^ k := by
  have hp : 0 < m * 2 ^ k := Nat.mul_pos h (Nat.two_pow_pos k)
  unfold signed
  rw [Nat.shiftLeft_eq]
  generalize m * 2 ^ k = q at hp
  cases s
  · simp only [Bool.false_eq_true, if_false]
    refine ⟨by omega, decide_eq_false (by omega), by omega⟩
  · simp only [if_true]
    refine ⟨by omega, decide_eq_true (by omega), by omega⟩

theorem sum_zero_r (s t : Bool) (m k : Nat) (h : 0 < m) : Datum.sum (.number s m (-1074 + (k : Int))) (.number t 0 (-1074)) = some (.number s (m * 2 ^ k) (-1074)) := by
  obtain ⟨h1, h2, h3⟩ := signed_pos s m k h
  simp only [Datum.sum]
  rw [show min ((-1074 : Int) + (k : Int)) (-1074) = -1074 by omega, show ((-1074 : Int) + (k : Int) - (-1074)).toNat = k by omega, signed_zero, Int.add_zero, if_neg h1, h2, h3]

theorem sum_zero_l (s t : Bool) (m k : Nat) (h : 0 < m) : Datum.sum (.number t 0 (-1074)) (.number s m (-1074 + (k : Int))) = some (.number s (m * 2 ^ k) (-1074)) := by
  obtain ⟨h1, h2, h3⟩ := signed_pos s m k h
  simp only [Datum.sum]
  rw [show min (-1074 : Int) ((-1074 : Int) + (k : Int)) = -1074 by omega, show ((-1074 : Int) + (k : Int) - (-1074)).toNat = k by omega, signed_zero, Int.zero_add, if_neg h1, h2, h3]

/-- A word that is no NaN, read: a zero; a number other than zero, as the format writes it; an infinity. -/
theorem read_form {r : Nat} (h : r < 18446744073709551616) (hn : r % 9223372036854775808 ≤ 9218868437227405312) :
    (r % 9223372036854775808 = 0 ∧ double.read r = .number (sgn r) 0 (-1074)) ∨
    (r % 9223372036854775808 ≠ 0 ∧ ∃ m k : Nat, 0 < m ∧ double.read r = .number (sgn r) m (-1074 + (k : Int)) ∧ double.nearest (sgn r) (m * 2 ^ k) (-1074) = r) ∨
    (r % 9223372036854775808 ≠ 0 ∧ double.read r = .infinity (sgn r) ∧ double.word (sgn r) double.infRung = r) := by
  by_cases h0 : r % 9223372036854775808 = 0
  · refine .inl ⟨h0, ?_⟩
    rw [read_sub (by omega), h0]
  · right
    by_cases h1 : r % 9223372036854775808 < 4503599627370496
    · refine .inl ⟨h0, r % 9223372036854775808, 0, by omega, read_sub h1, ?_⟩
      rw [near_exact _ _ 0 (by omega) (by omega) (.inl rfl) (by omega), Nat.zero_mul, Nat.zero_add]
      exact word_back h
    · by_cases h2 : r % 9223372036854775808 < 9218868437227405312
      · refine .inl ⟨h0, _, _, by omega, read_norm (by omega) h2, ?_⟩
        rw [near_exact _ _ _ (by omega) (by omega) (.inr (by omega)) (by omega)]
        have e : (r % 9223372036854775808 / 4503599627370496 - 1) * 4503599627370496 + (4503599627370496 + r % 9223372036854775808 % 4503599627370496) = r % 9223372036854775808 := by omega
        rw [e]
        exact word_back h
      · have e : r % 9223372036854775808 = 9218868437227405312 := by omega
        refine .inr ⟨h0, read_inf e, ?_⟩
        rw [dInf, ← e]
        exact word_back h

/-- The two zeros. -/
def IsZ (z : Nat) : Prop := z = 0 ∨ z = 9223372036854775808

theorem IsZ.read {z : Nat} (h : IsZ z) : double.read z = .number (sgn z) 0 (-1074) := by
  rcases h with rfl | rfl <;> decide

theorem zero_read : double.read 0 = .number false 0 (-1074) := by decide

theorem add_zero_r {r z : Nat} (h : r < 18446744073709551616) (hn : r % 9223372036854775808 ≤ 9218868437227405312) (h0 : r % 9223372036854775808 ≠ 0) (hz : IsZ z) : addF r z = some r := by
  unfold addF Format.add
  rw [hz.read]
  rcases read_form h hn with ⟨e, _⟩ | ⟨_, m, k, hm, hr, hw⟩ | ⟨_, hr, hw⟩
  · exact absurd e h0
  · rw [hr, sum_zero_r _ _ _ _ hm]
    exact congrArg some hw
  · rw [hr]
    exact congrArg some hw

theorem add_zero_l {r : Nat} (h : r < 18446744073709551616) (hn : r % 9223372036854775808 ≤ 9218868437227405312) (h0 : r % 9223372036854775808 ≠ 0) : addF 0 r = some r := by
  unfold addF Format.add
  rw [zero_read]
  rcases read_form h hn with ⟨e, _⟩ | ⟨_, m, k, hm, hr, hw⟩ | ⟨_, hr, hw⟩
  · exact absurd e h0
  · rw [hr, sum_zero_l _ _ _ _ hm]
    exact congrArg some hw
  · rw [hr]
    exact congrArg some hw

theorem add_zero_zero {z : Nat} (hz : IsZ z) : addF 0 z = some 0 := by
  rcases hz with rfl | rfl <;> decide

/-- 'x == 0' of a word that is no NaN. -/
theorem order_zero {r : Nat} (h : r < 18446744073709551616) (hn : r % 9223372036854775808 ≤ 9218868437227405312) : (double.order r 0 == some .eq) = decide (r % 9223372036854775808 = 0) := by
  unfold Format.order
  rw [zero_read]
  rcases read_form h hn with ⟨e, hr⟩ | ⟨e, m, k, hm, hr, _⟩ | ⟨e, hr, _⟩
  · rw [hr, e]
    simp only [Datum.order, signed_zero]
    rfl
  · rw [hr, decide_eq_false e]
    obtain ⟨h1, _, _⟩ := signed_pos (sgn r) m k hm
    simp only [Datum.order]
    rw [show min ((-1074 : Int) + (k : Int)) (-1074) = -1074 by omega, show ((-1074 : Int) + (k : Int) - (-1074)).toNat = k by omega, signed_zero]
    rw [beq_eq_false_iff_ne]
    intro q
    injection q with q
    exact h1 (Int.compare_eq_eq.1 q)
  · rw [hr, decide_eq_false e]
    simp only [Datum.order]
    cases sgn r <;> rfl

theorem isZ_of {r : Nat} (h : r < 18446744073709551616) (h0 : r % 9223372036854775808 = 0) : IsZ r := by
  unfold IsZ
  omega

/-- The product of a zero weight and a finite cue is a zero. -/
theorem mul_zero_fin {y : Nat} {s : Bool} {m : Nat} {e : Int} (h : double.read y = .number s m e) : ∃ z, mulF 0 y = some z ∧ IsZ z := by
  unfold mulF Format.mul
  rw [zero_read, h]
  refine ⟨double.word (false ^^ s) 0, ?_, ?_⟩
  · simp only [Datum.product, Nat.zero_mul, Option.map_some, Format.write, near_zero]
  · cases s
    · exact .inl (by decide)
    · exact .inr (by decide)

/-- A product that is no NaN: its word. -/
theorem mul_form {x y r : Nat} (h : mulF x y = some r) : r < 18446744073709551616 ∧ r % 9223372036854775808 ≤ 9218868437227405312 := by
  have hlt : r < 2 ^ double.width := double.mul_lt h
  have hw : (2 : Nat) ^ double.width = 18446744073709551616 := by decide
  refine ⟨by omega, ?_⟩
  have word_le : ∀ (neg : Bool) (q : Nat), q ≤ 9218868437227405312 → double.word neg q % 9223372036854775808 ≤ 9218868437227405312 := by
    intro neg q hq
    unfold Format.word
    rw [dSign]
    cases neg <;> simp <;> omega
  unfold mulF Format.mul at h
  obtain ⟨d, hd, rfl⟩ := Option.map_eq_some_iff.1 h
  cases d with
  | number s m e =>
    show double.nearest s m e % _ ≤ _
    unfold Format.nearest
    split
    · exact word_le _ _ (by omega)
    · exact word_le _ _ (by rw [dInf]; exact Nat.min_le_right _ _)
  | infinity s =>
    exact word_le _ _ (by rw [dInf]; exact Nat.le_refl _)
  | nan s f =>
    exfalso
    revert hd
    generalize double.read x = a
    generalize double.read y = b
    cases a <;> cases b <;> simp only [Datum.product] <;> intro hd <;> first | (cases hd; done) | (split at hd <;> cases hd)
end Go.Proofs.Ybulkcdhk
