/-
  Plain: a float doubled, halved, compared, made whole, negated, by its word.
-/
import Derived.Test.Qxb6615058aDoorN12
namespace Go.Proofs.Qxb6615058aDoor
open Ieee

/-- The word of the positive float m * 2^E. -/
def wordOf (m : Nat) (E : Int) : Nat := (E + 1074).toNat * 4503599627370496 + m

theorem word_parts {m : Nat} {E : Int} (hf : IsFloat m E) : Fin64 (wordOf m E) ∧ negOf (wordOf m E) = false ∧ mOf (wordOf m E) = m ∧ eOf (wordOf m E) = E := by
  have h1 := hf.lt
  have h2 := hf.lo
  have h3 := hf.hi
  have h4 := hf.norm
  have hp := hf.pos
  obtain ⟨k, hk⟩ : ∃ k : Nat, (k : Int) = E + 1074 := ⟨(E + 1074).toNat, by omega⟩
  have hw : wordOf m E = k * 4503599627370496 + m := by unfold wordOf; rw [← hk]; rfl
  have hr : rungOf (wordOf m E) = wordOf m E := by unfold rungOf; rw [hw]; omega
  refine ⟨⟨by rw [hw]; omega, by rw [hr, hw]; omega⟩, by unfold negOf; rw [hw]; simp; omega, ?_, ?_⟩
  · unfold mOf
    rw [hr, hw]
    split <;> omega
  · unfold eOf
    rw [hr, hw]
    split <;> omega

theorem word_read {m : Nat} {E : Int} (hf : IsFloat m E) : double.read (wordOf m E) = .number false m E := by
  obtain ⟨h1, h2, h3, h4⟩ := word_parts hf
  rw [read_fin h1, h2, h3, h4]

theorem word_of {b : Nat} (hb : Fin64 b) (hn : negOf b = false) : b = wordOf (mOf b) (eOf b) := by
  have h1 := hb.1
  have h2 := hb.2
  unfold negOf at hn
  simp at hn
  have hr : rungOf b = b := by unfold rungOf; omega
  unfold wordOf mOf eOf
  rw [hr]
  rw [hr] at h2
  split <;> omega

theorem weights2 : double.fractionBits = 52 ∧ double.exponentBits = 11 := ⟨rfl, rfl⟩

theorem cut_exact (n drop : Nat) : Toward.even.cut false (n * 2 ^ drop) drop = n := by
  unfold Toward.cut
  dsimp only
  by_cases hn : n = 0
  · subst hn
    simp
  · have hlog : drop ≤ (n * 2 ^ drop).log2 := by
      rw [Nat.le_log2 (by have := Nat.two_pow_pos drop; exact Nat.ne_of_gt (Nat.mul_pos (by omega) this))]
      exact Nat.le_mul_of_pos_left _ (by omega)
    rw [Nat.min_eq_left (by omega), Nat.one_shiftLeft, Nat.mul_div_cancel _ (Nat.two_pow_pos drop), Nat.mul_mod_left]
    have hp := Nat.two_pow_pos drop
    have e1 : decide (2 ^ drop < 2 * 0) = false := by simp
    have e2 : (2 ^ drop == 2 * 0) = false := by rw [beq_eq_false_iff_ne]; omega
    rw [e1, e2]
    simp

/-- A number that the format has is written as it is. -/
theorem nearest_exact {m : Nat} {E : Int} (hf : IsFloat m E) (j : Nat) : double.nearest false (m * 2 ^ j) (E - j) = wordOf m E := by
  obtain ⟨w1, w2, w3, w4⟩ := weights
  have h1 := hf.lt
  have h2 := hf.lo
  have h3 := hf.hi
  have h4 := hf.norm
  have hp := hf.pos
  have hlog : (m * 2 ^ j).log2 = m.log2 + j := by
    have h0 : m * 2 ^ j ≠ 0 := Nat.ne_of_gt (Nat.mul_pos (by omega) (Nat.two_pow_pos j))
    rw [Nat.log2_eq_iff h0]
    have a := Nat.log2_self_le (show m ≠ 0 by omega)
    have b := Nat.lt_log2_self (n := m)
    refine ⟨by rw [Nat.pow_add]; exact Nat.mul_le_mul_right _ a, ?_⟩
    rw [show m.log2 + j + 1 = m.log2 + 1 + j by omega, Nat.pow_add]
    exact (Nat.mul_lt_mul_right (Nat.two_pow_pos j)).2 b
  have hml : m.log2 ≤ 52 := by
    have := (Nat.log2_lt (by omega : m ≠ 0)).2 (show m < 2 ^ 53 by omega)
    omega
  have hlast : max (E - (j : Int) + ((m * 2 ^ j).log2 : Int) - (double.fractionBits : Int)) double.leastPlace = E := by
    rw [hlog, w4, weights2.1]
    rcases h4 with h | h
    · have : 52 ≤ m.log2 := (Nat.le_log2 (by omega)).2 (by omega)
      omega
    · omega
  unfold Format.nearest
  rw [if_neg (by have := Nat.two_pow_pos j; exact Nat.ne_of_gt (Nat.mul_pos (by omega) this))]
  dsimp only
  rw [hlast, w2, w3, w4]
  rw [show (E - (j : Int) - E).toNat = 0 by omega, show (E - (E - (j : Int))).toNat = j by omega, Nat.shiftLeft_zero, cut_exact]
  obtain ⟨k, hk⟩ : ∃ k : Nat, (k : Int) = E + 1074 := ⟨(E + 1074).toNat, by omega⟩
  have e1 : (E - -1074).toNat = k := by omega
  have e2 : (E + 1074).toNat = k := by omega
  have hb : k * 4503599627370496 + m ≤ 9218868437227405312 := by omega
  simp only [Format.word, Bool.false_eq_true, if_false]
  unfold wordOf
  rw [e1, e2]
  exact Nat.min_eq_left hb

theorem two_read : double.read 4611686018427387904 = .number false 4503599627370496 (-51) := by decide +kernel

/-- a * 2. -/
theorem mul_two {m m' : Nat} {E E' : Int} (hf : IsFloat m E) (hf' : IsFloat m' E') (j : Nat) (h1 : m * 4503599627370496 = m' * 2 ^ j) (h2 : E - 51 = E' - j) : double.mul (wordOf m E) 4611686018427387904 = some (wordOf m' E') := by
  unfold Format.mul
  rw [word_read hf, two_read]
  simp only [Datum.product, Option.map_some, Format.write, Bool.false_xor]
  rw [show E + -51 = E' - (j : Int) by omega, h1, nearest_exact hf' j]

theorem dbl_norm {m : Nat} {E : Int} (hf : IsFloat m E) (hn : 4503599627370496 ≤ m) (hE : E + 1 ≤ 971) : IsFloat m (E + 1) ∧ double.mul (wordOf m E) 4611686018427387904 = some (wordOf m (E + 1)) := by
  have hf' : IsFloat m (E + 1) := ⟨hf.pos, hf.lt, by have := hf.lo; omega, hE, .inl hn⟩
  exact ⟨hf', mul_two hf hf' 52 rfl (by omega)⟩
theorem dbl_sub {m : Nat} {E : Int} (hf : IsFloat m E) (hn : m < 4503599627370496) : IsFloat (2 * m) E ∧ double.mul (wordOf m E) 4611686018427387904 = some (wordOf (2 * m) E) := by
  have hf' : IsFloat (2 * m) E := ⟨by have := hf.pos; omega, by omega, hf.lo, hf.hi, .inr (by have := hf.norm; omega)⟩
  exact ⟨hf', mul_two hf hf' 51 (by omega) (by omega)⟩

/-- a / 2. -/
theorem half {m : Nat} {E : Int} (hf : IsFloat m E) (hn : 4503599627370496 ≤ m) (hE : -1074 ≤ E - 1) : IsFloat m (E - 1) ∧ double.div (wordOf m E) 4611686018427387904 = some (wordOf m (E - 1)) := by
  have hf' : IsFloat m (E - 1) := ⟨hf.pos, hf.lt, hE, by have := hf.hi; omega, .inl hn⟩
  refine ⟨hf', ?_⟩
  have h1 := hf.lt
  have hlog : m.log2 = 52 := by
    have a := (Nat.log2_lt (by omega : m ≠ 0)).2 (show m < 2 ^ 53 by omega)
    have b : 52 ≤ m.log2 := (Nat.le_log2 (by omega)).2 (by omega)
    omega
  unfold Format.div
  rw [word_read hf, two_read]
  have hl2 : (4503599627370496 : Nat).log2 = 52 := by decide +kernel
  simp only [Datum.quotient, weights2.1, hl2, hlog]
  rw [if_neg (by decide)]
  simp only [Option.map_some, Format.write, Bool.false_xor]
  have e1 : m <<< (52 + 2 + 52 - 52) / 4503599627370496 = m * 4 := by rw [Nat.shiftLeft_eq]; omega
  have e2 : m <<< (52 + 2 + 52 - 52) % 4503599627370496 = 0 := by rw [Nat.shiftLeft_eq]; omega
  rw [e1, e2]
  have e3 : 2 * (m * 4) + ((0 : Nat) != 0).toNat = m * 2 ^ 3 := by simp; omega
  rw [e3]
  have h := nearest_exact hf' 3
  rw [show E - 1 - ((3 : Nat) : Int) = E - -51 - ((52 + 2 + 52 - 52 : Nat) : Int) - 1 by omega] at h
  exact congrArg some h

theorem r52 : double.read 4841369599423283200 = .number false 4503599627370496 0 := by decide +kernel
theorem r53 : double.read 4845873199050653696 = .number false 4503599627370496 1 := by decide +kernel

theorem lt52 {m : Nat} {E : Int} (hf : IsFloat m E) : (double.order (wordOf m E) 4841369599423283200 == some .lt) = decide (E < 0) := by
  unfold Format.order
  rw [word_read hf, r52]
  simp only [Datum.order, signed]
  have h1 := hf.lt
  have h4 := hf.norm
  rw [if_neg (by decide), if_neg (by decide)]
  by_cases hE : E < 0
  · have e : compare (((m <<< (E - min E 0).toNat : Nat)) : Int) (((4503599627370496 <<< (0 - min E 0).toNat : Nat)) : Int) = .lt := by
      rw [Int.compare_eq_lt, show (E - min E 0).toNat = 0 by omega, Nat.shiftLeft_zero]
      obtain ⟨k, hk⟩ : ∃ k, (0 - min E 0).toNat = k + 1 := ⟨(0 - min E 0).toNat - 1, by omega⟩
      rw [hk, Nat.shiftLeft_eq, Nat.pow_succ]
      have := Nat.two_pow_pos k
      have h5 : 4503599627370496 * 2 ≤ 4503599627370496 * (2 ^ k * 2) := Nat.mul_le_mul_left _ (by omega)
      omega
    rw [e, decide_eq_true hE]
    rfl
  · have e : compare (((m <<< (E - min E 0).toNat : Nat)) : Int) (((4503599627370496 <<< (0 - min E 0).toNat : Nat)) : Int) ≠ .lt := by
      rw [ne_eq, Int.compare_eq_lt, show (0 - min E 0).toNat = 0 by omega, Nat.shiftLeft_zero, Nat.shiftLeft_eq]
      have := Nat.two_pow_pos (E - min E 0).toNat
      have h5 : m * 1 ≤ m * 2 ^ (E - min E 0).toNat := Nat.mul_le_mul_left _ (by omega)
      omega
    rw [decide_eq_false hE, beq_eq_false_iff_ne]
    intro h
    exact e (Option.some.inj h)

theorem ge53 {m : Nat} {E : Int} (hf : IsFloat m E) : (double.order (wordOf m E) 4845873199050653696 == some .gt || double.order (wordOf m E) 4845873199050653696 == some .eq) = decide (1 ≤ E) := by
  unfold Format.order
  rw [word_read hf, r53]
  simp only [Datum.order, signed]
  have h1 := hf.lt
  have h4 := hf.norm
  rw [if_neg (by decide), if_neg (by decide)]
  by_cases hE : 1 ≤ E
  · have e : compare (((m <<< (E - min E 1).toNat : Nat)) : Int) (((4503599627370496 <<< (1 - min E 1).toNat : Nat)) : Int) ≠ .lt := by
      rw [ne_eq, Int.compare_eq_lt, show (1 - min E 1).toNat = 0 by omega, Nat.shiftLeft_zero, Nat.shiftLeft_eq]
      have := Nat.two_pow_pos (E - min E 1).toNat
      have h5 : m * 1 ≤ m * 2 ^ (E - min E 1).toNat := Nat.mul_le_mul_left _ (by omega)
      omega
    rw [decide_eq_true hE]
    generalize compare (((m <<< (E - min E 1).toNat : Nat)) : Int) (((4503599627370496 <<< (1 - min E 1).toNat : Nat)) : Int) = o at *
    cases o
    · exact absurd rfl e
    · rfl
    · rfl
  · have e : compare (((m <<< (E - min E 1).toNat : Nat)) : Int) (((4503599627370496 <<< (1 - min E 1).toNat : Nat)) : Int) = .lt := by
      rw [Int.compare_eq_lt, show (E - min E 1).toNat = 0 by omega, Nat.shiftLeft_zero]
      obtain ⟨k, hk⟩ : ∃ k, (1 - min E 1).toNat = k + 1 := ⟨(1 - min E 1).toNat - 1, by omega⟩
      rw [hk, Nat.shiftLeft_eq, Nat.pow_succ]
      have := Nat.two_pow_pos k
      have h5 : 4503599627370496 * 2 ≤ 4503599627370496 * (2 ^ k * 2) := Nat.mul_le_mul_left _ (by omega)
      omega
    rw [e, decide_eq_false hE]
    rfl

/-- uint64(a) of a whole float below 2^53. -/
theorem whole {m : Nat} (hf : IsFloat m 0) : (double.read (wordOf m 0)).toInt .zero = some (m : Int) := by
  rw [word_read hf]
  simp only [Datum.toInt, Datum.integral]
  have e : Toward.zero.cut false (m <<< (0 : Int).toNat) (-(0 : Int)).toNat = m := by
    unfold Toward.cut
    simp
  rw [e]
  simp [signed]

/-- -f. -/
def negW (b : Nat) : Nat := b ^^^ 9223372036854775808
theorem negW_eq {b : Nat} (h : b < 18446744073709551616) : negW b = if negOf b then b - 9223372036854775808 else b + 9223372036854775808 := by
  unfold negW negOf
  by_cases hn : 9223372036854775808 ≤ b
  · rw [decide_eq_true hn, if_pos rfl]
    obtain ⟨r, rfl⟩ : ∃ r, b = 2 ^ 63 * 1 + r := ⟨b - 9223372036854775808, by omega⟩
    have hr : r < 2 ^ 63 := by omega
    rw [Nat.two_pow_add_eq_or_of_lt hr 1]
    apply Nat.eq_of_testBit_eq
    intro i
    rw [Nat.testBit_xor, Nat.testBit_or, ← Nat.two_pow_add_eq_or_of_lt hr 1, show (9223372036854775808 : Nat) = 2 ^ 63 from rfl, Nat.testBit_two_pow]
    rw [show 2 ^ 63 * 1 + r - 2 ^ 63 = r by omega]
    rw [Nat.mul_one, Nat.testBit_two_pow]
    by_cases hi : 63 = i
    · subst hi
      rw [Nat.testBit_lt_two_pow hr]
      rfl
    · simp [hi]
  · rw [decide_eq_false hn, if_neg (by decide)]
    have hr : b < 2 ^ 63 := by omega
    have h2 := Nat.two_pow_add_eq_or_of_lt hr 1
    rw [show b + 9223372036854775808 = 2 ^ 63 * 1 + b by omega, h2]
    apply Nat.eq_of_testBit_eq
    intro i
    rw [Nat.testBit_xor, Nat.testBit_or, show (9223372036854775808 : Nat) = 2 ^ 63 from rfl, Nat.mul_one, Nat.testBit_two_pow]
    by_cases hi : 63 = i
    · subst hi
      rw [Nat.testBit_lt_two_pow hr]
      rfl
    · simp [hi]

theorem negW_parts {b : Nat} (hb : Fin64 b) : Fin64 (negW b) ∧ negOf (negW b) = !negOf b ∧ mOf (negW b) = mOf b ∧ eOf (negW b) = eOf b := by
  have h1 := hb.1
  have h2 := hb.2
  have hw := negW_eq h1
  have hr : rungOf (negW b) = rungOf b := by
    rw [hw]
    unfold rungOf negOf
    by_cases hn : 9223372036854775808 ≤ b
    · rw [decide_eq_true hn, if_pos rfl]; omega
    · rw [decide_eq_false hn, if_neg (by decide)]; omega
  refine ⟨⟨?_, by rw [hr]; exact h2⟩, ?_, by unfold mOf; rw [hr], by unfold eOf; rw [hr]⟩
  · rw [hw]
    unfold negOf
    by_cases hn : 9223372036854775808 ≤ b
    · rw [decide_eq_true hn, if_pos rfl]; omega
    · rw [decide_eq_false hn, if_neg (by decide)]; omega
  · rw [hw]
    unfold negOf
    by_cases hn : 9223372036854775808 ≤ b
    · rw [decide_eq_true hn, if_pos rfl]; simp; omega
    · rw [decide_eq_false hn, if_neg (by decide)]; simp
end Go.Proofs.Qxb6615058aDoor
