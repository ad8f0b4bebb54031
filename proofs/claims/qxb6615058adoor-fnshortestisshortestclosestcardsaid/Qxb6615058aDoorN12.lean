/-
  Plain: a float64's word read; how two floats stand to each other.
-/
import Derived.Test.Qxb6615058aDoorN8
import Ieee.Arith
namespace Go.Proofs.Qxb6615058aDoor
open Ieee

def negOf (b : Nat) : Bool := decide (9223372036854775808 ≤ b)
def rungOf (b : Nat) : Nat := b % 9223372036854775808
/-- The word stands for a number. -/
def Fin64 (b : Nat) : Prop := b < 18446744073709551616 ∧ rungOf b < 9218868437227405312
def mOf (b : Nat) : Nat := if rungOf b < 4503599627370496 then rungOf b else 4503599627370496 + rungOf b % 4503599627370496
def eOf (b : Nat) : Int := if rungOf b < 4503599627370496 then -1074 else -1074 + ((rungOf b / 4503599627370496 - 1 : Nat) : Int)

theorem weights : double.signWeight = 9223372036854775808 ∧ double.binade = 4503599627370496 ∧ double.infRung = 9218868437227405312 ∧ double.leastPlace = -1074 := by decide +kernel

theorem read_fin {b : Nat} (h : Fin64 b) : double.read b = .number (negOf b) (mOf b) (eOf b) := by
  obtain ⟨w1, w2, w3, w4⟩ := weights
  obtain ⟨h1, h2⟩ := h
  have hn : (b / 9223372036854775808 % 2 == 1) = negOf b := by
    unfold negOf
    rw [Bool.eq_iff_iff]
    simp
    omega
  unfold Format.read
  rw [w1, w2, w3, w4]
  unfold mOf eOf rungOf at *
  simp only [hn]
  by_cases hs : b % 9223372036854775808 < 4503599627370496
  · rw [if_pos hs, if_pos hs, if_pos hs]
  · rw [if_neg hs, if_neg hs, if_neg hs, if_pos h2]

theorem read_inf {b : Nat} (h : ¬ rungOf b < 9218868437227405312) : (∃ s, double.read b = .infinity s) ∨ ∃ s t, double.read b = .nan s t := by
  obtain ⟨w1, w2, w3, w4⟩ := weights
  unfold Format.read
  rw [w1, w2, w3, w4]
  unfold rungOf at h
  dsimp only
  rw [if_neg (by omega), if_neg h]
  split
  · exact .inl ⟨_, rfl⟩
  · exact .inr ⟨_, _, rfl⟩

/-- f - f of a number is 0. -/
theorem sub_fin {b : Nat} (h : Fin64 b) : double.sub b b = some 0 := by
  unfold Format.sub
  rw [read_fin h]
  simp only [Datum.opposite, Datum.sum, Int.min_self, Int.sub_self, Int.toNat_zero, Option.map_some]
  have hz : signed (negOf b) (mOf b) 0 + signed (!negOf b) (mOf b) 0 = 0 := by
    unfold signed
    cases negOf b <;> simp <;> omega
  rw [hz]
  have hf : (negOf b && !negOf b) = false := by cases negOf b <;> rfl
  simp only [if_true, hf, Int.natAbs_zero]
  unfold Format.write Format.nearest
  rfl

/-- f - f of another is no number. -/
theorem sub_inf {b : Nat} (h : ¬ rungOf b < 9218868437227405312) : double.sub b b = none := by
  unfold Format.sub
  rcases read_inf h with ⟨s, e⟩ | ⟨s, t, e⟩
  · rw [e]
    cases s <;> rfl
  · rw [e]
    rfl

theorem read_zero : double.read 0 = .number false 0 (-1074) := by decide +kernel

/-- A NaN is not 0. -/
theorem order_nan (t : Nat) : double.order (t % 2 * 9223372036854775808 + 9218868437227405312 + 1 + t / 2 % 4503599627370495) 0 = none := by
  have hr : ¬ rungOf (t % 2 * 9223372036854775808 + 9218868437227405312 + 1 + t / 2 % 4503599627370495) < 9218868437227405312 := by
    unfold rungOf
    have h1 : t % 2 < 2 := Nat.mod_lt _ (by decide)
    have h2 : t / 2 % 4503599627370495 < 4503599627370495 := Nat.mod_lt _ (by decide)
    generalize t % 2 = x at *
    generalize t / 2 % 4503599627370495 = y at *
    omega
  obtain ⟨w1, w2, w3, w4⟩ := weights
  unfold Format.order
  have e : ∃ s u, double.read (t % 2 * 9223372036854775808 + 9218868437227405312 + 1 + t / 2 % 4503599627370495) = .nan s u := by
    unfold Format.read
    rw [w1, w2, w3, w4]
    unfold rungOf at hr
    dsimp only
    have h1 : t % 2 < 2 := Nat.mod_lt _ (by decide)
    have h2 : t / 2 % 4503599627370495 < 4503599627370495 := Nat.mod_lt _ (by decide)
    generalize t % 2 = x at *
    generalize t / 2 % 4503599627370495 = y at *
    rw [if_neg (by omega), if_neg hr, if_neg (by omega)]
    exact ⟨_, _, rfl⟩
  obtain ⟨s, u, e⟩ := e
  rw [e]
  rfl

theorem isFloat_of {b : Nat} (h : Fin64 b) (hm : mOf b ≠ 0) : IsFloat (mOf b) (eOf b) := by
  obtain ⟨h1, h2⟩ := h
  have hb : rungOf b < 9223372036854775808 := Nat.mod_lt _ (by decide)
  unfold mOf eOf at *
  generalize rungOf b = r at *
  by_cases hs : r < 4503599627370496
  · rw [if_pos hs] at hm
    rw [if_pos hs, if_pos hs]
    exact ⟨by omega, by omega, by omega, by omega, .inr rfl⟩
  · rw [if_neg hs, if_neg hs]
    exact ⟨by omega, by omega, by omega, by omega, .inl (by omega)⟩

theorem mOf_zero {b : Nat} (h : mOf b = 0) : eOf b = -1074 ∧ rungOf b = 0 := by
  unfold mOf eOf at *
  split at h
  · rename_i hs
    rw [if_pos hs]
    exact ⟨rfl, h⟩
  · omega

/-- Of two magnitudes: which is less. -/
def MagLt (m1 : Nat) (E1 : Int) (m2 : Nat) (E2 : Int) : Prop := 0 < m2 ∧ (m1 = 0 ∨ 0 < m1 ∧ (E1 < E2 ∨ E1 = E2 ∧ m1 < m2))

theorem mag_of {a b : Nat} (ha : Fin64 a) (hb : Fin64 b) (h : mOf a <<< (eOf a - min (eOf a) (eOf b)).toNat < mOf b <<< (eOf b - min (eOf a) (eOf b)).toNat) : MagLt (mOf a) (eOf a) (mOf b) (eOf b) := by
  rw [Nat.shiftLeft_eq, Nat.shiftLeft_eq] at h
  have hb0 : mOf b ≠ 0 := by
    intro e
    rw [e, Nat.zero_mul] at h
    exact Nat.not_lt_zero _ h
  refine ⟨by omega, ?_⟩
  by_cases ha0 : mOf a = 0
  · exact .inl ha0
  · right
    have fa := isFloat_of ha ha0
    have fb := isFloat_of hb hb0
    refine ⟨by omega, ?_⟩
    rcases Int.lt_trichotomy (eOf a) (eOf b) with c | c | c
    · exact .inl c
    · right
      rw [c] at h ⊢
      simp only [Int.min_self, Int.sub_self, Int.toNat_zero, Nat.pow_zero, Nat.mul_one] at h
      exact ⟨rfl, h⟩
    · exfalso
      have n1 := fa.norm
      have n2 := fb.lt
      have n3 := fb.lo
      have e1 : (eOf b - min (eOf a) (eOf b)).toNat = 0 := by omega
      obtain ⟨k, hk⟩ : ∃ k, (eOf a - min (eOf a) (eOf b)).toNat = k + 1 := ⟨(eOf a - min (eOf a) (eOf b)).toNat - 1, by omega⟩
      rw [e1, hk, Nat.pow_zero, Nat.mul_one, Nat.pow_succ] at h
      have p := Nat.two_pow_pos k
      have q : 4503599627370496 * 2 ≤ mOf a * (2 ^ k * 2) := Nat.mul_le_mul (by omega) (by omega)
      omega

/-- f < g, both numbers: by the signs. -/
theorem lt_cases {a b : Nat} (ha : Fin64 a) (hb : Fin64 b) (h : double.order a b = some .lt) :
    (negOf a = false ∧ negOf b = false ∧ MagLt (mOf a) (eOf a) (mOf b) (eOf b)) ∨
    (negOf a = true ∧ negOf b = true ∧ MagLt (mOf b) (eOf b) (mOf a) (eOf a)) ∨
    (negOf a = true ∧ negOf b = false ∧ (mOf a ≠ 0 ∨ mOf b ≠ 0)) := by
  unfold Format.order at h
  rw [read_fin ha, read_fin hb] at h
  simp only [Datum.order, Option.some.injEq] at h
  rw [Int.compare_eq_lt] at h
  unfold signed at h
  have hx := mag_of ha hb
  have hy := mag_of hb ha
  rw [Int.min_comm] at hy
  have hz : mOf a = 0 → mOf b = 0 → mOf a <<< (eOf a - min (eOf a) (eOf b)).toNat = 0 ∧ mOf b <<< (eOf b - min (eOf a) (eOf b)).toNat = 0 := by
    intro e1 e2
    rw [e1, e2]
    simp
  generalize mOf a <<< (eOf a - min (eOf a) (eOf b)).toNat = X at *
  generalize mOf b <<< (eOf b - min (eOf a) (eOf b)).toNat = Y at *
  cases na : negOf a <;> cases nb : negOf b <;> rw [na, nb] at h <;> simp only [Bool.false_eq_true, if_false, if_true] at h
  · exact .inl ⟨rfl, rfl, hx (by omega)⟩
  · omega
  · right; right
    refine ⟨rfl, rfl, ?_⟩
    by_cases e1 : mOf a = 0
    · right
      intro e2
      have := hz e1 e2
      omega
    · exact .inl e1
  · exact .inr (.inl ⟨rfl, rfl, hy (by omega)⟩)

theorem order_zero {b : Nat} (h : Fin64 b) : double.order b 0 = some (if mOf b = 0 then .eq else if negOf b then .lt else .gt) := by
  unfold Format.order
  rw [read_fin h, read_zero]
  simp only [Datum.order, Option.some.injEq]
  have e0 : signed false 0 (-1074 - min (eOf b) (-1074)).toNat = 0 := by
    unfold signed; simp
  rw [e0]
  by_cases hm : mOf b = 0
  · rw [if_pos hm, hm]
    unfold signed
    cases negOf b <;> simp
  · rw [if_neg hm]
    have hp : 0 < mOf b <<< (eOf b - min (eOf b) (-1074)).toNat := by
      rw [Nat.shiftLeft_eq]
      exact Nat.mul_pos (by omega) (Nat.two_pow_pos _)
    unfold signed
    generalize mOf b <<< (eOf b - min (eOf b) (-1074)).toNat = X at *
    cases negOf b
    · simp only [Bool.false_eq_true, if_false]
      rw [Int.compare_eq_gt]
      omega
    · simp only [if_true]
      rw [Int.compare_eq_lt]
      omega

/-- A zero's word. -/
theorem zero_word {b : Nat} (h : Fin64 b) (hm : mOf b = 0) : b = if negOf b then 9223372036854775808 else 0 := by
  have h1 := (mOf_zero hm).2
  have h2 := h.1
  unfold rungOf at h1
  unfold negOf
  by_cases hn : 9223372036854775808 ≤ b
  · simp [hn]; omega
  · simp [hn]; omega

theorem inv_zero : double.div 4607182418800017408 0 = some 9218868437227405312 ∧ double.div 4607182418800017408 9223372036854775808 = some 18442240474082181120 := by decide +kernel
theorem inf_order : double.order 9218868437227405312 0 = some .gt ∧ double.order 18442240474082181120 0 = some .lt := by decide +kernel
end Go.Proofs.Qxb6615058aDoor
