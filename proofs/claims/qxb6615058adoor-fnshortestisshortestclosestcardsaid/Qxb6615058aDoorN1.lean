/-
  Plain: how near y*a can come to a multiple of b, for y below a bound: a certificate of four numbers.
-/
namespace Go.Proofs.Qxb6615058aDoor

/-- How far y*a stands from x*b. -/
def dist (a b : Int) (y x : Int) : Int := y * a - x * b

theorem dist_lin (a b u v q p q' p' : Int) : dist a b (u * q + v * q') (u * p + v * p') = u * dist a b q p + v * dist a b q' p' := by
  unfold dist
  simp only [Int.add_mul, Int.mul_sub, Int.mul_assoc]
  omega

/-- Any pair is a sum of the two, their determinant being 1. -/
theorem cramer {q p q' p' : Int} (hdet : q * p' - q' * p = 1) (y x : Int) : y = (y * p' - x * q') * q + (q * x - p * y) * q' ∧ x = (y * p' - x * q') * p + (q * x - p * y) * p' := by
  constructor
  · have h : (y * p' - x * q') * q + (q * x - p * y) * q' = y * (q * p' - q' * p) := by
      simp only [Int.sub_mul, Int.mul_sub]
      have e1 : y * p' * q = y * (q * p') := by rw [Int.mul_assoc, Int.mul_comm p' q]
      have e2 : x * q' * q = q * x * q' := by rw [Int.mul_comm q x, Int.mul_assoc, Int.mul_assoc, Int.mul_comm q' q]
      have e3 : p * y * q' = y * (q' * p) := by rw [Int.mul_comm p y, Int.mul_assoc, Int.mul_comm p q']
      omega
    rw [h, hdet, Int.mul_one]
  · have h : (y * p' - x * q') * p + (q * x - p * y) * p' = x * (q * p' - q' * p) := by
      simp only [Int.sub_mul, Int.mul_sub]
      have e1 : y * p' * p = p * y * p' := by rw [Int.mul_comm p y, Int.mul_assoc, Int.mul_assoc, Int.mul_comm p' p]
      have e2 : x * q' * p = x * (q' * p) := by rw [Int.mul_assoc]
      have e3 : q * x * p' = x * (q * p') := by rw [Int.mul_comm q x, Int.mul_assoc]
      omega
    rw [h, hdet, Int.mul_one]

/-- The law of best approximation: q, p one convergent, q', p' the next, on opposite sides. -/
theorem best {a b q p q' p' : Int} (hdet : q * p' - q' * p = 1) (hq : 0 ≤ q) (hq' : 0 ≤ q') (h1 : 0 ≤ dist a b q p) (h2 : dist a b q' p' ≤ 0) (y x : Int) (hy : 0 < y) (hy2 : y < q') :
    dist a b q p ≤ dist a b y x ∨ dist a b q p ≤ -dist a b y x := by
  obtain ⟨e1, e2⟩ := cramer hdet y x
  generalize y * p' - x * q' = u at e1 e2
  generalize q * x - p * y = v at e1 e2
  have hD := dist_lin a b u v q p q' p'
  rw [← e1, ← e2] at hD
  generalize dist a b q p = A at *
  generalize dist a b q' p' = B at *
  generalize dist a b y x = C at *
  rcases Int.lt_trichotomy u 0 with hu | hu | hu
  · -- u negative: v must be positive
    have hv : 0 < v := by
      rcases Int.lt_or_le 0 v with h | h
      · exact h
      · exfalso
        have m1 : u * q ≤ 0 := Int.mul_nonpos_of_nonpos_of_nonneg (Int.le_of_lt hu) hq
        have m2 : v * q' ≤ 0 := Int.mul_nonpos_of_nonpos_of_nonneg h hq'
        omega
    right
    have m1 : u * A ≤ -A := by
      have h3 : (u + 1) * A ≤ 0 := Int.mul_nonpos_of_nonpos_of_nonneg (by omega) h1
      rw [Int.add_mul, Int.one_mul] at h3
      omega
    have m2 : v * B ≤ 0 := Int.mul_nonpos_of_nonneg_of_nonpos (Int.le_of_lt hv) h2
    omega
  · -- u = 0
    exfalso
    rw [hu, Int.zero_mul, Int.zero_add] at e1
    rcases Int.lt_or_le 0 v with h | h
    · have m1 : q' ≤ v * q' := by
        have h3 : 0 ≤ (v - 1) * q' := Int.mul_nonneg (by omega) hq'
        rw [Int.sub_mul, Int.one_mul] at h3
        omega
      omega
    · have m2 : v * q' ≤ 0 := Int.mul_nonpos_of_nonpos_of_nonneg h hq'
      omega
  · -- u positive: v must not be positive
    have hv : v ≤ 0 := by
      rcases Int.lt_or_le 0 v with h | h
      · exfalso
        have m1 : 0 ≤ u * q := Int.mul_nonneg (Int.le_of_lt hu) hq
        have m2 : q' ≤ v * q' := by
          have h3 : 0 ≤ (v - 1) * q' := Int.mul_nonneg (by omega) hq'
          rw [Int.sub_mul, Int.one_mul] at h3
          omega
        omega
      · exact h
    left
    have m1 : A ≤ u * A := by
      have h3 : 0 ≤ (u - 1) * A := Int.mul_nonneg (by omega) h1
      rw [Int.sub_mul, Int.one_mul] at h3
      omega
    have m2 : 0 ≤ v * B := Int.mul_nonneg_of_nonpos_of_nonpos hv h2
    omega
end Go.Proofs.Qxb6615058aDoor
