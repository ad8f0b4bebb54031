/-
  Plain: the certificates, reckoned for every exponent of a float64.
-/
import Derived.Test.Qxb6615058aDoorN1
namespace Go.Proofs.Qxb6615058aDoor

/-- Euclid's way, till the second denominator reaches N or the rest is nothing. -/
def run : Nat → Nat → Nat × Nat × Nat → Nat × Nat × Nat → Bool → (Nat × Nat × Nat) × (Nat × Nat × Nat) × Bool
  | 0, _, c, d, sg => (c, d, sg)
  | f + 1, N, c, d, sg =>
    if N ≤ d.1 then (c, d, sg)
    else if d.2.2 = 0 then (c, d, sg)
    else
      let t := c.2.2 / d.2.2
      run f N d (t * d.1 + c.1, t * d.2.1 + c.2.1, c.2.2 - t * d.2.2) (!sg)

/-- Are these two neighbours, on opposite sides, far enough? -/
def certOk (a b M N : Nat) (r : (Nat × Nat × Nat) × (Nat × Nat × Nat) × Bool) : Bool :=
  let c := r.1
  let d := r.2.1
  decide (b ≤ c.2.2 * M) && (decide (N ≤ d.1) || decide (d.2.2 = 0)) &&
    if r.2.2 then decide (c.1 * a = c.2.1 * b + c.2.2) && decide (d.1 * a + d.2.2 = d.2.1 * b) && decide (c.1 * d.2.1 = d.1 * c.2.1 + 1)
    else decide (c.1 * a + c.2.2 = c.2.1 * b) && decide (d.1 * a = d.2.1 * b + d.2.2) && decide (c.1 * d.2.1 + 1 = d.1 * c.2.1)

def log10Pow2 (x : Int) : Int := x * 78913 / 262144
def log2Pow10 (x : Int) : Int := x * 108853 / 32768
def skewed (x : Int) : Int := (x * 631305 - 261663) / 2097152

/-- 2^E * 10^p as a fraction. -/
def fracN (E p : Int) : Nat := 5 ^ p.toNat * 2 ^ (E + p).toNat
def fracD (E p : Int) : Nat := 5 ^ (-p).toNat * 2 ^ (-(E + p)).toNat

def gapOk (E p : Int) : Bool :=
  certOk (fracN E p) (fracD E p) (2 ^ (63 + (-(E - 11 + log2Pow10 p + 3)).toNat)) (2 ^ 55) (run 60 (2 ^ 55) (0, 1, fracD E p) (1, 0, fracN E p) false)

def bothOk (k : Nat) : Bool := gapOk ((k : Int) - 1074) (-log10Pow2 ((k : Int) - 1074)) && gapOk ((k : Int) - 1074) (-skewed ((k : Int) - 1074))

theorem best_neg {a b q p q' p' : Int} (hdet : q * p' - q' * p = -1) (hq : 0 ≤ q) (hq' : 0 ≤ q') (h1 : dist a b q p ≤ 0) (h2 : 0 ≤ dist a b q' p') (y x : Int) (hy : 0 < y) (hy2 : y < q') :
    -dist a b q p ≤ dist a b y x ∨ -dist a b q p ≤ -dist a b y x := by
  have e : ∀ u v, dist (-a) b u (-v) = -dist a b u v := fun u v => by
    unfold dist
    rw [Int.mul_neg, Int.neg_mul]
    omega
  have h := best (a := -a) (b := b) (q := q) (p := -p) (q' := q') (p' := -p') (by rw [Int.mul_neg, Int.mul_neg]; omega) hq hq' (by rw [e]; omega) (by rw [e]; omega) y (-x) hy hy2
  rw [e, e] at h
  omega

/-- How far apart, without a sign. -/
def apart (m n : Nat) : Nat := (m - n) + (n - m)

theorem apart_int (m n : Nat) : (apart m n : Int) = (m : Int) - n ∨ (apart m n : Int) = (n : Int) - m := by
  unfold apart
  omega

/-- When the second rest is nothing, everything is a multiple of the first. -/
theorem exact_case {a b q p q' p' r : Nat} (h2 : q' * a = p' * b) (hs : ((q : Int) * a - p * b = r ∧ (q : Int) * p' - q' * p = 1) ∨ ((q : Int) * a - p * b = -r ∧ (q : Int) * p' - q' * p = -1)) :
    r * q' = b ∧ r * p' = a := by
  have hz : (q' : Int) * a = p' * b := by exact_mod_cast h2
  have k1 : ((q : Int) * a - p * b) * q' = b * ((q : Int) * p' - q' * p) := by
    simp only [Int.sub_mul, Int.mul_sub]
    have e1 : (q : Int) * a * q' = b * (q * p') := by
      rw [Int.mul_assoc, Int.mul_comm (a : Int) q', hz, ← Int.mul_assoc, Int.mul_comm ((q : Int) * p') b]
    have e2 : (p : Int) * b * q' = b * (q' * p) := by
      rw [Int.mul_comm (p : Int) b, Int.mul_assoc, Int.mul_comm (p : Int) q']
    omega
  have k2 : ((q : Int) * a - p * b) * p' = a * ((q : Int) * p' - q' * p) := by
    simp only [Int.sub_mul, Int.mul_sub]
    have e1 : (q : Int) * a * p' = a * (q * p') := by rw [Int.mul_comm (q : Int) a, Int.mul_assoc]
    have e2 : (p : Int) * b * p' = a * (q' * p) := by
      rw [Int.mul_assoc, Int.mul_comm (b : Int) p', ← hz, Int.mul_comm (p : Int), Int.mul_comm (q' : Int) a, Int.mul_assoc]
    omega
  rcases hs with ⟨e1, e2⟩ | ⟨e1, e2⟩
  · rw [e1, e2, Int.mul_one] at k1 k2
    exact ⟨by exact_mod_cast k1, by exact_mod_cast k2⟩
  · rw [e1, e2, Int.neg_mul, Int.mul_neg, Int.mul_one] at k1 k2
    have k3 : (r : Int) * q' = b := by omega
    have k4 : (r : Int) * p' = a := by omega
    exact ⟨by exact_mod_cast k3, by exact_mod_cast k4⟩

theorem gap_of {a b M N : Nat} {r : (Nat × Nat × Nat) × (Nat × Nat × Nat) × Bool} (h : certOk a b M N r = true) (y k : Nat) (hy : 0 < y) (hN : y < N) : y * a = k * b ∨ b ≤ apart (y * a) (k * b) * M := by
  obtain ⟨⟨q, p, r0⟩, ⟨q', p', r1⟩, sg⟩ := r
  simp only [certOk, Bool.and_eq_true, Bool.or_eq_true, decide_eq_true_eq] at h
  obtain ⟨⟨hM, hend⟩, hrest⟩ := h
  -- the two neighbours, with their signs
  have hs : ((q : Int) * a - p * b = r0 ∧ (q' : Int) * a - p' * b = -r1 ∧ (q : Int) * p' - q' * p = 1) ∨ ((q : Int) * a - p * b = -r0 ∧ (q' : Int) * a - p' * b = r1 ∧ (q : Int) * p' - q' * p = -1) := by
    cases sg with
    | true =>
      simp only [if_true, Bool.and_eq_true, decide_eq_true_eq] at hrest
      obtain ⟨⟨e1, e2⟩, e3⟩ := hrest
      have f1 : (q : Int) * a = p * b + r0 := by exact_mod_cast e1
      have f2 : (q' : Int) * a + r1 = p' * b := by exact_mod_cast e2
      have f3 : (q : Int) * p' = q' * p + 1 := by exact_mod_cast e3
      left
      omega
    | false =>
      simp only [Bool.false_eq_true, if_false, Bool.and_eq_true, decide_eq_true_eq] at hrest
      obtain ⟨⟨e1, e2⟩, e3⟩ := hrest
      have f1 : (q : Int) * a + r0 = p * b := by exact_mod_cast e1
      have f2 : (q' : Int) * a = p' * b + r1 := by exact_mod_cast e2
      have f3 : (q : Int) * p' + 1 = q' * p := by exact_mod_cast e3
      right
      omega
  have hap : ∀ d : Int, d = (y : Int) * a - k * b → ((r0 : Int) ≤ d ∨ (r0 : Int) ≤ -d) → b ≤ apart (y * a) (k * b) * M := by
    intro d hd hor
    have h1 : r0 ≤ apart (y * a) (k * b) := by
      have h2 := apart_int (y * a) (k * b)
      have h3 : ((y * a : Nat) : Int) = (y : Int) * a := by exact_mod_cast rfl
      have h4 : ((k * b : Nat) : Int) = (k : Int) * b := by exact_mod_cast rfl
      rw [h3, h4] at h2
      have h5 : (0 : Int) ≤ apart (y * a) (k * b) := Int.natCast_nonneg _
      omega
    exact Nat.le_trans hM (Nat.mul_le_mul_right M h1)
  by_cases hz : r1 = 0
  · -- the last convergent is the number itself
    subst hz
    have h2 : q' * a = p' * b := by
      have : (q' : Int) * a = p' * b := by rcases hs with ⟨_, e, _⟩ | ⟨_, e, _⟩ <;> simp at e <;> omega
      exact_mod_cast this
    obtain ⟨e1, e2⟩ := exact_case (r := r0) h2 (by rcases hs with ⟨f1, _, f3⟩ | ⟨f1, _, f3⟩; exact Or.inl ⟨f1, f3⟩; exact Or.inr ⟨f1, f3⟩)
    by_cases heq : y * p' = k * q'
    · left
      rw [← e1, ← e2, Nat.mul_left_comm, heq, Nat.mul_left_comm]
    · right
      have hd : (y : Int) * a - k * b = r0 * ((y : Int) * p' - k * q') := by
        have g1 : (b : Int) = r0 * q' := by exact_mod_cast e1.symm
        have g2 : (a : Int) = r0 * p' := by exact_mod_cast e2.symm
        rw [g1, g2, Int.mul_sub, Int.mul_left_comm, Int.mul_left_comm (k : Int)]
      refine hap _ rfl ?_
      rw [hd]
      have hne : (y : Int) * p' - k * q' ≠ 0 := fun e => heq (by
        have : (y : Int) * p' = k * q' := by omega
        exact_mod_cast this)
      generalize (y : Int) * p' - k * q' = z at hne
      rcases Int.lt_or_gt_of_ne hne with hl | hg
      · right
        have h3 : 0 ≤ (r0 : Int) * (-z - 1) := Int.mul_nonneg (Int.natCast_nonneg _) (by omega)
        rw [Int.mul_sub, Int.mul_neg, Int.mul_one] at h3
        omega
      · left
        have h3 : 0 ≤ (r0 : Int) * (z - 1) := Int.mul_nonneg (Int.natCast_nonneg _) (by omega)
        rw [Int.mul_sub, Int.mul_one] at h3
        omega
  · have hq' : y < q' := by
      rcases hend with h | h
      · omega
      · exact absurd h hz
    right
    rcases hs with ⟨f1, f2, f3⟩ | ⟨f1, f2, f3⟩
    · have hb := best (a := a) (b := b) f3 (Int.natCast_nonneg _) (Int.natCast_nonneg _) (by show 0 ≤ (q : Int) * a - p * b; omega) (by show (q' : Int) * a - p' * b ≤ 0; omega) y k (by omega) (by omega)
      refine hap (dist a b y k) rfl ?_
      have : dist a b q p = r0 := f1
      rw [this] at hb
      exact hb
    · have hb := best_neg (a := a) (b := b) f3 (Int.natCast_nonneg _) (Int.natCast_nonneg _) (by show (q : Int) * a - p * b ≤ 0; omega) (by show 0 ≤ (q' : Int) * a - p' * b; omega) y k (by omega) (by omega)
      refine hap (dist a b y k) rfl ?_
      have : dist a b q p = -r0 := f1
      rw [this, Int.neg_neg] at hb
      exact hb
end Go.Proofs.Qxb6615058aDoor
