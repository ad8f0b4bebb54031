/-
  Plain: the table of powers of ten; uscale at a float64.
-/
import Derived.Test.Qxb6615058aDoorN4
import GoSem.PinnedTables
namespace Go.Proofs.Qxb6615058aDoor

def tabH (p : Int) : Nat := (Go.Pinned.pow10Rows.getD (p + 348).toNat (0, 0)).1
def tabL (p : Int) : Nat := (Go.Pinned.pow10Rows.getD (p + 348).toNat (0, 0)).2

def tabOk (i : Nat) : Bool :=
  let p : Int := (i : Int) - 348
  let h := tabH p
  let l := tabL p
  let QN := fracN (127 - log2Pow10 p) p
  let D := fracD (127 - log2Pow10 p) p
  decide (h < 18446744073709551616) && decide (l < 18446744073709551616) && decide (l ≤ h * 18446744073709551616) && decide (QN ≤ (h * 18446744073709551616 - l) * D) && decide ((h * 18446744073709551616 - l) * D < QN + D)

set_option maxRecDepth 1000000 in
theorem tab_all : ((List.range 696).all tabOk) = true := by decide +kernel

theorem tab (p : Int) (h1 : -348 ≤ p) (h2 : p ≤ 347) : tabH p < 18446744073709551616 ∧ tabL p < 18446744073709551616 ∧ tabL p ≤ tabH p * 18446744073709551616 ∧ fracN (127 - log2Pow10 p) p ≤ (tabH p * 18446744073709551616 - tabL p) * fracD (127 - log2Pow10 p) p ∧ (tabH p * 18446744073709551616 - tabL p) * fracD (127 - log2Pow10 p) p < fracN (127 - log2Pow10 p) p + fracD (127 - log2Pow10 p) p := by
  have h := List.all_eq_true.1 tab_all (p + 348).toNat (List.mem_range.2 (by omega))
  unfold tabOk at h
  rw [show (((p + 348).toNat : Nat) : Int) - 348 = p by omega] at h
  simp only [Bool.and_eq_true, decide_eq_true_eq] at h
  obtain ⟨⟨⟨⟨a, b⟩, c⟩, d⟩, e⟩ := h
  exact ⟨a, b, c, d, e⟩

theorem fracD_pos (E p : Int) : 0 < fracD E p := Nat.mul_pos (Nat.pow_pos (by decide)) (Nat.two_pow_pos _)
theorem fracN_pos (E p : Int) : 0 < fracN E p := Nat.mul_pos (Nat.pow_pos (by decide)) (Nat.two_pow_pos _)

theorem frac_shift (E p : Int) (d : Nat) : fracN E p * 2 ^ d * fracD (E + d) p = fracN (E + d) p * fracD E p := by
  unfold fracN fracD
  have e : 2 ^ (E + p).toNat * 2 ^ d * 2 ^ (-(E + d + p)).toNat = 2 ^ (E + d + p).toNat * 2 ^ (-(E + p)).toNat := by
    rw [← Nat.pow_add, ← Nat.pow_add, ← Nat.pow_add]
    congr 1
    omega
  generalize 5 ^ p.toNat = A
  generalize 5 ^ (-p).toNat = B
  generalize 2 ^ (E + p).toNat = a at *
  generalize 2 ^ d = b at *
  generalize 2 ^ (-(E + d + p)).toNat = c at *
  generalize 2 ^ (E + d + p).toNat = f at *
  generalize 2 ^ (-(E + p)).toNat = g at *
  calc A * a * b * (B * c) = A * B * (a * b * c) := by ac_rfl
    _ = A * B * (f * g) := by rw [e]
    _ = A * f * (B * g) := by ac_rfl

theorem unround_ratio {Z D Z' D' : Nat} (hD : 0 < D) (hD' : 0 < D') (h : Z * D' = Z' * D) : unround Z D = unround Z' D' := by
  unfold unround
  have e1 : Z / (2 * D) = Z' / (2 * D') := by
    rw [← Nat.mul_div_mul_right Z (2 * D) hD', ← Nat.mul_div_mul_right Z' (2 * D') hD, h]
    congr 1
    ac_rfl
  have e2 : 2 * D ∣ Z ↔ 2 * D' ∣ Z' := by
    rw [← Nat.mul_dvd_mul_iff_right (a := 2 * D) (b := Z) hD', ← Nat.mul_dvd_mul_iff_right (a := 2 * D') (b := Z') hD, h]
    rw [show 2 * D * D' = 2 * D' * D by ac_rfl]
  rw [e1]
  simp only [e2]

theorem apart_mul (m n c : Nat) : apart (m * c) (n * c) = apart m n * c := by
  unfold apart
  rw [Nat.add_mul, Nat.sub_mul, Nat.sub_mul]

theorem ar1 (y tt QN b N QD dd : Nat) (h : N * dd * QD = QN * b) : y * tt * QN * b = y * N * (QD * (tt * dd)) := by
  rw [Nat.mul_assoc (y * tt), ← h]
  ac_rfl
theorem ar2 (k b X : Nat) : k * b * X = k * X * b := by ac_rfl
theorem ar3 (k X b : Nat) : k * X * b = k * b * X := by ac_rfl
theorem ar4 (Q c b A w : Nat) (h : b ≤ A * w) : Q * c * b ≤ A * (Q * (w * c)) := by
  calc Q * c * b ≤ Q * c * (A * w) := Nat.mul_le_mul_left _ h
    _ = A * (Q * (w * c)) := by ac_rfl

/-- uscale, at y quarters of the last place. -/
theorem uscale_float {E p : Int} (hp1 : -348 ≤ p) (hp2 : p ≤ 347) (hgap : gapOk E p = true) (y t s : Nat) (hy : 0 < y) (hN : y < 2 ^ 55) (hx : y * 2 ^ t < 18446744073709551616) (ht : t ≤ 64)
    (hs : (s : Int) = -(E - 2 - t + log2Pow10 p + 3)) (ht2 : 9 ≤ t) :
    uscaleN (y * 2 ^ t) (tabH p) (tabL p) s = unround (y * fracN E p) (fracD E p) := by
  obtain ⟨_, a2, a3, a4, a5⟩ := tab p hp1 hp2
  have hD := fracD_pos (127 - log2Pow10 p) p
  have hb := fracD_pos E p
  -- the two fractions
  have hcross : y * 2 ^ t * fracN (127 - log2Pow10 p) p * fracD E p = y * fracN E p * (fracD (127 - log2Pow10 p) p * 2 ^ (128 + s)) := by
    have h := frac_shift E p (128 + s - t)
    rw [show E + ((128 + s - t : Nat) : Int) = 127 - log2Pow10 p by omega] at h
    have h2 : 2 ^ (128 + s) = 2 ^ t * 2 ^ (128 + s - t) := by rw [← Nat.pow_add]; congr 1; omega
    rw [h2]
    exact ar1 _ _ _ _ _ _ _ h
  rw [uscale_math hD hx a2 a3 a4 a5 ?_]
  · exact unround_ratio (Nat.mul_pos hD (Nat.two_pow_pos _)) hb hcross
  · intro k
    rcases gap E p hgap y k hy hN with he | he
    · left
      refine Nat.eq_of_mul_eq_mul_right hb ?_
      rw [hcross, he]
      exact ar2 _ _ _
    · right
      refine Nat.le_of_mul_le_mul_right ?_ hb
      rw [← apart_mul, hcross, ar3 k, apart_mul]
      have h3 : 2 ^ (63 + (-(E - 11 + log2Pow10 p + 3)).toNat) ≤ 2 ^ (63 + s) := Nat.pow_le_pow_right (by decide) (by omega)
      have h4 := Nat.le_trans he (Nat.mul_le_mul_left _ h3)
      have h5 : 2 ^ (128 + s) = 2 ^ (63 + s) * 36893488147419103232 := by
        rw [show 128 + s = 63 + s + 65 by omega, Nat.pow_add 2 (63 + s) 65]
      rw [h5]
      exact ar4 _ _ _ _ _ h4
end Go.Proofs.Qxb6615058aDoor
