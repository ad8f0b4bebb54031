/-
  Plain: the shortest and closest decimal.
-/
import Derived.Test.Qxb6615058aDoorN11
namespace Go.Proofs.Qxb6615058aDoor
open Go.Lib

theorem lies_iff {m : Nat} {E p : Int} {d : Nat} (h1 : -400 ≤ p) (h2 : p ≤ 400) (h3 : -1100 ≤ E) : Lies m E d (-p) ↔ Inside m E (fracN E p) (fracD E p) d := by
  have hD := fracD_pos E p
  have hA := P10_pos (-p)
  have hP := frac_P E p h1 h2 h3
  unfold Lies Inside
  have a1 := cr1 (y := yLo m E) (d := d) hD hA hP
  have a2 := cr2 (y := yHi m) (d := d) hD hA hP
  have a3 := cr2 (y := yLo m E) (d := d) hD hA hP
  have a4 := cr1 (y := yHi m) (d := d) hD hA hP
  split
  · rw [a1, a2]
  · constructor
    · rintro ⟨b1, b2⟩
      exact ⟨Nat.lt_of_not_le fun c => Nat.not_le_of_lt b1 (a3.1 c), Nat.lt_of_not_le fun c => Nat.not_le_of_lt b2 (a4.1 c)⟩
    · rintro ⟨b1, b2⟩
      exact ⟨Nat.lt_of_not_le fun c => Nat.not_le_of_lt b1 (a3.2 c), Nat.lt_of_not_le fun c => Nat.not_le_of_lt b2 (a4.2 c)⟩

theorem lies_shift {m : Nat} {E : Int} {d j : Nat} {q r : Int} (hq : -400 ≤ q) (hr : r = q + j) : Lies m E d r ↔ Lies m E (d * 10 ^ j) q := by
  unfold Lies
  rw [P10_eq q r j hq hr, show 4 * d * (10 ^ j * P10 q) = 4 * (d * 10 ^ j) * P10 q by rw [← Nat.mul_assoc, Nat.mul_assoc 4 d]]

/-- The range of whole numbers in units of the last place. -/
theorem lies_range {m : Nat} {E : Int} (hf : IsFloat m E) (x : Nat) : Lies m E x (-pOf m E) ↔ dMin m E ≤ x ∧ x ≤ dMax m E := by
  have h := pOf_range hf
  have h3 := hf.lo
  rw [lies_iff (by omega) (by omega) (by omega), inside_iff hf]

theorem range_small {m : Nat} {E : Int} (hf : IsFloat m E) (h : dMin m E ≤ dMax m E) : dMax m E < dMin m E + 10 := by
  have hmin := (inside_iff hf (dMin m E)).2 ⟨Nat.le_refl _, h⟩
  have hmax := (inside_iff hf (dMax m E)).2 ⟨h, Nat.le_refl _⟩
  have hD := fracD_pos E (pOf m E)
  have hwide := wide hf
  generalize dMin m E = a at *
  generalize dMax m E = b at *
  generalize fracN E (pOf m E) = N at *
  generalize fracD E (pOf m E) = D at *
  have h1 : yLo m E * N ≤ 4 * D * a := by unfold Inside at hmin; split at hmin <;> omega
  have h2 : 4 * D * b ≤ yHi m * N := by unfold Inside at hmax; split at hmax <;> omega
  have h3 : yHi m * N < yLo m E * N + 40 * D := by
    rcases hwide with ⟨_, e, _, _, h⟩ | ⟨_, _, e, _, _, h⟩
    · rw [← e, Nat.add_mul]; omega
    · rw [← e, Nat.add_mul]; omega
  have h4 : 4 * D * b < 4 * D * (a + 10) := by rw [Nat.mul_add]; omega
  exact Nat.lt_of_mul_lt_mul_left h4

theorem close_iff {m : Nat} {E : Int} (hf : IsFloat m E) (a : Nat) : (a * P10 (-pOf m E) < 2 * m * P2 E ↔ a * fracD E (pOf m E) < 2 * m * fracN E (pOf m E)) ∧ (2 * m * P2 E < a * P10 (-pOf m E) ↔ 2 * m * fracN E (pOf m E) < a * fracD E (pOf m E)) := by
  have h := pOf_range hf
  have h3 := hf.lo
  have hP := frac_P E (pOf m E) (by omega) (by omega) (by omega)
  have hD := fracD_pos E (pOf m E)
  have hA := P10_pos (-pOf m E)
  generalize P10 (-pOf m E) = A at *
  generalize P2 E = B at *
  generalize fracN E (pOf m E) = N at *
  generalize fracD E (pOf m E) = D at *
  have e1 : D * (2 * m * B) = 2 * m * N * A := by
    rw [Nat.mul_assoc (2 * m) N A, hP]
    ac_rfl
  have e2 : D * (a * A) = a * D * A := by ac_rfl
  constructor
  · rw [← Nat.mul_lt_mul_left hD, e1, e2]
    exact Nat.mul_lt_mul_right hA
  · rw [← Nat.mul_lt_mul_left hD, e1, e2]
    exact Nat.mul_lt_mul_right hA

theorem mant_last (u : Nat) (h : 0 < u) : valD (digs u (nDigits u) (nz u)) % 10 ≠ 0 := by
  have h1 := nz_last u h
  have h2 := nz_le u
  have h3 := nz_pos u h
  rw [valD_digs u _ (nDigits_hi u) _ h2]
  unfold dgt at h1
  rw [show nDigits u - 1 - (nz u - 1) = nDigits u - nz u by omega] at h1
  exact h1

/-- What law 3 asks of the decimal v * 10^Q. -/
structure Best (m : Nat) (E : Int) (v : Nat) (Q : Int) : Prop where
  inn : Lies m E v Q
  short : ∀ x, ¬ Lies m E x (Q + 1)
  up : Lies m E (v + 1) Q → ¬ (2 * v + 1) * P10 Q < 2 * m * P2 E
  down : Lies m E (v - 1) Q → ¬ 2 * m * P2 E < (2 * v - 1) * P10 Q

theorem best_dec {m : Nat} {E : Int} (hf : IsFloat m E) : Best m E (valD (decOf m E).1) ((decOf m E).2 - ((decOf m E).1.length : Int) + 1) := by
  have hu := short_pos hf
  have hp := pOf_range hf
  have hval := nz_val (shortN m E).1
  have hlast := mant_last (shortN m E).1 hu
  have hnz := nz_le (shortN m E).1
  have hl : (decOf m E).1.length = nz (shortN m E).1 := digs_len ..
  have hx : (decOf m E).2 = (nDigits (shortN m E).1 : Int) + (shortN m E).2 - 1 := rfl
  change (shortN m E).1 = valD (decOf m E).1 * _ at hval
  change valD (decOf m E).1 % 10 ≠ 0 at hlast
  obtain ⟨z, hz⟩ : ∃ z, z = nDigits (shortN m E).1 - nz (shortN m E).1 := ⟨_, rfl⟩
  rw [← hz] at hval
  have hQ : (decOf m E).2 - ((decOf m E).1.length : Int) + 1 = (shortN m E).2 + z := by omega
  rw [hQ]
  generalize valD (decOf m E).1 = v at *
  have hzp : 0 < 10 ^ z := Nat.pow_pos (by decide)
  obtain ⟨d0, hd0⟩ := some_in hf
  have hd0' := (inside_iff hf d0).1 hd0
  have hsm := range_small hf (by omega)
  have hin := short_in hf
  have hr := lies_range hf
  have hc := close_iff hf
  by_cases hA : dMin m E ≤ dMax m E / 10 * 10
  · have hS : shortN m E = (dMax m E / 10, -(pOf m E - 1)) := by unfold shortN; rw [if_pos hA]
    rw [hS] at hval ⊢
    simp only at hval ⊢
    have one : ∀ y, dMin m E ≤ y * 10 → y * 10 ≤ dMax m E → y = v * 10 ^ z := fun y h1 h2 => by rw [← hval]; omega
    have sh : ∀ (x : Nat) (j : Nat), Lies m E x (-(pOf m E - 1) + z + j) ↔ dMin m E ≤ x * 10 ^ j * 10 ^ z * 10 ∧ x * 10 ^ j * 10 ^ z * 10 ≤ dMax m E := fun x j => by
      rw [lies_shift (q := -pOf m E) (j := j + z + 1) (by omega) (by omega), hr, Nat.pow_succ, Nat.pow_add, ← Nat.mul_assoc, ← Nat.mul_assoc]
    have sh0 : ∀ x, Lies m E x (-(pOf m E - 1) + z) ↔ dMin m E ≤ x * 10 ^ z * 10 ∧ x * 10 ^ z * 10 ≤ dMax m E := fun x => by
      have h := sh x 0
      rw [Nat.pow_zero, Nat.mul_one, show -(pOf m E - 1) + (z : Int) + ((0 : Nat) : Int) = -(pOf m E - 1) + (z : Int) by omega] at h
      exact h
    refine ⟨(sh0 v).2 (by rw [← hval]; omega), fun x hx => ?_, fun h => ?_, fun h => ?_⟩
    · have h := (sh x 1).1 hx
      have e := one _ h.1 h.2
      have e2 := Nat.eq_of_mul_eq_mul_right hzp e
      omega
    · have h := (sh0 (v + 1)).1 h
      have e := one _ h.1 h.2
      have e2 := Nat.eq_of_mul_eq_mul_right hzp e
      omega
    · have h := (sh0 (v - 1)).1 h
      have e := one _ h.1 h.2
      have e2 := Nat.eq_of_mul_eq_mul_right hzp e
      omega
  · have none : ∀ y, dMin m E ≤ y * 10 → y * 10 ≤ dMax m E → False := fun y h1 h2 => by omega
    have hS : shortN m E = (if dMin m E < dMax m E then roundN (uAt m E (4 * m)) else dMin m E, -pOf m E) := by unfold shortN; rw [if_neg hA]
    have hS2 : (shortN m E).2 = -pOf m E := by rw [hS]
    have hd : dMin m E ≤ (shortN m E).1 ∧ (shortN m E).1 ≤ dMax m E := by
      obtain ⟨d', h1, h2 | h2⟩ := hin
      · rw [← h2.2]; exact (inside_iff hf d').1 h1
      · omega
    have hz0 : z = 0 := by
      cases z with
      | zero => rfl
      | succ n =>
        rw [hval, Nat.pow_succ, ← Nat.mul_assoc] at hd
        exact absurd (none _ hd.1 hd.2) not_false
    subst hz0
    rw [Nat.pow_zero, Nat.mul_one] at hval
    rw [hS2, show -pOf m E + ((0 : Nat) : Int) = -pOf m E by omega, ← hval]
    refine ⟨(hr _).2 hd, fun x hx => ?_, fun h => ?_, fun h => ?_⟩
    · rw [lies_shift (q := -pOf m E) (j := 1) (by omega) (by omega), hr] at hx
      exact none x (by omega) (by omega)
    · rw [hr] at h
      by_cases hlt : dMin m E < dMax m E
      · have hv : (shortN m E).1 = roundN (uAt m E (4 * m)) := by rw [hS, if_pos hlt]
        have hn := round_near (Z := 4 * m * fracN E (pOf m E)) (fracD_pos E (pOf m E))
        change 4 * _ * roundN (uAt m E (4 * m)) ≤ _ ∧ _ ≤ 4 * _ * roundN (uAt m E (4 * m)) + _ at hn
        rw [(hc _).1, hv]
        generalize roundN (uAt m E (4 * m)) = r at *
        generalize fracD E (pOf m E) = D at *
        generalize fracN E (pOf m E) = N at *
        have e1 : (2 * r + 1) * D = 2 * (D * r) + D := by rw [Nat.add_mul, Nat.one_mul, Nat.mul_assoc, Nat.mul_comm r D]
        have e2 : 4 * D * r = 4 * (D * r) := Nat.mul_assoc _ _ _
        have e3 : 4 * m * N = 4 * (m * N) := Nat.mul_assoc _ _ _
        have e4 : 2 * m * N = 2 * (m * N) := Nat.mul_assoc _ _ _
        omega
      · have hv : (shortN m E).1 = dMin m E := by rw [hS, if_neg hlt]
        omega
    · rw [hr] at h
      by_cases hlt : dMin m E < dMax m E
      · have hv : (shortN m E).1 = roundN (uAt m E (4 * m)) := by rw [hS, if_pos hlt]
        have hn := round_near (Z := 4 * m * fracN E (pOf m E)) (fracD_pos E (pOf m E))
        change 4 * _ * roundN (uAt m E (4 * m)) ≤ _ ∧ _ ≤ 4 * _ * roundN (uAt m E (4 * m)) + _ at hn
        rw [hv] at hu
        rw [(hc _).2, hv]
        generalize roundN (uAt m E (4 * m)) = r at *
        generalize fracD E (pOf m E) = D at *
        generalize fracN E (pOf m E) = N at *
        have e1 : (2 * r - 1) * D + D = 2 * (D * r) := by
          rw [← Nat.succ_mul, show (2 * r - 1).succ = 2 * r by omega, Nat.mul_assoc, Nat.mul_comm r D]
        have e2 : 4 * D * r = 4 * (D * r) := Nat.mul_assoc _ _ _
        have e3 : 4 * m * N = 4 * (m * N) := Nat.mul_assoc _ _ _
        have e4 : 2 * m * N = 2 * (m * N) := Nat.mul_assoc _ _ _
        omega
      · have hv : (shortN m E).1 = dMin m E := by rw [hS, if_neg hlt]
        omega
end Go.Proofs.Qxb6615058aDoor
