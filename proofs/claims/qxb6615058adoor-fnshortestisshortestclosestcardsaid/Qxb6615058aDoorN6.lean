/-
  Plain: what an unrounded number tells; the least and the greatest whole number of an interval; rounding.
-/
import Derived.Test.Qxb6615058aDoorN5
namespace Go.Proofs.Qxb6615058aDoor

/-- An unrounded number, by its halves. -/
theorem unround_parts (Z D : Nat) (hD : 0 < D) : ∃ F i, unround Z D = 2 * F + i ∧ 2 * D * F ≤ Z ∧ Z < 2 * D * F + 2 * D ∧ i ≤ 1 ∧ (i = 0 ↔ Z = 2 * D * F) := by
  have h1 := Nat.div_add_mod Z (2 * D)
  have h2 : Z % (2 * D) < 2 * D := Nat.mod_lt _ (by omega)
  refine ⟨Z / (2 * D), if 2 * D ∣ Z then 0 else 1, rfl, by omega, by omega, ?_, ?_⟩
  · split <;> omega
  · by_cases hd : 2 * D ∣ Z
    · rw [if_pos hd]
      have := Nat.mul_div_cancel' hd
      simp
      omega
    · rw [if_neg hd]
      simp
      intro e
      exact hd ⟨Z / (2 * D), e⟩

/-- Twice as many halves. -/
theorem dbl (D k : Nat) : 2 * D * (2 * k) = 4 * D * k := by rw [← Nat.mul_assoc, Nat.mul_right_comm 2 D 2]
theorem dbl1 (D k : Nat) : 2 * D * (2 * k + 1) = 4 * D * k + 2 * D := by rw [Nat.mul_add, dbl, Nat.mul_one]

theorem le_iff {Z D : Nat} (hD : 0 < D) (d : Nat) : 4 * D * d ≤ Z ↔ d ≤ unround Z D / 4 := by
  obtain ⟨F, i, hu, h1, h2, hi, _⟩ := unround_parts Z D hD
  rw [hu]
  have e : (2 * F + i) / 4 = F / 2 := by omega
  rw [e]
  constructor
  · intro h
    rcases Nat.lt_or_ge (F / 2) d with hl | hl
    · exfalso
      have h3 : F + 1 ≤ 2 * d := by omega
      have h4 := Nat.mul_le_mul_left (2 * D) h3
      rw [dbl, Nat.mul_add, Nat.mul_one] at h4
      omega
    · exact hl
  · intro h
    have h3 : 2 * d ≤ F := by omega
    have h4 := Nat.mul_le_mul_left (2 * D) h3
    rw [dbl] at h4
    omega

theorem lt_iff {Z D : Nat} (hD : 0 < D) (hZ : 0 < Z) (d : Nat) : 4 * D * d < Z ↔ d ≤ (unround Z D - 1) / 4 ∧ 0 < unround Z D := by
  obtain ⟨F, i, hu, h1, h2, hi, he⟩ := unround_parts Z D hD
  rw [hu]
  have hpos : 0 < 2 * F + i := by
    rcases Nat.eq_zero_or_pos F with hz | hz
    · subst hz
      rcases Nat.eq_zero_or_pos i with hi0 | hi0
      · have := he.1 hi0
        simp at this
        omega
      · omega
    · omega
  rcases Nat.eq_zero_or_pos i with hi0 | hi0
  · have hZe := he.1 hi0
    subst hi0
    constructor
    · intro h
      refine ⟨?_, hpos⟩
      rcases Nat.lt_or_ge (2 * d) F with hl | hl
      · omega
      · exfalso
        have h4 := Nat.mul_le_mul_left (2 * D) hl
        rw [dbl] at h4
        omega
    · rintro ⟨h, _⟩
      have h3 : 2 * d + 1 ≤ F := by omega
      have h4 := Nat.mul_le_mul_left (2 * D) h3
      rw [dbl1] at h4
      omega
  · have hi1 : i = 1 := by omega
    subst hi1
    have hne : Z ≠ 2 * D * F := fun e => by have := he.2 e; omega
    constructor
    · intro h
      refine ⟨?_, hpos⟩
      rcases Nat.lt_or_ge F (2 * d) with hl | hl
      · exfalso
        have h4 := Nat.mul_le_mul_left (2 * D) (show F + 1 ≤ 2 * d by omega)
        rw [dbl, Nat.mul_add, Nat.mul_one] at h4
        omega
      · omega
    · rintro ⟨h, _⟩
      have h3 : 2 * d ≤ F := by omega
      have h4 := Nat.mul_le_mul_left (2 * D) h3
      rw [dbl] at h4
      omega

theorem ge_iff {Z D : Nat} (hD : 0 < D) (d : Nat) : Z ≤ 4 * D * d ↔ (unround Z D + 3) / 4 ≤ d := by
  obtain ⟨F, i, hu, h1, h2, hi, he⟩ := unround_parts Z D hD
  rw [hu]
  rcases Nat.eq_zero_or_pos i with hi0 | hi0
  · have hZe := he.1 hi0
    subst hi0
    constructor
    · intro h
      rcases Nat.lt_or_ge (2 * d) F with hl | hl
      · exfalso
        have h4 := Nat.mul_le_mul_left (2 * D) (show 2 * d + 1 ≤ F by omega)
        rw [dbl1] at h4
        omega
      · omega
    · intro h
      have h3 : F ≤ 2 * d := by omega
      have h4 := Nat.mul_le_mul_left (2 * D) h3
      rw [dbl] at h4
      omega
  · have hi1 : i = 1 := by omega
    subst hi1
    have hne : Z ≠ 2 * D * F := fun e => by have := he.2 e; omega
    constructor
    · intro h
      rcases Nat.lt_or_ge F (2 * d) with hl | hl
      · omega
      · exfalso
        have h4 := Nat.mul_le_mul_left (2 * D) hl
        rw [dbl] at h4
        omega
    · intro h
      have h3 : F + 1 ≤ 2 * d := by omega
      have h4 := Nat.mul_le_mul_left (2 * D) h3
      rw [dbl, Nat.mul_add, Nat.mul_one] at h4
      omega

theorem gt_iff {Z D : Nat} (hD : 0 < D) (d : Nat) : Z < 4 * D * d ↔ (unround Z D + 4) / 4 ≤ d := by
  obtain ⟨F, i, hu, h1, h2, hi, _⟩ := unround_parts Z D hD
  rw [hu]
  have e : (2 * F + i + 4) / 4 = F / 2 + 1 := by omega
  rw [e]
  constructor
  · intro h
    rcases Nat.lt_or_ge F (2 * d) with hl | hl
    · omega
    · exfalso
      have h4 := Nat.mul_le_mul_left (2 * D) hl
      rw [dbl] at h4
      omega
  · intro h
    have h3 : F + 1 ≤ 2 * d := by omega
    have h4 := Nat.mul_le_mul_left (2 * D) h3
    rw [dbl, Nat.mul_add, Nat.mul_one] at h4
    omega

/-- Rounded, half to even: at most a half away. -/
def roundN (u : Nat) : Nat := (u + 1 + u / 4 % 2) / 4
theorem round_near {Z D : Nat} (hD : 0 < D) : 4 * D * roundN (unround Z D) ≤ Z + 2 * D ∧ Z ≤ 4 * D * roundN (unround Z D) + 2 * D := by
  obtain ⟨F, i, hu, h1, h2, hi, he⟩ := unround_parts Z D hD
  rw [hu]
  unfold roundN
  obtain ⟨k, hk⟩ : ∃ k, F = 2 * k ∨ F = 2 * k + 1 := ⟨F / 2, by omega⟩
  rcases hk with rfl | rfl
  · rw [dbl] at h1 h2
    have e : (2 * (2 * k) + i + 1 + (2 * (2 * k) + i) / 4 % 2) / 4 = k := by omega
    rw [e]
    omega
  · rw [dbl1] at h1 h2 he
    have e : (2 * (2 * k + 1) + i + 1 + (2 * (2 * k + 1) + i) / 4 % 2) / 4 = k ∧ i = 0 ∨ (2 * (2 * k + 1) + i + 1 + (2 * (2 * k + 1) + i) / 4 % 2) / 4 = k + 1 := by omega
    rcases e with ⟨e, hi0⟩ | e
    · rw [e]
      have := he.1 hi0
      omega
    · rw [e, Nat.mul_add, Nat.mul_one]
      omega
end Go.Proofs.Qxb6615058aDoor
