/-
  Plain: the shortest decimal of a float64 lies in the interval that reads back as it.
-/
import Derived.Test.Qxb6615058aDoorN6
namespace Go.Proofs.Qxb6615058aDoor

/-- A float64's number m * 2^E, in the one form. -/
structure IsFloat (m : Nat) (E : Int) : Prop where
  pos : 0 < m
  lt : m < 9007199254740992
  lo : -1074 ≤ E
  hi : E ≤ 971
  norm : 4503599627370496 ≤ m ∨ E = -1074

/-- The gap below is half as wide. -/
def edge (m : Nat) (E : Int) : Bool := decide (m = 4503599627370496) && decide (-1074 < E)
def pOf (m : Nat) (E : Int) : Int := if edge m E then -skewed E else -log10Pow2 E
def yLo (m : Nat) (E : Int) : Nat := if edge m E then 4 * m - 1 else 4 * m - 2
def yHi (m : Nat) : Nat := 4 * m + 2

def uAt (m : Nat) (E : Int) (y : Nat) : Nat := unround (y * fracN E (pOf m E)) (fracD E (pOf m E))
def dMin (m : Nat) (E : Int) : Nat := (uAt m E (yLo m E) + m % 2 + 3) / 4
def dMax (m : Nat) (E : Int) : Nat := (uAt m E (yHi m) - m % 2) / 4
def shortN (m : Nat) (E : Int) : Nat × Int :=
  if dMin m E ≤ dMax m E / 10 * 10 then (dMax m E / 10, -(pOf m E - 1))
  else (if dMin m E < dMax m E then roundN (uAt m E (4 * m)) else dMin m E, -pOf m E)

/-- The last place is at least one, and less than ten. -/
def widthOk (k : Nat) : Bool :=
  let E : Int := (k : Int) - 1074
  let p := -log10Pow2 E
  let p' := -skewed E
  (decide (fracD E p < fracN E p) || decide (fracD E p = fracN E p)) && decide (fracN E p < 10 * fracD E p) && decide (4 * fracD E p' < 3 * fracN E p') && decide (3 * fracN E p' < 40 * fracD E p') && decide (-348 ≤ p) && decide (p ≤ 347) && decide (-348 ≤ p') && decide (p' ≤ 347)

set_option maxRecDepth 1000000 in
theorem width_all : ((List.range 2046).all widthOk) = true := by decide +kernel

theorem width (E : Int) (h1 : -1074 ≤ E) (h2 : E ≤ 971) :
    fracD E (-log10Pow2 E) ≤ fracN E (-log10Pow2 E) ∧ fracN E (-log10Pow2 E) < 10 * fracD E (-log10Pow2 E) ∧ 4 * fracD E (-skewed E) < 3 * fracN E (-skewed E) ∧ 3 * fracN E (-skewed E) < 40 * fracD E (-skewed E) ∧ -348 ≤ -log10Pow2 E ∧ -log10Pow2 E ≤ 347 ∧ -348 ≤ -skewed E ∧ -skewed E ≤ 347 := by
  have h := List.all_eq_true.1 width_all (E + 1074).toNat (List.mem_range.2 (by omega))
  unfold widthOk at h
  rw [show (((E + 1074).toNat : Nat) : Int) - 1074 = E by omega] at h
  simp only [Bool.and_eq_true, Bool.or_eq_true, decide_eq_true_eq] at h
  obtain ⟨⟨⟨⟨⟨⟨⟨a, b⟩, c⟩, d⟩, e⟩, f⟩, g⟩, i⟩ := h
  exact ⟨by omega, b, c, d, e, f, g, i⟩

/-- d lies where m * 2^E is read back. -/
def Inside (m : Nat) (E : Int) (N D d : Nat) : Prop := if m % 2 = 0 then yLo m E * N ≤ 4 * D * d ∧ 4 * D * d ≤ yHi m * N else yLo m E * N < 4 * D * d ∧ 4 * D * d < yHi m * N

theorem inside_iff {m : Nat} {E : Int} (hf : IsFloat m E) (d : Nat) : Inside m E (fracN E (pOf m E)) (fracD E (pOf m E)) d ↔ dMin m E ≤ d ∧ d ≤ dMax m E := by
  have hD := fracD_pos E (pOf m E)
  have hN := fracN_pos E (pOf m E)
  have hpos := hf.pos
  unfold Inside dMin dMax uAt
  rcases Nat.mod_two_eq_zero_or_one m with h | h
  · rw [if_pos h, h, ge_iff hD, le_iff hD]
    simp
  · rw [if_neg (by omega), h, gt_iff hD, lt_iff hD (Nat.mul_pos (by unfold yHi; omega) hN)]
    have h0 := (lt_iff hD (Z := yHi m * fracN E (pOf m E)) (Nat.mul_pos (by unfold yHi; omega) hN) 0)
    have h1 : 0 < unround (yHi m * fracN E (pOf m E)) (fracD E (pOf m E)) := (h0.1 (by rw [Nat.mul_zero]; exact Nat.mul_pos (by unfold yHi; omega) hN)).2
    omega

theorem strict_in {m : Nat} {E : Int} {N D d : Nat} (h1 : yLo m E * N < 4 * D * d) (h2 : 4 * D * d < yHi m * N) : Inside m E N D d := by
  unfold Inside
  split
  · exact ⟨Nat.le_of_lt h1, Nat.le_of_lt h2⟩
  · exact ⟨h1, h2⟩

/-- What the choice of p brings. -/
theorem wide {m : Nat} {E : Int} (hf : IsFloat m E) : (edge m E = false ∧ yLo m E + 4 = yHi m ∧ yLo m E + 2 = 4 * m ∧ fracD E (pOf m E) ≤ fracN E (pOf m E) ∧ fracN E (pOf m E) < 10 * fracD E (pOf m E)) ∨
    (edge m E = true ∧ m % 2 = 0 ∧ yLo m E + 3 = yHi m ∧ yLo m E + 1 = 4 * m ∧ 4 * fracD E (pOf m E) < 3 * fracN E (pOf m E) ∧ 3 * fracN E (pOf m E) < 40 * fracD E (pOf m E)) := by
  have hw := width E hf.lo hf.hi
  have hp := hf.pos
  cases he : edge m E with
  | false =>
    left
    unfold pOf yLo yHi
    rw [he]
    simp only [Bool.false_eq_true, if_false]
    exact ⟨trivial, by omega, by omega, hw.1, hw.2.1⟩
  | true =>
    right
    have hm : m = 4503599627370496 := by
      unfold edge at he
      simp only [Bool.and_eq_true, decide_eq_true_eq] at he
      exact he.1
    unfold pOf yLo yHi
    rw [he]
    simp only [if_true]
    exact ⟨trivial, by omega, by omega, by omega, hw.2.2.1, hw.2.2.2.1⟩

theorem some_in {m : Nat} {E : Int} (hf : IsFloat m E) : ∃ d, Inside m E (fracN E (pOf m E)) (fracD E (pOf m E)) d := by
  have hD := fracD_pos E (pOf m E)
  have hwide := wide hf
  generalize fracN E (pOf m E) = N at *
  generalize fracD E (pOf m E) = D at *
  have hq := Nat.div_add_mod (yLo m E * N) (4 * D)
  have hr : yLo m E * N % (4 * D) < 4 * D := Nat.mod_lt _ (by omega)
  have go : ∀ c, yLo m E + c = yHi m → 4 * D < c * N → ∃ d, Inside m E N D d := by
    intro c hc hlt
    refine ⟨yLo m E * N / (4 * D) + 1, strict_in ?_ ?_⟩
    · rw [Nat.mul_add, Nat.mul_one]; omega
    · rw [Nat.mul_add, Nat.mul_one, ← hc, Nat.add_mul]; omega
  rcases hwide with ⟨_, h1, h2, h3, _⟩ | ⟨_, _, h1, _, h3, _⟩
  · rcases Nat.lt_or_ge D N with h | h
    · exact go 4 h1 (by omega)
    · have hND : N = D := by omega
      subst hND
      refine ⟨m, strict_in ?_ ?_⟩
      · have e : 4 * N * m = yLo m E * N + 2 * N := by rw [Nat.mul_right_comm, ← h2, Nat.add_mul]
        omega
      · have e : 4 * N * m = yLo m E * N + 2 * N := by rw [Nat.mul_right_comm, ← h2, Nat.add_mul]
        rw [← h1, Nat.add_mul]
        omega
  · exact go 3 h1 h3

theorem round_in {m : Nat} {E : Int} (hf : IsFloat m E) (hlt : dMin m E < dMax m E) : Inside m E (fracN E (pOf m E)) (fracD E (pOf m E)) (roundN (uAt m E (4 * m))) := by
  have hD := fracD_pos E (pOf m E)
  have hwide := wide hf
  have hnear := round_near (Z := 4 * m * fracN E (pOf m E)) hD
  have hmin := (inside_iff hf (dMin m E)).2 ⟨Nat.le_refl _, by omega⟩
  have hmax := (inside_iff hf (dMax m E)).2 ⟨by omega, Nat.le_refl _⟩
  have hiff := inside_iff hf (roundN (uAt m E (4 * m)))
  unfold uAt at hiff ⊢
  generalize roundN (unround (4 * m * fracN E (pOf m E)) (fracD E (pOf m E))) = r at *
  generalize dMin m E = a at *
  generalize dMax m E = b at *
  generalize fracN E (pOf m E) = N at *
  generalize fracD E (pOf m E) = D at *
  rcases hwide with ⟨_, h1, h2, h3, _⟩ | ⟨_, heven, h1, h2, h3, _⟩
  · -- the middle
    have e1 : 4 * m * N = yLo m E * N + 2 * N := by rw [← h2, Nat.add_mul]
    have e2 : yHi m * N = yLo m E * N + 4 * N := by rw [← h1, Nat.add_mul]
    rcases Nat.lt_or_ge D N with h | h
    · exact strict_in (by omega) (by omega)
    · have hND : N = D := by omega
      subst hND
      have hrm : r = m := by
        have e3 : 4 * m * N = 4 * N * m := Nat.mul_right_comm 4 m N
        rw [e3] at hnear
        rcases Nat.lt_trichotomy r m with hl | hl | hl
        · exfalso
          have h5 := Nat.mul_le_mul_left (4 * N) (show r + 1 ≤ m by omega)
          rw [Nat.mul_add, Nat.mul_one] at h5
          omega
        · exact hl
        · exfalso
          have h5 := Nat.mul_le_mul_left (4 * N) (show m + 1 ≤ r by omega)
          rw [Nat.mul_add, Nat.mul_one] at h5
          omega
      subst hrm
      have e3 : 4 * r * N = 4 * N * r := Nat.mul_right_comm 4 r N
      exact strict_in (by omega) (by omega)
  · -- the gap below is narrower
    have e1 : 4 * m * N = yLo m E * N + N := by rw [← h2, Nat.add_mul, Nat.one_mul]
    have e2 : yHi m * N = yLo m E * N + 3 * N := by rw [← h1, Nat.add_mul]
    unfold Inside at hmin hmax ⊢
    rw [if_pos heven] at hmin hmax ⊢
    refine ⟨?_, by omega⟩
    rcases Nat.lt_or_ge (4 * D * r) (yLo m E * N) with hl | hl
    · exfalso
      have hra : r < a := by
        rcases Nat.lt_or_ge r a with h | h
        · exact h
        · have := Nat.mul_le_mul_left (4 * D) h
          omega
      have h5 := Nat.mul_le_mul_left (4 * D) (show r + 2 ≤ b by omega)
      rw [Nat.mul_add] at h5
      omega
    · exact hl

/-- The shortest decimal lies inside: as it stands, or with a nought behind it. -/
theorem short_in {m : Nat} {E : Int} (hf : IsFloat m E) : ∃ d', Inside m E (fracN E (pOf m E)) (fracD E (pOf m E)) d' ∧ ((shortN m E).2 = -pOf m E ∧ d' = (shortN m E).1 ∨ (shortN m E).2 = 1 - pOf m E ∧ d' = 10 * (shortN m E).1) := by
  obtain ⟨d0, hd0⟩ := some_in hf
  have hle := (inside_iff hf d0).1 hd0
  unfold shortN
  by_cases h : dMin m E ≤ dMax m E / 10 * 10
  · rw [if_pos h]
    refine ⟨dMax m E / 10 * 10, (inside_iff hf _).2 ⟨h, by omega⟩, Or.inr ⟨by show -(pOf m E - 1) = _; omega, by show _ = 10 * (dMax m E / 10); omega⟩⟩
  · rw [if_neg h]
    by_cases hlt : dMin m E < dMax m E
    · rw [if_pos hlt]
      exact ⟨_, round_in hf hlt, Or.inl ⟨rfl, rfl⟩⟩
    · rw [if_neg hlt]
      exact ⟨_, (inside_iff hf _).2 ⟨Nat.le_refl _, by omega⟩, Or.inl ⟨rfl, rfl⟩⟩
end Go.Proofs.Qxb6615058aDoor
