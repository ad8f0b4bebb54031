/-
  Plain: the decimals of two float64s stand as the floats do.
-/
import Derived.Test.Qxb6615058aDoorN7
namespace Go.Proofs.Qxb6615058aDoor

/-- 10^q and 2^E, both times 10^400 * 2^1100. -/
def P10 (q : Int) : Nat := 10 ^ (q + 400).toNat * 2 ^ 1100
def P2 (E : Int) : Nat := 2 ^ (E + 1100).toNat * 10 ^ 400

set_option exponentiation.threshold 2000 in
theorem P10_pos (q : Int) : 0 < P10 q := Nat.mul_pos (Nat.pow_pos (by decide)) (Nat.two_pow_pos _)
set_option exponentiation.threshold 2000 in
theorem P2_pos (E : Int) : 0 < P2 E := Nat.mul_pos (Nat.two_pow_pos _) (Nat.pow_pos (by decide))

theorem pw (a b c d e f g h : Nat) (h2 : a + b + c = d + e + f) (h5 : g + b = h + f) : 5 ^ g * 2 ^ a * (10 ^ b * 2 ^ c) = 5 ^ h * 2 ^ d * (2 ^ e * 10 ^ f) := by
  have e1 : ∀ n, 10 ^ n = 2 ^ n * 5 ^ n := fun n => by rw [← Nat.mul_pow]
  rw [e1, e1]
  have l : 5 ^ g * 2 ^ a * (2 ^ b * 5 ^ b * 2 ^ c) = 5 ^ (g + b) * 2 ^ (a + b + c) := by
    rw [Nat.pow_add, Nat.pow_add, Nat.pow_add]
    generalize 5 ^ g = A
    generalize 5 ^ b = B
    generalize 2 ^ a = x
    generalize 2 ^ b = y
    generalize 2 ^ c = z
    ac_rfl
  have r : 5 ^ h * 2 ^ d * (2 ^ e * (2 ^ f * 5 ^ f)) = 5 ^ (h + f) * 2 ^ (d + e + f) := by
    rw [Nat.pow_add, Nat.pow_add, Nat.pow_add]
    generalize 5 ^ h = A
    generalize 5 ^ f = B
    generalize 2 ^ d = x
    generalize 2 ^ e = y
    generalize 2 ^ f = z
    ac_rfl
  rw [l, r, h2, h5]

set_option exponentiation.threshold 2000 in
theorem frac_P (E p : Int) (h1 : -400 ≤ p) (h2 : p ≤ 400) (h3 : -1100 ≤ E) : fracN E p * P10 (-p) = fracD E p * P2 E := by
  unfold fracN fracD P10 P2
  exact pw _ _ _ _ _ _ _ _ (by omega) (by omega)

/-- d * 10^q lies where m * 2^E is read back. -/
def Lies (m : Nat) (E : Int) (d : Nat) (q : Int) : Prop := if m % 2 = 0 then yLo m E * P2 E ≤ 4 * d * P10 q ∧ 4 * d * P10 q ≤ yHi m * P2 E else yLo m E * P2 E < 4 * d * P10 q ∧ 4 * d * P10 q < yHi m * P2 E

theorem cr1 {y N D A B d : Nat} (hD : 0 < D) (hA : 0 < A) (h : N * A = D * B) : y * N ≤ 4 * D * d ↔ y * B ≤ 4 * d * A := by
  rw [← Nat.mul_le_mul_right_iff hA, Nat.mul_assoc, h, show y * (D * B) = D * (y * B) by ac_rfl, show 4 * D * d * A = D * (4 * d * A) by ac_rfl, Nat.mul_le_mul_left_iff hD]
theorem cr2 {y N D A B d : Nat} (hD : 0 < D) (hA : 0 < A) (h : N * A = D * B) : 4 * D * d ≤ y * N ↔ 4 * d * A ≤ y * B := by
  rw [← Nat.mul_le_mul_right_iff hA, Nat.mul_assoc y, h, show y * (D * B) = D * (y * B) by ac_rfl, show 4 * D * d * A = D * (4 * d * A) by ac_rfl, Nat.mul_le_mul_left_iff hD]

theorem inside_lies {m : Nat} {E p : Int} {d : Nat} (h1 : -400 ≤ p) (h2 : p ≤ 400) (h3 : -1100 ≤ E) (h : Inside m E (fracN E p) (fracD E p) d) : Lies m E d (-p) := by
  have hf := frac_P E p h1 h2 h3
  have hD := fracD_pos E p
  have hA := P10_pos (-p)
  unfold Inside at h
  unfold Lies
  split
  · rename_i he
    rw [if_pos he] at h
    exact ⟨(cr1 hD hA hf).1 h.1, (cr2 hD hA hf).1 h.2⟩
  · rename_i he
    rw [if_neg he] at h
    refine ⟨?_, ?_⟩
    · rcases Nat.lt_or_ge (yLo m E * P2 E) (4 * d * P10 (-p)) with hl | hl
      · exact hl
      · have := (cr2 hD hA hf).2 hl
        omega
    · rcases Nat.lt_or_ge (4 * d * P10 (-p)) (yHi m * P2 E) with hl | hl
      · exact hl
      · have := (cr1 hD hA hf).2 hl
        omega

theorem P10_ten (q : Int) (h : -400 ≤ q) : P10 (q + 1) = 10 * P10 q := by
  unfold P10
  rw [show (q + 1 + 400).toNat = (q + 400).toNat + 1 by omega, Nat.pow_succ, Nat.mul_right_comm, Nat.mul_comm _ 10]

theorem pOf_range {m : Nat} {E : Int} (hf : IsFloat m E) : -348 ≤ pOf m E ∧ pOf m E ≤ 347 := by
  have hw := width E hf.lo hf.hi
  unfold pOf
  split
  · exact ⟨hw.2.2.2.2.2.2.1, hw.2.2.2.2.2.2.2⟩
  · exact ⟨hw.2.2.2.2.1, hw.2.2.2.2.2.1⟩

theorem short_lies {m : Nat} {E : Int} (hf : IsFloat m E) : Lies m E (shortN m E).1 (shortN m E).2 := by
  obtain ⟨d', hin, hcase⟩ := short_in hf
  have hp := pOf_range hf
  have hl := inside_lies (by omega) (by omega) (by have := hf.lo; omega) hin
  rcases hcase with ⟨h1, h2⟩ | ⟨h1, h2⟩
  · rw [h1, ← h2]
    exact hl
  · have e : 4 * d' * P10 (-pOf m E) = 4 * (shortN m E).1 * P10 (1 - pOf m E) := by
      rw [show (1 - pOf m E) = -pOf m E + 1 by omega, P10_ten _ (by omega), h2]
      generalize P10 (-pOf m E) = X
      generalize (shortN m E).1 = Y
      rw [← Nat.mul_assoc, Nat.mul_right_comm 4 10 Y, Nat.mul_assoc (4 * Y) 10 X]
    unfold Lies at hl ⊢
    rw [h1, ← e]
    exact hl

theorem P2_step (E : Int) (k : Nat) (h : -1100 ≤ E) : P2 (E + k) = 2 ^ k * P2 E := by
  unfold P2
  rw [show (E + k + 1100).toNat = k + (E + 1100).toNat by omega, Nat.pow_add, Nat.mul_assoc]

/-- The intervals of two floats: the lower's upper end is no higher than the upper's lower end; where they are the same, not both hold it. -/
theorem ends {m1 m2 : Nat} {E1 E2 : Int} (h1 : IsFloat m1 E1) (h2 : IsFloat m2 E2) (hlt : E1 < E2 ∨ E1 = E2 ∧ m1 < m2) : yHi m1 * P2 E1 < yLo m2 E2 * P2 E2 ∨ yHi m1 * P2 E1 = yLo m2 E2 * P2 E2 ∧ (m1 % 2 = 1 ∨ m2 % 2 = 1) := by
  have a1 := h1.lt
  have b1 := h2.pos
  rcases hlt with hE | ⟨rfl, hm⟩
  · obtain ⟨k, hk⟩ : ∃ k : Nat, E2 = E1 + ((k + 1 : Nat) : Int) := ⟨(E2 - E1 - 1).toNat, by omega⟩
    have hlo := h1.lo
    have hP : P2 E2 = 2 ^ k * 2 * P2 E1 := by
      rw [hk, P2_step E1 (k + 1) (by omega), Nat.pow_succ]
    have hn : 4503599627370496 ≤ m2 := by
      rcases h2.norm with h | h
      · exact h
      · omega
    have hy : 18014398509481983 ≤ yLo m2 E2 := by
      unfold yLo
      split
      · omega
      · rename_i he
        have hne : m2 ≠ 4503599627370496 := fun e => he (by
          unfold edge
          rw [e]
          simp
          omega)
        omega
    have hpos := P2_pos E1
    have hk1 : 0 < 2 ^ k := Nat.two_pow_pos k
    generalize P2 E1 = X at *
    rw [hP]
    have hX : yLo m2 E2 * (2 ^ k * 2 * X) = yLo m2 E2 * 2 ^ k * 2 * X := by ac_rfl
    rw [hX]
    have hy2 : 18014398509481983 ≤ yLo m2 E2 * 2 ^ k := Nat.le_trans hy (Nat.le_mul_of_pos_right _ hk1)
    generalize yLo m2 E2 * 2 ^ k = Y at *
    have hyh : yHi m1 ≤ Y * 2 := by unfold yHi; omega
    rcases Nat.lt_or_ge (yHi m1) (Y * 2) with hl | hl
    · left
      exact (Nat.mul_lt_mul_right hpos).2 hl
    · right
      have he : yHi m1 = Y * 2 := by omega
      refine ⟨by rw [he], Or.inl ?_⟩
      unfold yHi at he
      omega
  · have hpos := P2_pos E1
    have hy : yHi m1 ≤ yLo m2 E1 := by
      unfold yHi yLo
      split <;> omega
    rcases Nat.lt_or_ge (yHi m1) (yLo m2 E1) with hl | hl
    · left
      exact (Nat.mul_lt_mul_right hpos).2 hl
    · right
      have he : yHi m1 = yLo m2 E1 := by omega
      refine ⟨by rw [he], ?_⟩
      unfold yHi yLo at he
      split at he <;> omega

theorem order {m1 m2 d1 d2 : Nat} {E1 E2 q1 q2 : Int} (h1 : IsFloat m1 E1) (h2 : IsFloat m2 E2) (hlt : E1 < E2 ∨ E1 = E2 ∧ m1 < m2) (l1 : Lies m1 E1 d1 q1) (l2 : Lies m2 E2 d2 q2) : d1 * P10 q1 < d2 * P10 q2 := by
  have he := ends h1 h2 hlt
  have key : 4 * d1 * P10 q1 < 4 * d2 * P10 q2 := by
    unfold Lies at l1 l2
    split at l1 <;> split at l2 <;> omega
  rw [Nat.mul_assoc, Nat.mul_assoc] at key
  omega
end Go.Proofs.Qxb6615058aDoor
