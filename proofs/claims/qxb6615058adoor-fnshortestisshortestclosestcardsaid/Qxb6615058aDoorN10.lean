/-
  Plain: the shifts of uscale at a float64; the table's heads are great.
-/
import Derived.Test.Qxb6615058aDoorN8
namespace Go.Proofs.Qxb6615058aDoor

def shOk (k : Nat) : Bool :=
  let E : Int := (k : Int) - 1074
  let s1 := -(E - 11 + log2Pow10 (-log10Pow2 E) + 3)
  let s2 := -(E - 11 + log2Pow10 (-skewed E) + 3)
  decide (0 ≤ s1) && decide (s1 < 64) && decide (0 ≤ s2) && decide (s2 < 64)

set_option maxRecDepth 1000000 in
theorem sh_all : ((List.range 2046).all shOk) = true := by decide +kernel

theorem shifts (E : Int) (h1 : -1074 ≤ E) (h2 : E ≤ 971) : (0 ≤ -(E - 11 + log2Pow10 (-log10Pow2 E) + 3) ∧ -(E - 11 + log2Pow10 (-log10Pow2 E) + 3) < 64) ∧ (0 ≤ -(E - 11 + log2Pow10 (-skewed E) + 3) ∧ -(E - 11 + log2Pow10 (-skewed E) + 3) < 64) := by
  have h := List.all_eq_true.1 sh_all (E + 1074).toNat (List.mem_range.2 (by omega))
  unfold shOk at h
  rw [show (((E + 1074).toNat : Nat) : Int) - 1074 = E by omega] at h
  simp only [Bool.and_eq_true, decide_eq_true_eq] at h
  exact ⟨⟨h.1.1.1, h.1.1.2⟩, ⟨h.1.2, h.2⟩⟩

set_option maxRecDepth 1000000 in
theorem big_all : ((List.range 696).all fun i => decide (9223372036854775808 ≤ tabH ((i : Int) - 348))) = true := by decide +kernel

theorem tabH_big (p : Int) (h1 : -348 ≤ p) (h2 : p ≤ 347) : 9223372036854775808 ≤ tabH p := by
  have h := List.all_eq_true.1 big_all (p + 348).toNat (List.mem_range.2 (by omega))
  rw [show (((p + 348).toNat : Nat) : Int) - 348 = p by omega] at h
  simpa using h

theorem gap_pOf {m : Nat} {E : Int} (hf : IsFloat m E) : gapOk E (pOf m E) = true := by
  have h := gaps E hf.lo hf.hi
  unfold pOf
  split
  · exact h.2
  · exact h.1

/-- uscale at y quarters of a float64's last place, t bits up. -/
theorem uscale_at {m : Nat} {E : Int} (hf : IsFloat m E) (y t s : Nat) (hy : 0 < y) (hN : y < 36028797018963968) (hx : y * 2 ^ t < 18446744073709551616) (ht : t ≤ 64) (ht2 : 9 ≤ t) (hs : (s : Int) = -(E - 2 - t + log2Pow10 (pOf m E) + 3)) :
    uscaleN (y * 2 ^ t) (tabH (pOf m E)) (tabL (pOf m E)) s = uAt m E y := by
  have hp := pOf_range hf
  exact uscale_float hp.1 hp.2 (gap_pOf hf) y t s hy hN hx ht hs ht2

/-- An unrounded number is small. -/
theorem uAt_lt {m : Nat} {E : Int} (hf : IsFloat m E) (y : Nat) (hy : y ≤ 4 * m + 2) : uAt m E y < 9223372036854775808 := by
  have hD := fracD_pos E (pOf m E)
  obtain ⟨F, i, hu, h1, h2, hi, _⟩ := unround_parts (y * fracN E (pOf m E)) (fracD E (pOf m E)) hD
  unfold uAt
  rw [hu]
  have hN : fracN E (pOf m E) < 14 * fracD E (pOf m E) := by
    rcases wide hf with ⟨_, _, _, _, h⟩ | ⟨_, _, _, _, _, h⟩ <;> omega
  have hlt := hf.lt
  generalize fracN E (pOf m E) = N at *
  generalize fracD E (pOf m E) = D at *
  have h3 : y * N ≤ 36028797018963966 * (14 * D) := Nat.mul_le_mul (by omega) (by omega)
  have h4 : 2 * D * F ≤ 2 * D * (36028797018963966 * 7) := by
    have e : 2 * D * (36028797018963966 * 7) = 36028797018963966 * (14 * D) := by omega
    omega
  have h5 := Nat.le_of_mul_le_mul_left h4 (by omega)
  omega
end Go.Proofs.Qxb6615058aDoor
