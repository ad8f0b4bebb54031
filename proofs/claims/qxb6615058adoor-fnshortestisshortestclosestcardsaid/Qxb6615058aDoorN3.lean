/-
  Plain: the certificates of every exponent stand.
-/
import Derived.Test.Qxb6615058aDoorN2
namespace Go.Proofs.Qxb6615058aDoor

set_option maxRecDepth 1000000 in
theorem gaps_all : ((List.range 2046).all bothOk) = true := by decide +kernel

theorem gaps (E : Int) (h1 : -1074 ≤ E) (h2 : E ≤ 971) : gapOk E (-log10Pow2 E) = true ∧ gapOk E (-skewed E) = true := by
  have h := List.all_eq_true.1 gaps_all (E + 1074).toNat (List.mem_range.2 (by omega))
  unfold bothOk at h
  rw [show (((E + 1074).toNat : Nat) : Int) - 1074 = E by omega] at h
  simpa using h

/-- For y below 2^55: y * 2^E * 10^p is a whole number or stands off every whole number. -/
theorem gap (E p : Int) (h : gapOk E p = true) (y k : Nat) (hy : 0 < y) (hN : y < 2 ^ 55) : y * fracN E p = k * fracD E p ∨ fracD E p ≤ apart (y * fracN E p) (k * fracD E p) * 2 ^ (63 + (-(E - 11 + log2Pow10 p + 3)).toNat) :=
  gap_of h y k hy hN
end Go.Proofs.Qxb6615058aDoor
