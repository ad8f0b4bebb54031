/-
  Walk: zzIn (10).
-/
import Derived.Test.Qxb6615058aDoorX3
import Derived.Test.Qxb6615058aDoorN14
namespace Go.Proofs.Qxb6615058aDoor
open Go.RowKit

theorem sgn_ge {a b : Nat} : 0 ≤ sgn a b ↔ b ≤ a := by unfold sgn; split <;> (try split) <;> omega
theorem sgn_pos {a b : Nat} : 0 < sgn a b ↔ b < a := by unfold sgn; split <;> (try split) <;> omega
theorem sgn_le {a b : Nat} : sgn a b ≤ 0 ↔ a ≤ b := by unfold sgn; split <;> (try split) <;> omega
theorem sgn_neg {a b : Nat} : sgn a b < 0 ↔ a < b := by unfold sgn; split <;> (try split) <;> omega

/-- Both sides of zzCmpDB times one factor. -/
theorem cmp_scale (d x c : Nat) (q b : Int) (hq1 : -400 ≤ q) (hb : (-b).toNat ≤ c) : ∃ K, 0 < K ∧ cmpA d q b * K = d * (10 ^ (q + 400).toNat * 2 ^ c) ∧ cmpB x q b * K = x * (2 ^ (b + c).toNat * 10 ^ 400) := by
  refine ⟨10 ^ (400 - (-q).toNat) * 2 ^ (c - (-b).toNat), Nat.mul_pos (Nat.pow_pos (by decide)) (Nat.two_pow_pos _), ?_, ?_⟩
  · unfold cmpA
    have e1 : 10 ^ (q + 400).toNat = 10 ^ q.toNat * 10 ^ (400 - (-q).toNat) := by rw [← Nat.pow_add]; congr 1; omega
    have e2 : 2 ^ c = 2 ^ (-b).toNat * 2 ^ (c - (-b).toNat) := by rw [← Nat.pow_add]; congr 1; omega
    rw [e1, e2]
    generalize 10 ^ q.toNat = A
    generalize 10 ^ (400 - (-q).toNat) = B
    generalize 2 ^ (-b).toNat = C
    generalize 2 ^ (c - (-b).toNat) = D
    ac_rfl
  · unfold cmpB
    have e1 : 10 ^ 400 = 10 ^ (-q).toNat * 10 ^ (400 - (-q).toNat) := by rw [← Nat.pow_add]; congr 1; omega
    have e2 : 2 ^ (b + c).toNat = 2 ^ b.toNat * 2 ^ (c - (-b).toNat) := by rw [← Nat.pow_add]; congr 1; omega
    rw [e1, e2]
    generalize 10 ^ (-q).toNat = A
    generalize 10 ^ (400 - (-q).toNat) = B
    generalize 2 ^ b.toNat = C
    generalize 2 ^ (c - (-b).toNat) = D
    ac_rfl

set_option exponentiation.threshold 2000 in
theorem cmp_in (d x : Nat) (q E : Int) (hq1 : -400 ≤ q) (hE : -1074 ≤ E) : ∃ K, 0 < K ∧ cmpA d q (E - 2) * K = 4 * d * P10 q ∧ cmpB x q (E - 2) * K = x * P2 E := by
  obtain ⟨K, h0, h1, h2⟩ := cmp_scale d x 1102 q (E - 2) hq1 (by omega)
  refine ⟨K, h0, ?_, ?_⟩
  · rw [h1]
    unfold P10
    rw [show 2 ^ 1102 = 2 ^ 2 * 2 ^ 1100 from (Nat.pow_add 2 2 1100)]
    generalize 10 ^ (q + 400).toNat = A
    generalize 2 ^ 1100 = B
    rw [show (2 : Nat) ^ 2 = 4 from rfl]
    ac_rfl
  · rw [h2]
    unfold P2
    rw [show (E - 2 + ((1102 : Nat) : Int)).toNat = (E + 1100).toNat by omega]

theorem cmp_mid (d x : Nat) (q E : Int) (hq1 : -400 ≤ q) (hE : -1074 ≤ E) : ∃ K, 0 < K ∧ cmpA d q E * K = d * P10 q ∧ cmpB x q E * K = x * P2 E := by
  obtain ⟨K, h0, h1, h2⟩ := cmp_scale d x 1100 q E hq1 (by omega)
  refine ⟨K, h0, ?_, ?_⟩
  · rw [h1]
    rfl
  · rw [h2]
    unfold P2
    rw [show (E + ((1100 : Nat) : Int)).toNat = (E + 1100).toNat by omega]

/-- What zzIn says. -/
def inB (m : Nat) (E : Int) (d : Nat) (q : Int) : Bool :=
  if m % 2 = 0 then decide (0 ≤ sgn (cmpA d q (E - 2)) (cmpB (yLo m E) q (E - 2))) && decide (sgn (cmpA d q (E - 2)) (cmpB (yHi m) q (E - 2)) ≤ 0)
  else decide (0 < sgn (cmpA d q (E - 2)) (cmpB (yLo m E) q (E - 2))) && decide (sgn (cmpA d q (E - 2)) (cmpB (yHi m) q (E - 2)) < 0)

theorem inB_iff (m : Nat) (E : Int) (d : Nat) (q : Int) (hq1 : -400 ≤ q) (hE : -1074 ≤ E) : inB m E d q = true ↔ Lies m E d q := by
  obtain ⟨K, h0, h1, h2⟩ := cmp_in d (yLo m E) q E hq1 hE
  obtain ⟨K', h0', h1', h2'⟩ := cmp_in d (yHi m) q E hq1 hE
  have i1 : cmpB (yLo m E) q (E - 2) ≤ cmpA d q (E - 2) ↔ yLo m E * P2 E ≤ 4 * d * P10 q := by rw [← h1, ← h2]; exact (Nat.mul_le_mul_right_iff h0).symm
  have i2 : cmpA d q (E - 2) ≤ cmpB (yHi m) q (E - 2) ↔ 4 * d * P10 q ≤ yHi m * P2 E := by rw [← h1', ← h2']; exact (Nat.mul_le_mul_right_iff h0').symm
  have i3 : cmpB (yLo m E) q (E - 2) < cmpA d q (E - 2) ↔ yLo m E * P2 E < 4 * d * P10 q := by rw [← h1, ← h2]; exact (Nat.mul_lt_mul_right h0).symm
  have i4 : cmpA d q (E - 2) < cmpB (yHi m) q (E - 2) ↔ 4 * d * P10 q < yHi m * P2 E := by rw [← h1', ← h2']; exact (Nat.mul_lt_mul_right h0').symm
  unfold inB Lies
  split
  · rw [Bool.and_eq_true, decide_eq_true_iff, decide_eq_true_iff, sgn_ge, sgn_le, i1, i2]
  · rw [Bool.and_eq_true, decide_eq_true_iff, decide_eq_true_iff, sgn_pos, sgn_neg, i3, i4]

set_option maxRecDepth 100000 in
set_option maxHeartbeats 2000000 in
theorem in_any (d m : Nat) (q E : Int) (w : World) (hd : d < 18446744073709551616) (hm1 : 1 ≤ m) (hm2 : m < 9007199254740992) (hq1 : -400 ≤ q) (hq2 : q ≤ 400) (hE1 : -1074 ≤ E) (hE2 : E ≤ 971) :
    Calls Tryd.prog 10 #[.int .u64 d, .int .i64 q, .int .u64 m, .int .i64 E] w fun e w' => e = .returned (.bool (inB m E d q)) ∧ Below w.heap.size w w' := by
  obtain ⟨lo, hlo⟩ : ∃ lo, lo = yLo m E := ⟨_, rfl⟩
  obtain ⟨hi, hhi⟩ : ∃ hi, hi = yHi m := ⟨_, rfl⟩
  obtain ⟨E2, hE3⟩ : ∃ E2 : Int, E2 = E - 2 := ⟨_, rfl⟩
  have hlob : lo < 18446744073709551616 := by rw [hlo]; unfold yLo; split <;> omega
  have hhib : hi < 18446744073709551616 := by rw [hhi]; unfold yHi; omega
  have HC1 : Hid (∀ W : World, Calls Tryd.prog 11 #[.int .u64 d, .int .i64 q, .int .u64 lo, .int .i64 E2] W fun e w' => e = .returned (.int .i64 (sgn (cmpA d q (E - 2)) (cmpB (yLo m E) q (E - 2)))) ∧ Below W.heap.size W w') := fun W => by
    have h := cmpDB_any d lo q E2 W hd hlob hq1 hq2 (by omega) (by omega)
    rw [hlo, hE3] at h ⊢
    exact h
  have HC2 : Hid (∀ W : World, Calls Tryd.prog 11 #[.int .u64 d, .int .i64 q, .int .u64 hi, .int .i64 E2] W fun e w' => e = .returned (.int .i64 (sgn (cmpA d q (E - 2)) (cmpB (yHi m) q (E - 2)))) ∧ Below W.heap.size W w') := fun W => by
    have h := cmpDB_any d hi q E2 W hd hhib hq1 hq2 (by omega) (by omega)
    rw [hhi, hE3] at h ⊢
    exact h
  have HIN : Hid (inB m E d q = if m % 2 = 0 then decide (0 ≤ sgn (cmpA d q (E - 2)) (cmpB (yLo m E) q (E - 2))) && decide (sgn (cmpA d q (E - 2)) (cmpB (yHi m) q (E - 2)) ≤ 0) else decide (0 < sgn (cmpA d q (E - 2)) (cmpB (yLo m E) q (E - 2))) && decide (sgn (cmpA d q (E - 2)) (cmpB (yHi m) q (E - 2)) < 0)) := rfl
  have z1 : E - 2 = E2 := hE3.symm
  have z2 : 4 * (m : Int) + 2 = (hi : Int) := by rw [hhi]; unfold yHi; omega
  have hEb : -1074 ≤ E ∧ E ≤ 971 := ⟨hE1, hE2⟩
  have hmm : (m % 2 = 0 ∧ (m : Int) % 2 = 0) ∨ (m % 2 = 1 ∧ (m : Int) % 2 = 1) := by omega
  -- the two ways to lo
  have hedge : (((m : Int) == 4503599627370496) = true ∧ decide (E > -1074) = true ∧ 4 * (m : Int) - 1 = (lo : Int)) ∨ (((m : Int) == 4503599627370496) = true ∧ decide (E > -1074) = false ∧ 4 * (m : Int) - 2 = (lo : Int)) ∨ (((m : Int) == 4503599627370496) = false ∧ 4 * (m : Int) - 2 = (lo : Int)) := by
    rw [hlo]
    unfold yLo edge
    by_cases a1 : m = 4503599627370496
    · by_cases a2 : -1074 < E
      · left
        refine ⟨by rw [beq_iff_eq]; omega, by simp; omega, ?_⟩
        rw [if_pos (by simp [a1, a2])]
        omega
      · right; left
        refine ⟨by rw [beq_iff_eq]; omega, by simp; omega, ?_⟩
        rw [if_neg (by simp; omega)]
        omega
    · right; right
      refine ⟨by rw [beq_eq_false_iff_ne]; omega, ?_⟩
      rw [if_neg (by simp [a1])]
      omega
  generalize sgn (cmpA d q (E - 2)) (cmpB (yLo m E) q (E - 2)) = c1 at *
  generalize sgn (cmpA d q (E - 2)) (cmpB (yHi m) q (E - 2)) = c2 at *
  clear hlo hhi hE3
  rcases hedge with ⟨a1, a2, a3⟩ | ⟨a1, a2, a3⟩ | ⟨a1, a3⟩
  all_goals
    rcases hmm with ⟨p1, p2⟩ | ⟨p1, p2⟩
    · have HI2 : Hid (inB m E d q = (decide (0 ≤ c1) && decide (c2 ≤ 0))) := by rw [Hid, HIN.out, if_pos p1]
      clear HIN p1
      go_enter Tryd.func10, Tryd.ntmps10
      go_wp2_with fail
      refine (HC1.out _).mono ?_
      rintro e w1 ⟨rfl, hb1⟩
      have HB1 : Hid (Below w.heap.size w w1) := hb1
      clear hb1
      go_wp2_with fail
      refine (HC2.out _).mono ?_
      rintro e w2 ⟨rfl, hb2⟩
      have HB2 : Hid (Below w.heap.size w w2) := HB1.out.trans (hb2.mono HB1.out.size)
      clear hb2 HB1
      by_cases f1 : 0 ≤ c1
      · by_cases f2 : c2 ≤ 0
        · have g1 : decide (c1 ≥ 0) = true := by simp; omega
          have g2 : decide (c2 ≤ 0) = true := by simp; omega
          have HR : Hid (inB m E d q = true) := by rw [Hid, HI2.out]; simp; omega
          go_wp2_with fail
          go_ret
          exact ⟨ret_bool HR.out.symm, HB2.out⟩
        · have g1 : decide (c1 ≥ 0) = true := by simp; omega
          have g2 : decide (c2 ≤ 0) = false := by simp; omega
          have HR : Hid (inB m E d q = false) := by rw [Hid, HI2.out]; simp; omega
          go_wp2_with fail
          go_ret
          exact ⟨ret_bool HR.out.symm, HB2.out⟩
      · have g1 : decide (c1 ≥ 0) = false := by simp; omega
        have HR : Hid (inB m E d q = false) := by rw [Hid, HI2.out]; simp; omega
        go_wp2_with fail
        go_ret
        exact ⟨ret_bool HR.out.symm, HB2.out⟩
    · have HI2 : Hid (inB m E d q = (decide (0 < c1) && decide (c2 < 0))) := by rw [Hid, HIN.out, if_neg (by omega)]
      clear HIN p1
      go_enter Tryd.func10, Tryd.ntmps10
      go_wp2_with fail
      refine (HC1.out _).mono ?_
      rintro e w1 ⟨rfl, hb1⟩
      have HB1 : Hid (Below w.heap.size w w1) := hb1
      clear hb1
      go_wp2_with fail
      refine (HC2.out _).mono ?_
      rintro e w2 ⟨rfl, hb2⟩
      have HB2 : Hid (Below w.heap.size w w2) := HB1.out.trans (hb2.mono HB1.out.size)
      clear hb2 HB1
      by_cases f1 : 0 < c1
      · by_cases f2 : c2 < 0
        · have g1 : decide (c1 > 0) = true := by simp; omega
          have g2 : decide (c2 < 0) = true := by simp; omega
          have HR : Hid (inB m E d q = true) := by rw [Hid, HI2.out]; simp; omega
          go_wp2_with fail
          go_ret
          exact ⟨ret_bool HR.out.symm, HB2.out⟩
        · have g1 : decide (c1 > 0) = true := by simp; omega
          have g2 : decide (c2 < 0) = false := by simp; omega
          have HR : Hid (inB m E d q = false) := by rw [Hid, HI2.out]; simp; omega
          go_wp2_with fail
          go_ret
          exact ⟨ret_bool HR.out.symm, HB2.out⟩
      · have g1 : decide (c1 > 0) = false := by simp; omega
        have HR : Hid (inB m E d q = false) := by rw [Hid, HI2.out]; simp; omega
        go_wp2_with fail
        go_ret
        exact ⟨ret_bool HR.out.symm, HB2.out⟩
end Go.Proofs.Qxb6615058aDoor
