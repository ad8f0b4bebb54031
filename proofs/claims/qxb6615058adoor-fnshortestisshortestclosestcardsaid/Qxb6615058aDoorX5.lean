/-
  Walk: zzSplit (9).
-/
import Derived.Test.Qxb6615058aDoorX4
import Derived.Test.Qxb6615058aDoorN15
namespace Go.Proofs.Qxb6615058aDoor
open Go.RowKit

/-- One doubling, at every float below 2^52. -/
theorem dbl_any {m : Nat} {E : Int} (hf : IsFloat m E) (hE : E < 0) : ∃ m' E', IsFloat m' E' ∧ E' ≤ 0 ∧ Ieee.double.mul (wordOf m E) 4611686018427387904 = some (wordOf m' E') ∧ m' * 2 ^ (E' + 1074).toNat = m * 2 ^ (E + 1074).toNat * 2 := by
  by_cases hn : 4503599627370496 ≤ m
  · obtain ⟨h1, h2⟩ := dbl_norm hf hn (by omega)
    refine ⟨m, E + 1, h1, by omega, h2, ?_⟩
    have := hf.lo
    rw [show (E + 1 + 1074).toNat = (E + 1074).toNat + 1 by omega, Nat.pow_succ, Nat.mul_assoc]
  · obtain ⟨h1, h2⟩ := dbl_sub hf (by omega)
    refine ⟨2 * m, E, h1, by omega, h2, ?_⟩
    generalize 2 ^ (E + 1074).toNat = Z
    ac_rfl

set_option exponentiation.threshold 2000 in
/-- How many doublings there can be. -/
theorem dbl_few {m m1 i : Nat} {E E1 : Int} (hf : IsFloat m E) (hf1 : IsFloat m1 E1) (hE : E1 < 0) (h : m1 * 2 ^ (E1 + 1074).toNat = m * 2 ^ (E + 1074).toNat * 2 ^ i) : i < 1200 := by
  have h1 := hf1.lt
  have h2 := hf.pos
  rcases Nat.lt_or_ge i 1200 with c | c
  · exact c
  · exfalso
    have a1 : m1 * 2 ^ (E1 + 1074).toNat < 2 ^ 53 * 2 ^ 1074 := Nat.mul_lt_mul_of_lt_of_le (by omega) (Nat.pow_le_pow_right (by decide) (by omega)) (Nat.two_pow_pos _)
    have a2 : 2 ^ 1200 ≤ m * 2 ^ (E + 1074).toNat * 2 ^ i := by
      have b1 : 2 ^ 1200 ≤ 2 ^ i := Nat.pow_le_pow_right (by decide) c
      have b2 : 1 * 2 ^ i ≤ m * 2 ^ (E + 1074).toNat * 2 ^ i := Nat.mul_le_mul_right _ (Nat.mul_pos (by omega) (Nat.two_pow_pos _))
      omega
    have a3 : 2 ^ 53 * 2 ^ 1074 ≤ 2 ^ 1200 := by rw [← Nat.pow_add]; exact Nat.pow_le_pow_right (by decide) (by decide)
    rw [h] at a1
    exact absurd (Nat.lt_of_le_of_lt (Nat.le_trans a3 a2) a1) (Nat.lt_irrefl _)

/-- Where the doublings end. -/
theorem dbl_end {m m1 i : Nat} {E : Int} (hf : IsFloat m E) (hf1 : IsFloat m1 0) (h : m1 * 2 ^ ((0 : Int) + 1074).toNat = m * 2 ^ (E + 1074).toNat * 2 ^ i) : ∃ s : Nat, -(i : Int) = E - s ∧ m1 = m * 2 ^ s ∧ s ≤ 52 ∧ (s = 0 ∨ E = -1074) := by
  have h1 := hf1.lt
  have h2 := hf.pos
  have h3 := hf.lt
  have h4 := hf.lo
  have h5 : 4503599627370496 ≤ m1 := by have := hf1.norm; omega
  rw [show ((0 : Int) + 1074).toNat = 1074 by omega, Nat.mul_assoc, ← Nat.pow_add] at h
  have hge : 1074 ≤ (E + 1074).toNat + i := by
    rcases Nat.lt_or_ge ((E + 1074).toNat + i) 1074 with c | c
    · exfalso
      obtain ⟨t, ht⟩ : ∃ t, 1074 = (E + 1074).toNat + i + (t + 1) := ⟨1074 - ((E + 1074).toNat + i) - 1, by omega⟩
      rw [ht, Nat.pow_add, Nat.mul_comm (2 ^ ((E + 1074).toNat + i)), ← Nat.mul_assoc] at h
      have e := Nat.eq_of_mul_eq_mul_right (Nat.two_pow_pos _) h
      rw [Nat.pow_succ] at e
      have := Nat.two_pow_pos t
      have h6 : m1 * 2 ≤ m1 * (2 ^ t * 2) := Nat.mul_le_mul_left _ (by omega)
      omega
    · exact c
  obtain ⟨s, hs⟩ : ∃ s, (E + 1074).toNat + i = s + 1074 := ⟨(E + 1074).toNat + i - 1074, by omega⟩
  rw [hs, Nat.pow_add, ← Nat.mul_assoc] at h
  have e := Nat.eq_of_mul_eq_mul_right (Nat.two_pow_pos _) h
  refine ⟨s, by omega, e, ?_, ?_⟩
  · rcases Nat.lt_or_ge 52 s with c | c
    · exfalso
      have b1 : 2 ^ 53 ≤ 2 ^ s := Nat.pow_le_pow_right (by decide) c
      have b2 : 1 * 2 ^ s ≤ m * 2 ^ s := Nat.mul_le_mul_right _ h2
      omega
    · exact c
  · rcases hf.norm with c | c
    · left
      rcases Nat.eq_zero_or_pos s with z | z
      · exact z
      · exfalso
        obtain ⟨t, rfl⟩ : ∃ t, s = t + 1 := ⟨s - 1, by omega⟩
        rw [Nat.pow_succ] at e
        have := Nat.two_pow_pos t
        have h6 : m * 2 ≤ m * (2 ^ t * 2) := Nat.mul_le_mul_left _ (by omega)
        omega
    · exact .inr c

theorem run_whole {P : Program} {m : Nat} (hf : IsFloat m 0) (w : World) (hs : (P.underlying 22).isSome = true) (hd : P.underlying 28 = some (.int .u64)) : (convert 22 28 (.float .f64 (wordOf m 0))).run P w = .ok (.int .u64 (m : Int)) w := by
  refine run_convert_float_int w 22 28 .f64 .u64 _ _ hs hd ?_
  unfold floatToIntVal
  have h : (FloatKind.f64.decode (wordOf m 0)).toInt .zero = some (m : Int) := whole hf
  rw [h]
  have := hf.lt
  simp only []
  rw [if_pos]
  constructor
  · show (0 : Int) ≤ _; omega
  · show (m : Int) ≤ 18446744073709551615; omega

set_option maxRecDepth 100000 in
set_option maxHeartbeats 4000000 in
theorem split_neg (m : Nat) (E : Int) (w : World) (hf : IsFloat m E) (hE : E < 0) :
    Calls Tryd.prog 9 #[.float .f64 (wordOf m E)] w fun e w' => e = .returned (.tuple #[.int .u64 m, .int .i64 E]) ∧ w' = w := by
  have HF : Hid (IsFloat m E) := hf
  have hElo := hf.lo
  clear hf
  go_enter Tryd.func9, Tryd.ntmps9
  go_wp2_with fail
  go_loop [0, 4, 5] (fun av pv iv => ∃ (i m1 : Nat) (E1 : Int), iv = .int .i64 i ∧ pv = .int .i64 (-(i : Int)) ∧ av = .float .f64 (wordOf m1 E1) ∧ IsFloat m1 E1 ∧ E1 ≤ 0 ∧ m1 * 2 ^ (E1 + 1074).toNat = m * 2 ^ (E + 1074).toNat * 2 ^ i) (fun _ _ iv => 1300 - (intOf iv).toNat)
  case atStart => exact ⟨0, m, E, rfl, rfl, rfl, HF.out, by omega, by rw [Nat.pow_zero, Nat.mul_one]⟩
  case round =>
    obtain ⟨i, m1, E1, rfl, rfl, rfl, hf1, hE1, heq⟩ := hrel
    have hlt : (FloatKind.f64.format.order (wordOf m1 E1) 4841369599423283200 == some .lt) = decide (E1 < 0) := lt52 hf1
    by_cases hneg : E1 < 0
    · have hfew := dbl_few HF.out hf1 hneg heq
      obtain ⟨m2, E2, hf2, hE2, hmul, hst⟩ := dbl_any hf1 hneg
      have hrun : ∀ W, (binOp .mul 22 (.float .f64 (wordOf m1 E1)) (.float .f64 4611686018427387904)).run Tryd.prog W = .ok (.float .f64 (wordOf m2 E2)) W := fun W => run_float_arith W .mul 22 .f64 _ _ _ hmul
      rw [decide_eq_true hneg] at hlt
      have x1 : (i : Int) < 1200 := by omega
      have x2 : decide ((i : Int) < 1200) = true := by simp; omega
      have HST : Hid (m2 * 2 ^ (E2 + 1074).toNat = m * 2 ^ (E + 1074).toNat * 2 ^ (i + 1)) := by rw [Hid, hst, heq, Nat.pow_succ, Nat.mul_assoc]
      have HF2 : Hid (IsFloat m2 E2 ∧ E2 ≤ 0) := ⟨hf2, hE2⟩
      clear hst heq hmul hf2 hE2 hf1 hneg hE1
      generalize hw1 : wordOf m1 E1 = a1 at *
      generalize hw2 : wordOf m2 E2 = a2 at *
      have HW2 : Hid _ := hw2
      clear hw1 hw2
      go_wp2_with fail
      go_round
      case rel => exact ⟨i + 1, m2, E2, by go_num, by go_num, by rw [HW2.out], HF2.out.1, HF2.out.2, HST.out⟩
      case measure => simp [intOf]; omega
    · obtain rfl : E1 = 0 := by omega
      rw [decide_eq_false hneg] at hlt
      have hge : (FloatKind.f64.format.order (wordOf m1 0) 4845873199050653696 == some .gt || FloatKind.f64.format.order (wordOf m1 0) 4845873199050653696 == some .eq) = false := (ge53 hf1).trans (by decide)
      obtain ⟨s, hs1, hs2, hs3, hs4⟩ := dbl_end HF.out hf1 heq
      have hcv : ∀ W, (convert 22 28 (.float .f64 (wordOf m1 0))).run Tryd.prog W = .ok (.int .u64 (m1 : Int)) W := fun W => run_whole hf1 W (by rw [Tryd.underlying22]; rfl) Tryd.underlying28
      have hm1 := hf1.lt
      have hib : i ≤ 1126 := by omega
      have HM : Hid _ := hs2
      have HS4 : Hid _ := hs4
      have hpe : -(i : Int) = E - s := hs1
      clear heq hf1 hneg hs2 hs4 hs1
      generalize hw1 : wordOf m1 0 = a1 at *
      clear hw1
      by_cases hi : i < 1200
      · have x1 : (i : Int) < 1200 := by omega
        have x2 : decide ((i : Int) < 1200) = true := by simp; omega
        rw [hpe]
        have hsp : -2000 ≤ E - (s : Int) := by omega
        clear hpe
        go_wp2_with fail
        go_loop [0, 4, 6] (fun av pv iv => av = .float .f64 a1 ∧ pv = .int .i64 (E - (s : Int)) ∧ iv = .int .i64 0) (fun _ _ _ => 0)
        case atStart => exact ⟨rfl, rfl, rfl⟩
        case round =>
        obtain ⟨rfl, rfl, rfl⟩ := hrel
        go_wp2_with fail
        go_loop [4, 7, 8] (fun pv mv jv => ∃ j : Nat, jv = .int .i64 j ∧ j ≤ s ∧ mv = .int .u64 ((m * 2 ^ (s - j) : Nat) : Int) ∧ pv = .int .i64 (E - ((s - j : Nat) : Int))) (fun _ _ jv => s - (intOf jv).toNat)
        case atStart => exact ⟨0, rfl, Nat.zero_le _, by rw [Nat.sub_zero, ← HM.out], by rw [Nat.sub_zero]⟩
        case round =>
          obtain ⟨j, rfl, hj, rfl, rfl⟩ := hrel
          by_cases hjs : j < s
          · have hE4 : E = -1074 := by have := HS4.out; omega
            obtain ⟨t, ht⟩ : ∃ t, s - j = t + 1 := ⟨s - j - 1, by omega⟩
            obtain ⟨Y, hY⟩ : ∃ Y, Y = m * 2 ^ t := ⟨_, rfl⟩
            have hYY : m * 2 ^ (s - j) = 2 * Y := by rw [ht, Nat.pow_succ, hY, ← Nat.mul_assoc, Nat.mul_comm]
            rw [hYY, ht]
            have HY : Hid (m * 2 ^ (s - (j + 1)) = Y) := by rw [Hid, hY]; congr 2; omega
            have z1 : ((2 * Y : Nat) : Int) / 2 = (Y : Int) := by omega
            have z2 : E - ((t + 1 : Nat) : Int) < -1074 := by omega
            have z3 : decide (E - ((t + 1 : Nat) : Int) < -1074) = true := by simp; omega
            have z4 : (j : Int) < 60 := by omega
            have z5 : decide ((j : Int) < 60) = true := by simp; omega
            obtain ⟨pp, hpp⟩ : ∃ pp : Int, pp = E - ((t + 1 : Nat) : Int) := ⟨_, rfl⟩
            rw [← hpp] at z2 z3 ⊢
            have HPP : Hid (pp + 1 = E - ((s - (j + 1) : Nat) : Int)) := by rw [Hid, hpp]; omega
            have hpb : -2000 ≤ pp := by omega
            have hYb : 2 * Y < 9007199254740992 := by
              rw [← hYY]
              have h1 := HM.out
              have h2 : m * 2 ^ (s - j) ≤ m * 2 ^ s := Nat.mul_le_mul_left _ (Nat.pow_le_pow_right (by decide) (by omega))
              omega
            obtain ⟨Y2, hY2⟩ : ∃ Y2, Y2 = 2 * Y := ⟨_, rfl⟩
            rw [← hY2] at z1 hYb ⊢
            clear hY2 hpp hYY hY ht hE4
            go_wp2_with fail
            go_round
            case rel => exact ⟨j + 1, by go_num, by omega, by rw [HY.out], by rw [← HPP.out]⟩
            case measure => simp [intOf]; omega
          · obtain rfl : j = s := by omega
            rw [Nat.sub_self, Nat.pow_zero, Nat.mul_one]
            have z1 : ¬ E < -1074 := by omega
            have z2 : decide (E < -1074) = false := by simp; omega
            have z3 : (j : Int) < 60 := by omega
            have z4 : decide ((j : Int) < 60) = true := by simp; omega
            have z5 : E - ((0 : Nat) : Int) = E := by omega
            rw [z5]
            go_wp2_with fail
            go_ret2
            exact ⟨ret_pair rfl rfl, rfl⟩
      · omega

set_option maxRecDepth 100000 in
set_option maxHeartbeats 4000000 in
theorem split_pos (m : Nat) (E : Int) (w : World) (hf : IsFloat m E) (hE : 0 ≤ E) :
    Calls Tryd.prog 9 #[.float .f64 (wordOf m E)] w fun e w' => e = .returned (.tuple #[.int .u64 m, .int .i64 E]) ∧ w' = w := by
  have hEhi := hf.hi
  have hn : 4503599627370496 ≤ m := by have := hf.norm; omega
  have hml := hf.lt
  have HK : Hid (∀ i : Nat, (i : Int) ≤ E → IsFloat m (E - i)) := fun i hi => ⟨hf.pos, hf.lt, by omega, by omega, .inl hn⟩
  have hlt : (FloatKind.f64.format.order (wordOf m E) 4841369599423283200 == some .lt) = false := (lt52 hf).trans (by simp; omega)
  obtain ⟨a0, ha0⟩ : ∃ a, a = wordOf m E := ⟨_, rfl⟩
  rw [← ha0] at hlt ⊢
  have HA0 : Hid _ := ha0
  clear ha0 hf
  go_enter Tryd.func9, Tryd.ntmps9
  go_wp2_with fail
  go_loop [0, 4, 5] (fun av pv iv => av = .float .f64 a0 ∧ pv = .int .i64 0 ∧ iv = .int .i64 0) (fun _ _ _ => 0)
  case atStart => exact ⟨rfl, rfl, rfl⟩
  case round =>
  obtain ⟨rfl, rfl, rfl⟩ := hrel
  go_wp2_with fail
  go_loop [0, 4, 6] (fun av pv iv => ∃ i : Nat, iv = .int .i64 i ∧ pv = .int .i64 i ∧ (i : Int) ≤ E ∧ av = .float .f64 (wordOf m (E - i))) (fun _ _ iv => 1300 - (intOf iv).toNat)
  case atStart => exact ⟨0, rfl, rfl, by omega, by rw [HA0.out, show E - ((0 : Nat) : Int) = E by omega]⟩
  case round =>
    obtain ⟨i, rfl, rfl, hi, rfl⟩ := hrel
    have hf1 := HK.out i hi
    have hge : (FloatKind.f64.format.order (wordOf m (E - i)) 4845873199050653696 == some .gt || FloatKind.f64.format.order (wordOf m (E - i)) 4845873199050653696 == some .eq) = decide (1 ≤ E - i) := ge53 hf1
    have x1 : (i : Int) < 1100 := by omega
    have x2 : decide ((i : Int) < 1100) = true := by simp; omega
    by_cases hlast : 1 ≤ E - (i : Int)
    · obtain ⟨_, hdiv⟩ := half hf1 hn (by omega)
      have hrun : ∀ W, (binOp .quo 22 (.float .f64 (wordOf m (E - i))) (.float .f64 4611686018427387904)).run Tryd.prog W = .ok (.float .f64 (wordOf m (E - i - 1))) W := fun W => run_float_arith W .quo 22 .f64 _ _ _ hdiv
      rw [decide_eq_true hlast] at hge
      have HW : Hid (wordOf m (E - i - 1) = wordOf m (E - ((i + 1 : Nat) : Int))) := by rw [Hid]; congr 1; omega
      clear hdiv hf1
      generalize wordOf m (E - i) = a1 at *
      generalize wordOf m (E - i - 1) = a2 at *
      go_wp2_with fail
      go_round
      case rel => exact ⟨i + 1, by go_num, by go_num, by omega, by rw [HW.out]⟩
      case measure => simp [intOf]; omega
    · have hEi : E = (i : Int) := by omega
      rw [decide_eq_false hlast] at hge
      have h0 : E - (i : Int) = 0 := by omega
      rw [h0] at hf1 hge ⊢
      have hcv : ∀ W, (convert 22 28 (.float .f64 (wordOf m 0))).run Tryd.prog W = .ok (.int .u64 (m : Int)) W := fun W => run_whole hf1 W (by rw [Tryd.underlying22]; rfl) Tryd.underlying28
      have HEI : Hid _ := hEi
      have z1 : ¬ (i : Int) < -1074 := by omega
      have z2 : decide ((i : Int) < -1074) = false := decide_eq_false (by omega)
      clear hf1 hlast h0 hEi HA0
      generalize wordOf m 0 = a1 at *
      go_wp2_with fail
      go_loop [4, 7, 8] (fun pv mv jv => pv = .int .i64 (i : Int) ∧ mv = .int .u64 (m : Int) ∧ jv = .int .i64 0) (fun _ _ _ => 0)
      case atStart => exact ⟨rfl, rfl, rfl⟩
      case round =>
      obtain ⟨rfl, rfl, rfl⟩ := hrel
      go_wp2_with fail
      go_ret2
      exact ⟨ret_pair rfl HEI.out.symm, rfl⟩

theorem split_any (m : Nat) (E : Int) (w : World) (hf : IsFloat m E) :
    Calls Tryd.prog 9 #[.float .f64 (wordOf m E)] w fun e w' => e = .returned (.tuple #[.int .u64 m, .int .i64 E]) ∧ w' = w := by
  by_cases h : E < 0
  · exact split_neg m E w hf h
  · exact split_pos m E w hf (by omega)
end Go.Proofs.Qxb6615058aDoor
