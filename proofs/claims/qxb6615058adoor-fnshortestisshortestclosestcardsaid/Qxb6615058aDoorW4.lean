/-
  Walk: shortFloat[float64] (41) at subnormal numbers.
-/
import Derived.Test.Qxb6615058aDoorW3
namespace Go.Proofs.Qxb6615058aDoor
open Go.RowKit

set_option maxRecDepth 100000 in
set_option maxHeartbeats 2000000 in
theorem short_sub_q (m k : Nat) (E ee : Int) (w : World) (hf : IsFloat m E) (hn : m < 4503599627370496) (hk1 : 12 ≤ k) (hk2 : k ≤ 63) (hee : ee = E - k) (hb1 : 9223372036854775808 ≤ m * 2 ^ k) (hb2 : m * 2 ^ k + 2 ^ k ≤ 18446744073709551616) (x0 : (((m * 2 ^ k : Nat) : Int) == 9223372036854775808) = false) (ht : Pow10At w) :
    Calls Tryd.prog 41 #[.int .u64 (m * 2 ^ k : Nat), .int .i64 ee] w fun e w' => e = .returned (.tuple #[.int .u64 ((shortN m E).1 : Nat), .int .i64 (shortN m E).2]) ∧ Below w.heap.size w w' := by
  have h1 := hf.lt
  have h2 := hf.lo
  have h3 := hf.hi
  have hE : E = -1074 := by have := hf.norm; omega
  have hedge : edge m E = false := by unfold edge; simp; omega
  have hp : pOf m E = -log10Pow2 E := by unfold pOf; rw [hedge]; rfl
  have hpr := pOf_range hf
  rw [hp] at hpr
  obtain ⟨i, hi⟩ : ∃ i : Nat, (i : Int) = -log10Pow2 E + 348 := ⟨(-log10Pow2 E + 348).toNat, by omega⟩
  obtain ⟨o, ho1⟩ : ∃ o : Nat, o = m % 2 := ⟨_, rfl⟩
  obtain ⟨T, hT⟩ : ∃ T, T = 2 ^ (k - 2) := ⟨_, rfl⟩
  have hkk : 2 ^ k = 4 * T := by rw [hT, show (4 : Nat) = 2 ^ 2 from rfl, ← Nat.pow_add]; congr 1; omega
  have hkh : 2 ^ (k - 1) = 2 * T := by rw [hT, show 2 * 2 ^ (k - 2) = 2 ^ (k - 2) * 2 ^ 1 by omega, ← Nat.pow_add]; congr 1; omega
  have hT2 : 512 ≤ T := by rw [hT]; exact (show 2 ^ 9 ≤ 2 ^ (k - 2) from Nat.pow_le_pow_right (by decide) (by omega))
  have hXT : m * 2 ^ k = 4 * m * T := by rw [hkk, ← Nat.mul_assoc, Nat.mul_comm m 4]
  have hdiv : m * 2 ^ k / 2 ^ k = m := Nat.mul_div_cancel _ (Nat.two_pow_pos k)
  have hmpos := hf.pos
  have hlo : -100000 ≤ log10Pow2 E ∧ log10Pow2 E ≤ 100000 := by omega
  have hsh := (shifts E h2 h3).1
  have hl10 : log2Pow10 (-log10Pow2 E) = 1076 := by rw [hE]; decide
  obtain ⟨s, hs⟩ : ∃ s : Nat, (s : Int) = -(ee + log2Pow10 (-log10Pow2 E) + 3) := ⟨(-(ee + log2Pow10 (-log10Pow2 E) + 3)).toNat, by omega⟩
  have hs64 : s < 64 := by omega
  have hle : -100000 ≤ log2Pow10 (-log10Pow2 E) ∧ log2Pow10 (-log10Pow2 E) ≤ 100000 := by omega
  have hbig := tabH_big (-log10Pow2 E) hpr.1 hpr.2
  obtain ⟨t1, t2, _⟩ := tab (-log10Pow2 E) hpr.1 hpr.2
  have us : ∀ y, 0 < y → y < 36028797018963968 → y * T < 18446744073709551616 → uscaleN (y * T) (tabH (-log10Pow2 E)) (tabL (-log10Pow2 E)) s = uAt m E y := fun y hy hN hyT => by
    have h := uscale_at hf y (k - 2) s hy hN (by rw [← hT]; exact hyT) (by omega) (by omega) (by rw [hp]; omega)
    rw [hp, ← hT] at h
    exact h
  rw [hXT] at x0 hb1 hb2 hdiv ⊢
  rw [hkk] at hb2 hdiv
  have um1 : uscaleN (4 * m * T - 2 * T) (tabH (-log10Pow2 E)) (tabL (-log10Pow2 E)) s = uAt m E (yLo m E) := by
    have e : yLo m E = 4 * m - 2 := by unfold yLo; rw [hedge]; rfl
    rw [e, ← us (4 * m - 2) (by omega) (by omega) (by rw [Nat.sub_mul]; omega), Nat.sub_mul]
  have um2 : uscaleN (4 * m * T + 2 * T) (tabH (-log10Pow2 E)) (tabL (-log10Pow2 E)) s = uAt m E (yHi m) := by
    have e : yHi m = 4 * m + 2 := rfl
    rw [e, ← us (4 * m + 2) (by omega) (by omega) (by rw [Nat.add_mul]; omega), Nat.add_mul]
  have um3 : uscaleN (4 * m * T) (tabH (-log10Pow2 E)) (tabL (-log10Pow2 E)) s = uAt m E (4 * m) := us (4 * m) (by omega) (by omega) (by omega)
  have hTX : 2 * T + 2 ≤ 4 * m * T := by
    have := Nat.mul_le_mul_right T (show 4 ≤ 4 * m by omega)
    omega
  have ul1 : uAt m E (yLo m E) < 9223372036854775808 := uAt_lt hf _ (by unfold yLo; split <;> omega)
  have hul4 : uAt m E (yLo m E) + 1 < 9223372036854775808 := uAt_lt1 hf _ (by unfold yLo; split <;> omega)
  have ul2 : uAt m E (yHi m) < 9223372036854775808 := uAt_lt hf _ (by unfold yHi; omega)
  have ul3 : uAt m E (4 * m) < 9223372036854775808 := uAt_lt hf _ (by omega)
  have HD : Hid (dMin m E = (uAt m E (yLo m E) + o + 3) / 4 ∧ dMax m E = (uAt m E (yHi m) - o) / 4) := by rw [ho1]; exact ⟨rfl, rfl⟩
  have ho : o ≤ 1 := by omega
  have ho2 := ho1
  clear ho1
  clear us
  obtain ⟨X, hX⟩ : ∃ X, X = 4 * m * T := ⟨_, rfl⟩
  rw [← hX] at x0 hb1 hb2 hdiv um1 um2 um3 hTX ⊢
  have lX : X < 18446744073709551616 := by omega
  have x6 : (X : Int) / 2 ^ k = (m : Int) := by rw [shr_nat, hkk, hdiv]
  have x8 : ((2 : Nat) ^ (k - 1) : Nat) = 2 * T := hkh
  obtain ⟨H, hH⟩ : ∃ H, H = 2 * T := ⟨_, rfl⟩
  rw [← hH] at um1 um2 hTX x8
  have hHl : H < 9223372036854775808 := by omega
  have x9 : (2 : Int) ^ (k - 1) = (H : Int) := by rw [← x8]; exact (Int.natCast_pow 2 (k - 1)).symm
  have x4 : IntKind.u64.wrap ((X : Int) - (H : Int)) = ((X - H : Nat) : Int) := by rw [IntKind.wrap_u64]; omega
  have x5 : IntKind.u64.wrap ((X : Int) + (H : Int)) = ((X + H : Nat) : Int) := by rw [IntKind.wrap_u64]; omega
  have x7 : bits BinOp.and IntKind.i64 (m : Int) 1 = (o : Int) := by rw [i64_and1 m h1, ho2]
  have p1 : 18446744073709551616 ≤ (X - H) * tabH (-log10Pow2 E) := Nat.le_trans (by decide : 18446744073709551616 ≤ 2 * 9223372036854775808) (Nat.mul_le_mul (by omega) hbig)
  have p2 : 18446744073709551616 ≤ (X + H) * tabH (-log10Pow2 E) := Nat.le_trans (by decide : 18446744073709551616 ≤ 2 * 9223372036854775808) (Nat.mul_le_mul (by omega) hbig)
  have p3 : 18446744073709551616 ≤ X * tabH (-log10Pow2 E) := Nat.le_trans (by decide : 18446744073709551616 ≤ 2 * 9223372036854775808) (Nat.mul_le_mul (by omega) hbig)
  have lA : X - H < 18446744073709551616 := by omega
  have lB : X + H < 18446744073709551616 := by omega
  have x1 : ee < -1085 := by omega
  have x1' : decide (ee > -1085) = false := by simp; omega
  have x1'' : ¬ ee > -1085 := by omega
  have x2 : ¬ (-1085 : Int) ≤ ee := by omega
  have x2' : decide (ee ≥ -1085) = false := by simp; omega
  have x3 : 11 + (-1085 - ee) = (k : Int) := by omega
  have x3' : ee + (k : Int) = E := by omega
  have he1 : -100000 ≤ ee ∧ ee ≤ 100000 := by omega
  have hkr : 12 ≤ k ∧ k ≤ 63 := ⟨hk1, hk2⟩
  have HS0 : Hid _ := hs
  clear hX ho2 hH hT hkk hkh hT2 hE hee hb1 hb2 hdiv hl10 hk1 hk2
  generalize hA : X - H = A at *
  generalize hB : X + H = B at *
  have HL : Hid (Calls Tryd.prog 36 #[.int .i64 E] w fun e w' => e = .returned (.int .i64 (log10Pow2 E)) ∧ w' = w) := log10Pow2_any E w (by omega) (by omega)
  have HA : Hid _ := hA
  have HB : Hid _ := hB
  clear hA hB
  go_enter Tryd.func41, Tryd.ntmps41
  go_wp2_with fail
  refine HL.out.mono ?_
  rintro e w1 ⟨rfl, rfl⟩
  have HSH : Hid (shortN m E = if dMin m E ≤ dMax m E / 10 * 10 then (dMax m E / 10, log10Pow2 E + 1) else (if dMin m E < dMax m E then roundN (uAt m E (4 * m)) else dMin m E, log10Pow2 E)) := by
    rw [Hid]
    unfold shortN
    rw [hp]
    congr 2
    · omega
    · omega
  generalize log10Pow2 E = lg at *
  obtain ⟨g0, g1⟩ := ht i (by omega)
  rw [show (i : Int) - 348 = -lg by omega] at g0 g1
  have h2lt : 2 < w1.heap.size := World.block_lt_of_cell? _ _ g0
  have HT2 : Hid (Calls Tryd.prog 47 #[.int .i64 (-lg)] (w1.alloc (.cells #[.int .u64 0, .int .u64 0, .int .i64 0] 75)) fun e w' => e = .returned (.int .i64 (log2Pow10 (-lg))) ∧ w' = (w1.alloc (.cells #[.int .u64 0, .int .u64 0, .int .i64 0] 75))) := log2Pow10_any (-lg) _ (by omega) (by omega)
  go_wp2_with fail
  refine HT2.out.mono ?_
  rintro e w2 ⟨rfl, rfl⟩
  go_wp2_with fail
  refine (prescale_new w1 i (tabH (-lg)) (tabL (-lg)) s ee (-lg) (log2Pow10 (-lg)) (by omega) (by omega) g0 g1 (by omega) (by omega) (by omega) (by omega) (by omega)).mono ?_
  rintro e w5 ⟨rfl, k0, k1, k2, hb5⟩
  have HB5 : Hid _ := hb5
  have HUS : Hid (∀ (W : World) (x : Nat), W.cell? ⟨w1.heap.size, 0, none⟩ = some (.int .u64 (tabH (-lg))) → W.cell? ⟨w1.heap.size, 1, none⟩ = some (.int .u64 (tabL (-lg))) → W.cell? ⟨w1.heap.size, 2, none⟩ = some (.int .i64 s) → x < 18446744073709551616 → 18446744073709551616 ≤ x * tabH (-lg) →
      Calls Tryd.prog 48 #[.int .u64 x, .pointer (some ⟨w1.heap.size, 0, none⟩)] W fun e w' => e = .returned (.int .u64 (uscaleN x (tabH (-lg)) (tabL (-lg)) s : Nat)) ∧ ∃ m, w' = W.drewN m) := fun W x a b c hx hpx => uscale_any w1.heap.size x _ _ s W hx t1 t2 hs64 hpx a b c
  have HU1 : Hid _ := um1
  have HU2 : Hid _ := um2
  have HU3 : Hid _ := um3
  have HSM : Hid (dMin m E ≤ dMax m E / 10 * 10 → shortN m E = (dMax m E / 10, lg + 1)) := fun h => by rw [HSH.out, if_pos h]
  have HSN : Hid (¬ dMin m E ≤ dMax m E / 10 * 10 → shortN m E = (if dMin m E < dMax m E then roundN (uAt m E (4 * m)) else dMin m E, lg)) := fun h => by rw [HSH.out, if_neg h]
  have HU4 : Hid (0 < uAt m E (yHi m) ∧ uAt m E (yLo m E) + 1 < 9223372036854775808) := ⟨uHi_pos, by have := hul4; omega⟩
  clear hb5 g0 g1 HT2 HL um1 um2 um3 hs64 hbig t1 t2 HSH hf hsh
  generalize uAt m E (yLo m E) = u1 at *
  generalize uAt m E (yHi m) = u2 at *
  generalize uAt m E (4 * m) = u3 at *
  generalize dMin m E = dn at *
  generalize dMax m E = dx at *

  have hU4 := HU4.out
  obtain ⟨v1, hv1⟩ : ∃ v1 : Nat, v1 = u1 + o := ⟨_, rfl⟩
  obtain ⟨v2, hv2⟩ : ∃ v2 : Nat, v2 = u2 - o := ⟨_, rfl⟩
  have HN1 : Hid ((u1 : Int) + (o : Int) = (v1 : Int)) := by rw [Hid]; omega
  have HN2 : Hid ((u2 : Int) + -(o : Int) = (v2 : Int)) := by rw [Hid]; omega
  have HN3 : Hid (0 ≤ (u2 : Int) + -(o : Int)) := by rw [Hid]; omega
  have n3 : v2 < 9223372036854775808 := by omega
  have n5 : dx < 9223372036854775808 := by have := HD.out; omega
  have n6 : dn < 9223372036854775808 := by have := HD.out; omega
  have n4 : v1 < 9223372036854775808 := by omega
  have HDN : Hid (dn = (v1 + 3) / 4) := by rw [hv1]; exact HD.out.1
  have HDX : Hid (dx = v2 / 4) := by rw [hv2]; exact HD.out.2
  clear HU4 hU4 HD hv1 hv2
  go_wp2_with fail
  refine (HUS.out w5 A k0 k1 k2 lA p1).mono ?_
  rintro e w6 ⟨rfl, m6, rfl⟩
  rw [HU1.out]
  have HB6 : Hid (Below w1.heap.size w1 (w5.drewN m6)) := ⟨HB5.out.os, HB5.out.tape, HB5.out.output, HB5.out.size, HB5.out.block⟩
  have k0' : (w5.drewN m6).cell? ⟨w1.heap.size, 0, none⟩ = some (.int .u64 (tabH (-lg))) := k0
  have k1' : (w5.drewN m6).cell? ⟨w1.heap.size, 1, none⟩ = some (.int .u64 (tabL (-lg))) := k1
  have k2' : (w5.drewN m6).cell? ⟨w1.heap.size, 2, none⟩ = some (.int .i64 s) := k2
  clear k0 k1 k2 HB5 HU1
  generalize w5.drewN m6 = w6 at *
  go_wp2_with fail
  refine (nudge_any u1 o w6 (by omega) (by omega) (by omega) (by omega)).mono ?_
  rintro e w7 ⟨rfl, rfl⟩
  rw [HN1.out]
  go_wp2_with fail
  refine (ceil_any v1 w7 n4).mono ?_
  rintro e w8 ⟨rfl, rfl⟩
  rw [← HDN.out]
  go_wp2_with fail
  refine (HUS.out w8 B k0' k1' k2' lB p2).mono ?_
  rintro e w9 ⟨rfl, m9, rfl⟩
  rw [HU2.out]
  have HB9 : Hid (Below w1.heap.size w1 (w8.drewN m9)) := ⟨HB6.out.os, HB6.out.tape, HB6.out.output, HB6.out.size, HB6.out.block⟩
  have j0 : (w8.drewN m9).cell? ⟨w1.heap.size, 0, none⟩ = some (.int .u64 (tabH (-lg))) := k0'
  have j1 : (w8.drewN m9).cell? ⟨w1.heap.size, 1, none⟩ = some (.int .u64 (tabL (-lg))) := k1'
  have j2 : (w8.drewN m9).cell? ⟨w1.heap.size, 2, none⟩ = some (.int .i64 s) := k2'
  clear k0' k1' k2' HB6 HU2
  generalize w8.drewN m9 = w9 at *
  go_wp2_with fail
  refine (nudge_any u2 (-(o : Int)) w9 (by omega) (by omega) (by omega) HN3.out).mono ?_
  rintro e w10 ⟨rfl, rfl⟩
  rw [HN2.out]
  go_wp2_with fail
  refine (floor_any v2 w10 n3).mono ?_
  rintro e w11 ⟨rfl, rfl⟩
  rw [← HDX.out]
  obtain ⟨d1, hd1⟩ : ∃ d1 : Nat, d1 = dx / 10 := ⟨_, rfl⟩
  have y1 : (dx : Int) / 10 = (d1 : Int) := by omega
  have y2 : IntKind.u64.wrap ((d1 : Int) * 10) = ((d1 * 10 : Nat) : Int) := by rw [IntKind.wrap_u64]; omega
  have y3 : (10 : Int) ≠ 0 := by decide
  by_cases hc : dn ≤ d1 * 10
  · have hS := HSM.out (by rw [← hd1]; exact hc)
    rw [← hd1] at hS
    have HS : Hid _ := hS
    clear hS HSM HSN hd1
    have hc1 : ((d1 * 10 : Nat) : Int) ≥ (dn : Int) := by omega
    have y4 : IntKind.i64.wrap (-lg - 1) = -lg - 1 := by rw [IntKind.wrap_i64]; omega
    have y5 : IntKind.i64.wrap (-(-lg - 1)) = lg + 1 := by rw [IntKind.wrap_i64]; omega
    go_wp2_with fail
    go_ret2
    refine ⟨?_, HB9.out⟩
    rw [HS.out]
    first | exact ret_pair rfl rfl | exact ret_pair (b := -(-lg - 1)) rfl (by omega)
  · have hS := HSN.out (by rw [← hd1]; exact hc)
    have HS : Hid _ := hS
    clear hS HSM HSN hd1
    have hc1 : ¬ ((d1 * 10 : Nat) : Int) ≥ (dn : Int) := by omega
    have hc2 : decide (((d1 * 10 : Nat) : Int) ≥ (dn : Int)) = false := by simp; omega
    by_cases hl : dn < dx
    · have hl1 : (dn : Int) < (dx : Int) := by omega
      rw [if_pos hl] at HS
      go_wp2_with fail
      refine (HUS.out w11 X j0 j1 j2 lX p3).mono ?_
      rintro e w12 ⟨rfl, m12, rfl⟩
      rw [HU3.out]
      have HB12 : Hid (Below w1.heap.size w1 (w11.drewN m12)) := ⟨HB9.out.os, HB9.out.tape, HB9.out.output, HB9.out.size, HB9.out.block⟩
      clear HB9 HU3
      generalize w11.drewN m12 = w12 at *
      go_wp2_with fail
      refine (round_any u3 w12 ul3).mono ?_
      rintro e w13 ⟨rfl, rfl⟩
      go_wp2_with fail
      go_ret2
      refine ⟨?_, HB12.out⟩
      rw [HS.out]
      first | exact ret_pair rfl rfl | exact ret_pair (b := - -lg) rfl (by omega)
    · have hl1 : ¬ (dn : Int) < (dx : Int) := by omega
      have hl2 : decide ((dn : Int) < (dx : Int)) = false := by simp; omega
      rw [if_neg hl] at HS
      go_wp2_with fail
      go_ret2
      refine ⟨?_, HB9.out⟩
      rw [HS.out]
      first | exact ret_pair rfl rfl | exact ret_pair (b := - -lg) rfl (by omega)
set_option maxRecDepth 100000 in
set_option maxHeartbeats 2000000 in
theorem short_sub_p (m k : Nat) (E ee : Int) (w : World) (hf : IsFloat m E) (hn : m < 4503599627370496) (hk1 : 12 ≤ k) (hk2 : k ≤ 63) (hee : ee = E - k) (hb1 : 9223372036854775808 ≤ m * 2 ^ k) (hb2 : m * 2 ^ k + 2 ^ k ≤ 18446744073709551616) (x0 : (((m * 2 ^ k : Nat) : Int) == 9223372036854775808) = true) (ht : Pow10At w) :
    Calls Tryd.prog 41 #[.int .u64 (m * 2 ^ k : Nat), .int .i64 ee] w fun e w' => e = .returned (.tuple #[.int .u64 ((shortN m E).1 : Nat), .int .i64 (shortN m E).2]) ∧ Below w.heap.size w w' := by
  have h1 := hf.lt
  have h2 := hf.lo
  have h3 := hf.hi
  have hE : E = -1074 := by have := hf.norm; omega
  have hedge : edge m E = false := by unfold edge; simp; omega
  have hp : pOf m E = -log10Pow2 E := by unfold pOf; rw [hedge]; rfl
  have hpr := pOf_range hf
  rw [hp] at hpr
  obtain ⟨i, hi⟩ : ∃ i : Nat, (i : Int) = -log10Pow2 E + 348 := ⟨(-log10Pow2 E + 348).toNat, by omega⟩
  obtain ⟨o, ho1⟩ : ∃ o : Nat, o = m % 2 := ⟨_, rfl⟩
  obtain ⟨T, hT⟩ : ∃ T, T = 2 ^ (k - 2) := ⟨_, rfl⟩
  have hkk : 2 ^ k = 4 * T := by rw [hT, show (4 : Nat) = 2 ^ 2 from rfl, ← Nat.pow_add]; congr 1; omega
  have hkh : 2 ^ (k - 1) = 2 * T := by rw [hT, show 2 * 2 ^ (k - 2) = 2 ^ (k - 2) * 2 ^ 1 by omega, ← Nat.pow_add]; congr 1; omega
  have hT2 : 512 ≤ T := by rw [hT]; exact (show 2 ^ 9 ≤ 2 ^ (k - 2) from Nat.pow_le_pow_right (by decide) (by omega))
  have hXT : m * 2 ^ k = 4 * m * T := by rw [hkk, ← Nat.mul_assoc, Nat.mul_comm m 4]
  have hdiv : m * 2 ^ k / 2 ^ k = m := Nat.mul_div_cancel _ (Nat.two_pow_pos k)
  have hmpos := hf.pos
  have hlo : -100000 ≤ log10Pow2 E ∧ log10Pow2 E ≤ 100000 := by omega
  have hsh := (shifts E h2 h3).1
  have hl10 : log2Pow10 (-log10Pow2 E) = 1076 := by rw [hE]; decide
  obtain ⟨s, hs⟩ : ∃ s : Nat, (s : Int) = -(ee + log2Pow10 (-log10Pow2 E) + 3) := ⟨(-(ee + log2Pow10 (-log10Pow2 E) + 3)).toNat, by omega⟩
  have hs64 : s < 64 := by omega
  have hle : -100000 ≤ log2Pow10 (-log10Pow2 E) ∧ log2Pow10 (-log10Pow2 E) ≤ 100000 := by omega
  have hbig := tabH_big (-log10Pow2 E) hpr.1 hpr.2
  obtain ⟨t1, t2, _⟩ := tab (-log10Pow2 E) hpr.1 hpr.2
  have us : ∀ y, 0 < y → y < 36028797018963968 → y * T < 18446744073709551616 → uscaleN (y * T) (tabH (-log10Pow2 E)) (tabL (-log10Pow2 E)) s = uAt m E y := fun y hy hN hyT => by
    have h := uscale_at hf y (k - 2) s hy hN (by rw [← hT]; exact hyT) (by omega) (by omega) (by rw [hp]; omega)
    rw [hp, ← hT] at h
    exact h
  rw [hXT] at x0 hb1 hb2 hdiv ⊢
  rw [hkk] at hb2 hdiv
  have um1 : uscaleN (4 * m * T - 2 * T) (tabH (-log10Pow2 E)) (tabL (-log10Pow2 E)) s = uAt m E (yLo m E) := by
    have e : yLo m E = 4 * m - 2 := by unfold yLo; rw [hedge]; rfl
    rw [e, ← us (4 * m - 2) (by omega) (by omega) (by rw [Nat.sub_mul]; omega), Nat.sub_mul]
  have um2 : uscaleN (4 * m * T + 2 * T) (tabH (-log10Pow2 E)) (tabL (-log10Pow2 E)) s = uAt m E (yHi m) := by
    have e : yHi m = 4 * m + 2 := rfl
    rw [e, ← us (4 * m + 2) (by omega) (by omega) (by rw [Nat.add_mul]; omega), Nat.add_mul]
  have um3 : uscaleN (4 * m * T) (tabH (-log10Pow2 E)) (tabL (-log10Pow2 E)) s = uAt m E (4 * m) := us (4 * m) (by omega) (by omega) (by omega)
  have hTX : 2 * T + 2 ≤ 4 * m * T := by
    have := Nat.mul_le_mul_right T (show 4 ≤ 4 * m by omega)
    omega
  have ul1 : uAt m E (yLo m E) < 9223372036854775808 := uAt_lt hf _ (by unfold yLo; split <;> omega)
  have hul4 : uAt m E (yLo m E) + 1 < 9223372036854775808 := uAt_lt1 hf _ (by unfold yLo; split <;> omega)
  have ul2 : uAt m E (yHi m) < 9223372036854775808 := uAt_lt hf _ (by unfold yHi; omega)
  have ul3 : uAt m E (4 * m) < 9223372036854775808 := uAt_lt hf _ (by omega)
  have HD : Hid (dMin m E = (uAt m E (yLo m E) + o + 3) / 4 ∧ dMax m E = (uAt m E (yHi m) - o) / 4) := by rw [ho1]; exact ⟨rfl, rfl⟩
  have ho : o ≤ 1 := by omega
  have ho2 := ho1
  clear ho1
  clear us
  obtain ⟨X, hX⟩ : ∃ X, X = 4 * m * T := ⟨_, rfl⟩
  rw [← hX] at x0 hb1 hb2 hdiv um1 um2 um3 hTX ⊢
  have lX : X < 18446744073709551616 := by omega
  have x6 : (X : Int) / 2 ^ k = (m : Int) := by rw [shr_nat, hkk, hdiv]
  have x8 : ((2 : Nat) ^ (k - 1) : Nat) = 2 * T := hkh
  obtain ⟨H, hH⟩ : ∃ H, H = 2 * T := ⟨_, rfl⟩
  rw [← hH] at um1 um2 hTX x8
  have hHl : H < 9223372036854775808 := by omega
  have x9 : (2 : Int) ^ (k - 1) = (H : Int) := by rw [← x8]; exact (Int.natCast_pow 2 (k - 1)).symm
  have x4 : IntKind.u64.wrap ((X : Int) - (H : Int)) = ((X - H : Nat) : Int) := by rw [IntKind.wrap_u64]; omega
  have x5 : IntKind.u64.wrap ((X : Int) + (H : Int)) = ((X + H : Nat) : Int) := by rw [IntKind.wrap_u64]; omega
  have x7 : bits BinOp.and IntKind.i64 (m : Int) 1 = (o : Int) := by rw [i64_and1 m h1, ho2]
  have p1 : 18446744073709551616 ≤ (X - H) * tabH (-log10Pow2 E) := Nat.le_trans (by decide : 18446744073709551616 ≤ 2 * 9223372036854775808) (Nat.mul_le_mul (by omega) hbig)
  have p2 : 18446744073709551616 ≤ (X + H) * tabH (-log10Pow2 E) := Nat.le_trans (by decide : 18446744073709551616 ≤ 2 * 9223372036854775808) (Nat.mul_le_mul (by omega) hbig)
  have p3 : 18446744073709551616 ≤ X * tabH (-log10Pow2 E) := Nat.le_trans (by decide : 18446744073709551616 ≤ 2 * 9223372036854775808) (Nat.mul_le_mul (by omega) hbig)
  have lA : X - H < 18446744073709551616 := by omega
  have lB : X + H < 18446744073709551616 := by omega
  have x1 : ee < -1085 := by omega
  have x1' : decide (ee > -1085) = false := by simp; omega
  have x1'' : ¬ ee > -1085 := by omega
  have x2 : ¬ (-1085 : Int) ≤ ee := by omega
  have x2' : decide (ee ≥ -1085) = false := by simp; omega
  have x3 : 11 + (-1085 - ee) = (k : Int) := by omega
  have x3' : ee + (k : Int) = E := by omega
  have he1 : -100000 ≤ ee ∧ ee ≤ 100000 := by omega
  have hkr : 12 ≤ k ∧ k ≤ 63 := ⟨hk1, hk2⟩
  have HS0 : Hid _ := hs
  clear hX ho2 hH hT hkk hkh hT2 hE hee hb1 hb2 hdiv hl10 hk1 hk2
  generalize hA : X - H = A at *
  generalize hB : X + H = B at *
  have HL : Hid (Calls Tryd.prog 36 #[.int .i64 E] w fun e w' => e = .returned (.int .i64 (log10Pow2 E)) ∧ w' = w) := log10Pow2_any E w (by omega) (by omega)
  have HA : Hid _ := hA
  have HB : Hid _ := hB
  clear hA hB
  go_enter Tryd.func41, Tryd.ntmps41
  go_wp2_with fail
  refine HL.out.mono ?_
  rintro e w1 ⟨rfl, rfl⟩
  have HSH : Hid (shortN m E = if dMin m E ≤ dMax m E / 10 * 10 then (dMax m E / 10, log10Pow2 E + 1) else (if dMin m E < dMax m E then roundN (uAt m E (4 * m)) else dMin m E, log10Pow2 E)) := by
    rw [Hid]
    unfold shortN
    rw [hp]
    congr 2
    · omega
    · omega
  generalize log10Pow2 E = lg at *
  obtain ⟨g0, g1⟩ := ht i (by omega)
  rw [show (i : Int) - 348 = -lg by omega] at g0 g1
  have h2lt : 2 < w1.heap.size := World.block_lt_of_cell? _ _ g0
  have HT2 : Hid (Calls Tryd.prog 47 #[.int .i64 (-lg)] (w1.alloc (.cells #[.int .u64 0, .int .u64 0, .int .i64 0] 75)) fun e w' => e = .returned (.int .i64 (log2Pow10 (-lg))) ∧ w' = (w1.alloc (.cells #[.int .u64 0, .int .u64 0, .int .i64 0] 75))) := log2Pow10_any (-lg) _ (by omega) (by omega)
  go_wp2_with fail
  refine HT2.out.mono ?_
  rintro e w2 ⟨rfl, rfl⟩
  go_wp2_with fail
  refine (prescale_new w1 i (tabH (-lg)) (tabL (-lg)) s ee (-lg) (log2Pow10 (-lg)) (by omega) (by omega) g0 g1 (by omega) (by omega) (by omega) (by omega) (by omega)).mono ?_
  rintro e w5 ⟨rfl, k0, k1, k2, hb5⟩
  have HB5 : Hid _ := hb5
  have HUS : Hid (∀ (W : World) (x : Nat), W.cell? ⟨w1.heap.size, 0, none⟩ = some (.int .u64 (tabH (-lg))) → W.cell? ⟨w1.heap.size, 1, none⟩ = some (.int .u64 (tabL (-lg))) → W.cell? ⟨w1.heap.size, 2, none⟩ = some (.int .i64 s) → x < 18446744073709551616 → 18446744073709551616 ≤ x * tabH (-lg) →
      Calls Tryd.prog 48 #[.int .u64 x, .pointer (some ⟨w1.heap.size, 0, none⟩)] W fun e w' => e = .returned (.int .u64 (uscaleN x (tabH (-lg)) (tabL (-lg)) s : Nat)) ∧ ∃ m, w' = W.drewN m) := fun W x a b c hx hpx => uscale_any w1.heap.size x _ _ s W hx t1 t2 hs64 hpx a b c
  have HU1 : Hid _ := um1
  have HU2 : Hid _ := um2
  have HU3 : Hid _ := um3
  have HSM : Hid (dMin m E ≤ dMax m E / 10 * 10 → shortN m E = (dMax m E / 10, lg + 1)) := fun h => by rw [HSH.out, if_pos h]
  have HSN : Hid (¬ dMin m E ≤ dMax m E / 10 * 10 → shortN m E = (if dMin m E < dMax m E then roundN (uAt m E (4 * m)) else dMin m E, lg)) := fun h => by rw [HSH.out, if_neg h]
  have HU4 : Hid (0 < uAt m E (yHi m) ∧ uAt m E (yLo m E) + 1 < 9223372036854775808) := ⟨uHi_pos, by have := hul4; omega⟩
  clear hb5 g0 g1 HT2 HL um1 um2 um3 hs64 hbig t1 t2 HSH hf hsh
  generalize uAt m E (yLo m E) = u1 at *
  generalize uAt m E (yHi m) = u2 at *
  generalize uAt m E (4 * m) = u3 at *
  generalize dMin m E = dn at *
  generalize dMax m E = dx at *

  have hU4 := HU4.out
  obtain ⟨v1, hv1⟩ : ∃ v1 : Nat, v1 = u1 + o := ⟨_, rfl⟩
  obtain ⟨v2, hv2⟩ : ∃ v2 : Nat, v2 = u2 - o := ⟨_, rfl⟩
  have HN1 : Hid ((u1 : Int) + (o : Int) = (v1 : Int)) := by rw [Hid]; omega
  have HN2 : Hid ((u2 : Int) + -(o : Int) = (v2 : Int)) := by rw [Hid]; omega
  have HN3 : Hid (0 ≤ (u2 : Int) + -(o : Int)) := by rw [Hid]; omega
  have n3 : v2 < 9223372036854775808 := by omega
  have n5 : dx < 9223372036854775808 := by have := HD.out; omega
  have n6 : dn < 9223372036854775808 := by have := HD.out; omega
  have n4 : v1 < 9223372036854775808 := by omega
  have HDN : Hid (dn = (v1 + 3) / 4) := by rw [hv1]; exact HD.out.1
  have HDX : Hid (dx = v2 / 4) := by rw [hv2]; exact HD.out.2
  clear HU4 hU4 HD hv1 hv2
  go_wp2_with fail
  refine (HUS.out w5 A k0 k1 k2 lA p1).mono ?_
  rintro e w6 ⟨rfl, m6, rfl⟩
  rw [HU1.out]
  have HB6 : Hid (Below w1.heap.size w1 (w5.drewN m6)) := ⟨HB5.out.os, HB5.out.tape, HB5.out.output, HB5.out.size, HB5.out.block⟩
  have k0' : (w5.drewN m6).cell? ⟨w1.heap.size, 0, none⟩ = some (.int .u64 (tabH (-lg))) := k0
  have k1' : (w5.drewN m6).cell? ⟨w1.heap.size, 1, none⟩ = some (.int .u64 (tabL (-lg))) := k1
  have k2' : (w5.drewN m6).cell? ⟨w1.heap.size, 2, none⟩ = some (.int .i64 s) := k2
  clear k0 k1 k2 HB5 HU1
  generalize w5.drewN m6 = w6 at *
  go_wp2_with fail
  refine (nudge_any u1 o w6 (by omega) (by omega) (by omega) (by omega)).mono ?_
  rintro e w7 ⟨rfl, rfl⟩
  rw [HN1.out]
  go_wp2_with fail
  refine (ceil_any v1 w7 n4).mono ?_
  rintro e w8 ⟨rfl, rfl⟩
  rw [← HDN.out]
  go_wp2_with fail
  refine (HUS.out w8 B k0' k1' k2' lB p2).mono ?_
  rintro e w9 ⟨rfl, m9, rfl⟩
  rw [HU2.out]
  have HB9 : Hid (Below w1.heap.size w1 (w8.drewN m9)) := ⟨HB6.out.os, HB6.out.tape, HB6.out.output, HB6.out.size, HB6.out.block⟩
  have j0 : (w8.drewN m9).cell? ⟨w1.heap.size, 0, none⟩ = some (.int .u64 (tabH (-lg))) := k0'
  have j1 : (w8.drewN m9).cell? ⟨w1.heap.size, 1, none⟩ = some (.int .u64 (tabL (-lg))) := k1'
  have j2 : (w8.drewN m9).cell? ⟨w1.heap.size, 2, none⟩ = some (.int .i64 s) := k2'
  clear k0' k1' k2' HB6 HU2
  generalize w8.drewN m9 = w9 at *
  go_wp2_with fail
  refine (nudge_any u2 (-(o : Int)) w9 (by omega) (by omega) (by omega) HN3.out).mono ?_
  rintro e w10 ⟨rfl, rfl⟩
  rw [HN2.out]
  go_wp2_with fail
  refine (floor_any v2 w10 n3).mono ?_
  rintro e w11 ⟨rfl, rfl⟩
  rw [← HDX.out]
  obtain ⟨d1, hd1⟩ : ∃ d1 : Nat, d1 = dx / 10 := ⟨_, rfl⟩
  have y1 : (dx : Int) / 10 = (d1 : Int) := by omega
  have y2 : IntKind.u64.wrap ((d1 : Int) * 10) = ((d1 * 10 : Nat) : Int) := by rw [IntKind.wrap_u64]; omega
  have y3 : (10 : Int) ≠ 0 := by decide
  by_cases hc : dn ≤ d1 * 10
  · have hS := HSM.out (by rw [← hd1]; exact hc)
    rw [← hd1] at hS
    have HS : Hid _ := hS
    clear hS HSM HSN hd1
    have hc1 : ((d1 * 10 : Nat) : Int) ≥ (dn : Int) := by omega
    have y4 : IntKind.i64.wrap (-lg - 1) = -lg - 1 := by rw [IntKind.wrap_i64]; omega
    have y5 : IntKind.i64.wrap (-(-lg - 1)) = lg + 1 := by rw [IntKind.wrap_i64]; omega
    go_wp2_with fail
    go_ret2
    refine ⟨?_, HB9.out⟩
    rw [HS.out]
    first | exact ret_pair rfl rfl | exact ret_pair (b := -(-lg - 1)) rfl (by omega)
  · have hS := HSN.out (by rw [← hd1]; exact hc)
    have HS : Hid _ := hS
    clear hS HSM HSN hd1
    have hc1 : ¬ ((d1 * 10 : Nat) : Int) ≥ (dn : Int) := by omega
    have hc2 : decide (((d1 * 10 : Nat) : Int) ≥ (dn : Int)) = false := by simp; omega
    by_cases hl : dn < dx
    · have hl1 : (dn : Int) < (dx : Int) := by omega
      rw [if_pos hl] at HS
      go_wp2_with fail
      refine (HUS.out w11 X j0 j1 j2 lX p3).mono ?_
      rintro e w12 ⟨rfl, m12, rfl⟩
      rw [HU3.out]
      have HB12 : Hid (Below w1.heap.size w1 (w11.drewN m12)) := ⟨HB9.out.os, HB9.out.tape, HB9.out.output, HB9.out.size, HB9.out.block⟩
      clear HB9 HU3
      generalize w11.drewN m12 = w12 at *
      go_wp2_with fail
      refine (round_any u3 w12 ul3).mono ?_
      rintro e w13 ⟨rfl, rfl⟩
      go_wp2_with fail
      go_ret2
      refine ⟨?_, HB12.out⟩
      rw [HS.out]
      first | exact ret_pair rfl rfl | exact ret_pair (b := - -lg) rfl (by omega)
    · have hl1 : ¬ (dn : Int) < (dx : Int) := by omega
      have hl2 : decide ((dn : Int) < (dx : Int)) = false := by simp; omega
      rw [if_neg hl] at HS
      go_wp2_with fail
      go_ret2
      refine ⟨?_, HB9.out⟩
      rw [HS.out]
      first | exact ret_pair rfl rfl | exact ret_pair (b := - -lg) rfl (by omega)
end Go.Proofs.Qxb6615058aDoor
