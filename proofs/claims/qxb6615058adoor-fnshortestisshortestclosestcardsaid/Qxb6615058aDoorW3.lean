/-
  Walk: shortFloat[float64] (41).
-/
import Derived.Test.Qxb6615058aDoorW2
import Derived.Test.Qxb6615058aDoorN10
namespace Go.Proofs.Qxb6615058aDoor
open Go.RowKit

/-- The table of powers of ten, in memory. -/
def Pow10At (w : World) : Prop := ∀ i : Nat, i < 696 → w.cell? ⟨2, i * 2, none⟩ = some (.int .u64 (tabH ((i : Int) - 348) : Nat)) ∧ w.cell? ⟨2, i * 2 + 1, none⟩ = some (.int .u64 (tabL ((i : Int) - 348) : Nat))

theorem Pow10At.below {w W : World} (h : Pow10At w) (hb : Below w.heap.size w W) : Pow10At W := fun i hi =>
  ⟨(hb.cell (World.block_lt_of_cell? _ _ (h i hi).1)).trans (h i hi).1, (hb.cell (World.block_lt_of_cell? _ _ (h i hi).2)).trans (h i hi).2⟩

/-- Behind prescale: the scaler in its block. -/
theorem scaler_at (w : World) (h l s : Nat) : ∃ W, W = ((((w.alloc (.cells #[.int .u64 0, .int .u64 0, .int .i64 0] 75)).setCell ⟨w.heap.size, 0, none⟩ (.int .u64 h)).setCell ⟨w.heap.size, 1, none⟩ (.int .u64 l)).setCell ⟨w.heap.size, 2, none⟩ (.int .i64 s)) ∧
    W.cell? ⟨w.heap.size, 0, none⟩ = some (.int .u64 h) ∧ W.cell? ⟨w.heap.size, 1, none⟩ = some (.int .u64 l) ∧ W.cell? ⟨w.heap.size, 2, none⟩ = some (.int .i64 s) ∧ Below w.heap.size w W := by
  refine ⟨_, rfl, by go_simp, by go_simp, by go_simp, ?_⟩
  exact (((((Below.refl _ w).alloc (Nat.le_refl _) _).setCell (p := ⟨w.heap.size, 0, none⟩) (Nat.le_refl _) _).setCell (p := ⟨w.heap.size, 1, none⟩) (Nat.le_refl _) _).setCell (p := ⟨w.heap.size, 2, none⟩) (Nat.le_refl _) _)

theorem prescale_new (w : World) (i h l s : Nat) (e p lp : Int) (hi : i < 696) (hp : p + 348 = (i : Int)) (g0 : w.cell? ⟨2, i * 2, none⟩ = some (.int .u64 h)) (g1 : w.cell? ⟨2, i * 2 + 1, none⟩ = some (.int .u64 l)) (he : -100000 ≤ e) (he2 : e ≤ 100000) (hl : -100000 ≤ lp) (hl2 : lp ≤ 100000) (hs : (s : Int) = -(e + lp + 3)) :
    Calls Tryd.prog 46 #[.pointer (some ⟨w.heap.size, 0, none⟩), .int .i64 e, .int .i64 p, .int .i64 lp] (w.alloc (.cells #[.int .u64 0, .int .u64 0, .int .i64 0] 75)) fun e w' => e = .returned (.tuple #[]) ∧
      w'.cell? ⟨w.heap.size, 0, none⟩ = some (.int .u64 h) ∧ w'.cell? ⟨w.heap.size, 1, none⟩ = some (.int .u64 l) ∧ w'.cell? ⟨w.heap.size, 2, none⟩ = some (.int .i64 s) ∧ Below w.heap.size w w' := by
  have h2lt : 2 < w.heap.size := World.block_lt_of_cell? _ _ g0
  have hb : Below w.heap.size w (w.alloc (.cells #[.int .u64 0, .int .u64 0, .int .i64 0] 75)) := (Below.refl _ w).alloc (Nat.le_refl _) _
  refine (prescale_any w.heap.size i h l s e p lp _ (by omega) hi hp ((hb.cell h2lt).trans g0) ((hb.cell h2lt).trans g1) (by go_simp) (by go_simp) (by go_simp) (by go_simp) (by go_simp) (by go_simp) he he2 hl hl2 hs).mono ?_
  rintro e w' ⟨rfl, rfl⟩
  obtain ⟨W, hW, a, b, c, d⟩ := scaler_at w h l s
  rw [← hW]
  exact ⟨rfl, a, b, c, d⟩

theorem ret_pair {a b c d : Int} (h : a = c) (h2 : b = d) : Ending.returned (.tuple #[.int .u64 a, .int .i64 b]) = .returned (.tuple #[.int .u64 c, .int .i64 d]) := by rw [h, h2]
theorem i64_and_nat (a b : Nat) (ha : a < 9223372036854775808) (hb : b < 9223372036854775808) : bits .and .i64 (a : Int) (b : Int) = ((a &&& b : Nat) : Int) := by
  have hx : a &&& b < 2 ^ 63 := Nat.and_lt_two_pow _ (by omega)
  show IntKind.i64.wrap ((BitVec.ofInt 64 (a : Int) &&& BitVec.ofInt 64 (b : Int)).toNat : Int) = _
  rw [BitVec.toNat_and, ofInt_u64 a (by omega), ofInt_u64 b (by omega), IntKind.wrap_i64]
  omega
theorem i64_and1 (n : Nat) (h : n < 9007199254740992) : bits BinOp.and IntKind.i64 (n : Int) 1 = ((n % 2 : Nat) : Int) := by
  have e := i64_and_nat n 1 (by omega) (by decide)
  rw [Nat.and_one_is_mod] at e
  exact e

theorem uHi_pos {m : Nat} {E : Int} : 0 < uAt m E (yHi m) := by
  have hD := fracD_pos E (pOf m E)
  have hN := fracN_pos E (pOf m E)
  have h0 := (lt_iff hD (Z := yHi m * fracN E (pOf m E)) (Nat.mul_pos (by unfold yHi; omega) hN) 0)
  exact (h0.1 (by rw [Nat.mul_zero]; exact Nat.mul_pos (by unfold yHi; omega) hN)).2

/-- An unrounded number is small. -/
theorem uAt_lt1 {m : Nat} {E : Int} (hf : IsFloat m E) (y : Nat) (hy : y ≤ 4 * m + 2) : uAt m E y + 1 < 9223372036854775808 := by
  have hD := fracD_pos E (pOf m E)
  obtain ⟨F, i, hu, h1, h2, hi, _⟩ := unround_parts (y * fracN E (pOf m E)) (fracD E (pOf m E)) hD
  unfold uAt
  rw [hu]
  have hN : fracN E (pOf m E) < 14 * fracD E (pOf m E) := by
    rcases wide hf with ⟨_, _, _, _, h⟩ | ⟨_, _, _, _, _, h⟩ <;> omega
  have hlt := hf.lt
  generalize fracN E (pOf m E) = N at *
  generalize fracD E (pOf m E) = D at *
  have h3 : y * N ≤ 36028797018963966 * (14 * D) := Nat.mul_le_mul (by omega) (by omega)
  have h4 : 2 * D * F ≤ 2 * D * (36028797018963966 * 7) := by
    have e : 2 * D * (36028797018963966 * 7) = 36028797018963966 * (14 * D) := by omega
    omega
  have h5 := Nat.le_of_mul_le_mul_left h4 (by omega)
  omega

set_option maxRecDepth 100000 in
set_option maxHeartbeats 2000000 in
theorem short_normal (m : Nat) (E : Int) (w : World) (hf : IsFloat m E) (hn : 4503599627370497 ≤ m) (ht : Pow10At w) :
    Calls Tryd.prog 41 #[.int .u64 (m * 2048 : Nat), .int .i64 (E - 11)] w fun e w' => e = .returned (.tuple #[.int .u64 ((shortN m E).1 : Nat), .int .i64 (shortN m E).2]) ∧ Below w.heap.size w w' := by
  have h1 := hf.lt
  have h2 := hf.lo
  have h3 := hf.hi
  have hedge : edge m E = false := by unfold edge; simp; omega
  have hp : pOf m E = -log10Pow2 E := by unfold pOf; rw [hedge]; rfl
  have hpr := pOf_range hf
  rw [hp] at hpr
  obtain ⟨i, hi⟩ : ∃ i : Nat, (i : Int) = -log10Pow2 E + 348 := ⟨(-log10Pow2 E + 348).toNat, by omega⟩
  obtain ⟨o, ho1⟩ : ∃ o : Nat, o = m % 2 := ⟨_, rfl⟩
  have x0 : (((m * 2048 : Nat) : Int) == 9223372036854775808) = false := by
    rw [beq_eq_false_iff_ne]; omega
  have x1 : ¬ E - 11 < -1085 := by omega
  have x2 : (-1085 : Int) ≤ E - 11 := by omega
  have x3 : IntKind.i64.wrap (E - 11 + 11) = E := by rw [IntKind.wrap_i64]; omega
  have x4 : IntKind.u64.wrap (((m * 2048 : Nat) : Int) - 1024) = ((m * 2048 - 1024 : Nat) : Int) := by rw [IntKind.wrap_u64]; omega
  have x5 : IntKind.u64.wrap (((m * 2048 : Nat) : Int) + 1024) = ((m * 2048 + 1024 : Nat) : Int) := by rw [IntKind.wrap_u64]; omega
  have x6 : ((m * 2048 : Nat) : Int) / 2048 = (m : Int) := by omega
  have x7 : bits BinOp.and IntKind.i64 (m : Int) 1 = (o : Int) := by rw [i64_and1 m h1, ho1]
  have hlo : -100000 ≤ log10Pow2 E ∧ log10Pow2 E ≤ 100000 := by omega
  have hsh := (shifts E h2 h3).1
  obtain ⟨s, hs⟩ : ∃ s : Nat, (s : Int) = -(E - 11 + log2Pow10 (-log10Pow2 E) + 3) := ⟨(-(E - 11 + log2Pow10 (-log10Pow2 E) + 3)).toNat, by omega⟩
  have hbig := tabH_big (-log10Pow2 E) hpr.1 hpr.2
  obtain ⟨t1, t2, _⟩ := tab (-log10Pow2 E) hpr.1 hpr.2
  -- the three products
  have us : ∀ y, 0 < y → y < 36028797018963968 → uscaleN (y * 512) (tabH (-log10Pow2 E)) (tabL (-log10Pow2 E)) s = uAt m E y := fun y hy hN => by
    have h := uscale_at hf y 9 s hy hN (by show y * 512 < _; omega) (by decide) (by decide) (by rw [hp]; omega)
    rw [hp] at h
    exact h
  have um1 : uscaleN (m * 2048 - 1024) (tabH (-log10Pow2 E)) (tabL (-log10Pow2 E)) s = uAt m E (yLo m E) := by
    have e : yLo m E = 4 * m - 2 := by unfold yLo; rw [hedge]; rfl
    rw [e, ← us (4 * m - 2) (by omega) (by omega)]
    congr 1
    omega
  have um2 : uscaleN (m * 2048 + 1024) (tabH (-log10Pow2 E)) (tabL (-log10Pow2 E)) s = uAt m E (yHi m) := by
    have e : yHi m = 4 * m + 2 := rfl
    rw [e, ← us (4 * m + 2) (by omega) (by omega)]
    congr 1
    omega
  have um3 : uscaleN (m * 2048) (tabH (-log10Pow2 E)) (tabL (-log10Pow2 E)) s = uAt m E (4 * m) := by
    rw [← us (4 * m) (by omega) (by omega)]
    congr 1
    omega
  have ul1 : uAt m E (yLo m E) < 9223372036854775808 := uAt_lt hf _ (by unfold yLo; split <;> omega)
  have hul4 : uAt m E (yLo m E) + 1 < 9223372036854775808 := uAt_lt1 hf _ (by unfold yLo; split <;> omega)
  have ul2 : uAt m E (yHi m) < 9223372036854775808 := uAt_lt hf _ (by unfold yHi; omega)
  have ul3 : uAt m E (4 * m) < 9223372036854775808 := uAt_lt hf _ (by omega)
  have HD : Hid (dMin m E = (uAt m E (yLo m E) + o + 3) / 4 ∧ dMax m E = (uAt m E (yHi m) - o) / 4) := by rw [ho1]; exact ⟨rfl, rfl⟩
  have ho : o ≤ 1 := by omega
  clear ho1
  clear us
  obtain ⟨X, hX⟩ : ∃ X, X = m * 2048 := ⟨_, rfl⟩
  rw [← hX] at x0 x4 x5 x6 um1 um2 um3 ⊢
  have p1 : 18446744073709551616 ≤ (X - 1024) * tabH (-log10Pow2 E) := Nat.le_trans (by decide : 18446744073709551616 ≤ 2 * 9223372036854775808) (Nat.mul_le_mul (by omega) hbig)
  have p2 : 18446744073709551616 ≤ (X + 1024) * tabH (-log10Pow2 E) := Nat.le_trans (by decide : 18446744073709551616 ≤ 2 * 9223372036854775808) (Nat.mul_le_mul (by omega) hbig)
  have p3 : 18446744073709551616 ≤ X * tabH (-log10Pow2 E) := Nat.le_trans (by decide : 18446744073709551616 ≤ 2 * 9223372036854775808) (Nat.mul_le_mul (by omega) hbig)
  have lX : X < 18446744073709551616 := by omega
  have lA : X - 1024 < 18446744073709551616 := by omega
  have lB : X + 1024 < 18446744073709551616 := by omega
  generalize hA : X - 1024 = A at *
  generalize hB : X + 1024 = B at *
  have HL : Hid (Calls Tryd.prog 36 #[.int .i64 E] w fun e w' => e = .returned (.int .i64 (log10Pow2 E)) ∧ w' = w) := log10Pow2_any E w (by omega) (by omega)
  have HX : Hid _ := hX
  have HA : Hid _ := hA
  have HB : Hid _ := hB
  clear hX hA hB
  go_enter Tryd.func41, Tryd.ntmps41
  go_wp2_with fail
  refine HL.out.mono ?_
  rintro e w1 ⟨rfl, rfl⟩
  have HSH : Hid (shortN m E = if dMin m E ≤ dMax m E / 10 * 10 then (dMax m E / 10, log10Pow2 E + 1) else (if dMin m E < dMax m E then roundN (uAt m E (4 * m)) else dMin m E, log10Pow2 E)) := by
    rw [Hid]
    unfold shortN
    rw [hp]
    congr 2
    · omega
    · omega
  generalize log10Pow2 E = lg at *
  obtain ⟨g0, g1⟩ := ht i (by omega)
  rw [show (i : Int) - 348 = -lg by omega] at g0 g1
  have h2lt : 2 < w1.heap.size := World.block_lt_of_cell? _ _ g0
  have HT2 : Hid (Calls Tryd.prog 47 #[.int .i64 (-lg)] (w1.alloc (.cells #[.int .u64 0, .int .u64 0, .int .i64 0] 75)) fun e w' => e = .returned (.int .i64 (log2Pow10 (-lg))) ∧ w' = (w1.alloc (.cells #[.int .u64 0, .int .u64 0, .int .i64 0] 75))) := log2Pow10_any (-lg) _ (by omega) (by omega)
  go_wp2_with fail
  refine HT2.out.mono ?_
  rintro e w2 ⟨rfl, rfl⟩
  go_wp2_with fail
  refine (prescale_new w1 i (tabH (-lg)) (tabL (-lg)) s (E - 11) (-lg) (log2Pow10 (-lg)) (by omega) (by omega) g0 g1 (by omega) (by omega) (by omega) (by omega) (by omega)).mono ?_
  rintro e w5 ⟨rfl, k0, k1, k2, hb5⟩
  have HB5 : Hid _ := hb5
  have hs64 : s < 64 := by omega
  have HUS : Hid (∀ (W : World) (x : Nat), W.cell? ⟨w1.heap.size, 0, none⟩ = some (.int .u64 (tabH (-lg))) → W.cell? ⟨w1.heap.size, 1, none⟩ = some (.int .u64 (tabL (-lg))) → W.cell? ⟨w1.heap.size, 2, none⟩ = some (.int .i64 s) → x < 18446744073709551616 → 18446744073709551616 ≤ x * tabH (-lg) →
      Calls Tryd.prog 48 #[.int .u64 x, .pointer (some ⟨w1.heap.size, 0, none⟩)] W fun e w' => e = .returned (.int .u64 (uscaleN x (tabH (-lg)) (tabL (-lg)) s : Nat)) ∧ ∃ m, w' = W.drewN m) := fun W x a b c hx hpx => uscale_any w1.heap.size x _ _ s W hx t1 t2 hs64 hpx a b c
  have HU1 : Hid _ := um1
  have HU2 : Hid _ := um2
  have HU3 : Hid _ := um3
  have HSM : Hid (dMin m E ≤ dMax m E / 10 * 10 → shortN m E = (dMax m E / 10, lg + 1)) := fun h => by rw [HSH.out, if_pos h]
  have HSN : Hid (¬ dMin m E ≤ dMax m E / 10 * 10 → shortN m E = (if dMin m E < dMax m E then roundN (uAt m E (4 * m)) else dMin m E, lg)) := fun h => by rw [HSH.out, if_neg h]
  have HU4 : Hid (0 < uAt m E (yHi m) ∧ uAt m E (yLo m E) + 1 < 9223372036854775808) := ⟨uHi_pos, by have := hul4; omega⟩
  clear hb5 g0 g1 HT2 HL um1 um2 um3 hs64 hbig t1 t2 HSH hf hsh
  generalize uAt m E (yLo m E) = u1 at *
  generalize uAt m E (yHi m) = u2 at *
  generalize uAt m E (4 * m) = u3 at *
  generalize dMin m E = dn at *
  generalize dMax m E = dx at *

  have hU4 := HU4.out
  obtain ⟨v1, hv1⟩ : ∃ v1 : Nat, v1 = u1 + o := ⟨_, rfl⟩
  obtain ⟨v2, hv2⟩ : ∃ v2 : Nat, v2 = u2 - o := ⟨_, rfl⟩
  have HN1 : Hid ((u1 : Int) + (o : Int) = (v1 : Int)) := by rw [Hid]; omega
  have HN2 : Hid ((u2 : Int) + -(o : Int) = (v2 : Int)) := by rw [Hid]; omega
  have HN3 : Hid (0 ≤ (u2 : Int) + -(o : Int)) := by rw [Hid]; omega
  have n3 : v2 < 9223372036854775808 := by omega
  have n5 : dx < 9223372036854775808 := by have := HD.out; omega
  have n6 : dn < 9223372036854775808 := by have := HD.out; omega
  have n4 : v1 < 9223372036854775808 := by omega
  have HDN : Hid (dn = (v1 + 3) / 4) := by rw [hv1]; exact HD.out.1
  have HDX : Hid (dx = v2 / 4) := by rw [hv2]; exact HD.out.2
  clear HU4 hU4 HD hv1 hv2
  go_wp2_with fail
  refine (HUS.out w5 A k0 k1 k2 lA p1).mono ?_
  rintro e w6 ⟨rfl, m6, rfl⟩
  rw [HU1.out]
  have HB6 : Hid (Below w1.heap.size w1 (w5.drewN m6)) := ⟨HB5.out.os, HB5.out.tape, HB5.out.output, HB5.out.size, HB5.out.block⟩
  have k0' : (w5.drewN m6).cell? ⟨w1.heap.size, 0, none⟩ = some (.int .u64 (tabH (-lg))) := k0
  have k1' : (w5.drewN m6).cell? ⟨w1.heap.size, 1, none⟩ = some (.int .u64 (tabL (-lg))) := k1
  have k2' : (w5.drewN m6).cell? ⟨w1.heap.size, 2, none⟩ = some (.int .i64 s) := k2
  clear k0 k1 k2 HB5 HU1
  generalize w5.drewN m6 = w6 at *
  go_wp2_with fail
  refine (nudge_any u1 o w6 (by omega) (by omega) (by omega) (by omega)).mono ?_
  rintro e w7 ⟨rfl, rfl⟩
  rw [HN1.out]
  go_wp2_with fail
  refine (ceil_any v1 w7 n4).mono ?_
  rintro e w8 ⟨rfl, rfl⟩
  rw [← HDN.out]
  go_wp2_with fail
  refine (HUS.out w8 B k0' k1' k2' lB p2).mono ?_
  rintro e w9 ⟨rfl, m9, rfl⟩
  rw [HU2.out]
  have HB9 : Hid (Below w1.heap.size w1 (w8.drewN m9)) := ⟨HB6.out.os, HB6.out.tape, HB6.out.output, HB6.out.size, HB6.out.block⟩
  have j0 : (w8.drewN m9).cell? ⟨w1.heap.size, 0, none⟩ = some (.int .u64 (tabH (-lg))) := k0'
  have j1 : (w8.drewN m9).cell? ⟨w1.heap.size, 1, none⟩ = some (.int .u64 (tabL (-lg))) := k1'
  have j2 : (w8.drewN m9).cell? ⟨w1.heap.size, 2, none⟩ = some (.int .i64 s) := k2'
  clear k0' k1' k2' HB6 HU2
  generalize w8.drewN m9 = w9 at *
  go_wp2_with fail
  refine (nudge_any u2 (-(o : Int)) w9 (by omega) (by omega) (by omega) HN3.out).mono ?_
  rintro e w10 ⟨rfl, rfl⟩
  rw [HN2.out]
  go_wp2_with fail
  refine (floor_any v2 w10 n3).mono ?_
  rintro e w11 ⟨rfl, rfl⟩
  rw [← HDX.out]
  obtain ⟨d1, hd1⟩ : ∃ d1 : Nat, d1 = dx / 10 := ⟨_, rfl⟩
  have y1 : (dx : Int) / 10 = (d1 : Int) := by omega
  have y2 : IntKind.u64.wrap ((d1 : Int) * 10) = ((d1 * 10 : Nat) : Int) := by rw [IntKind.wrap_u64]; omega
  have y3 : (10 : Int) ≠ 0 := by decide
  by_cases hc : dn ≤ d1 * 10
  · have hS := HSM.out (by rw [← hd1]; exact hc)
    rw [← hd1] at hS
    have HS : Hid _ := hS
    clear hS HSM HSN hd1
    have hc1 : ((d1 * 10 : Nat) : Int) ≥ (dn : Int) := by omega
    have y4 : IntKind.i64.wrap (-lg - 1) = -lg - 1 := by rw [IntKind.wrap_i64]; omega
    have y5 : IntKind.i64.wrap (-(-lg - 1)) = lg + 1 := by rw [IntKind.wrap_i64]; omega
    go_wp2_with fail
    go_ret2
    refine ⟨?_, HB9.out⟩
    rw [HS.out]
    first | exact ret_pair rfl rfl | exact ret_pair (b := -(-lg - 1)) rfl (by omega)
  · have hS := HSN.out (by rw [← hd1]; exact hc)
    have HS : Hid _ := hS
    clear hS HSM HSN hd1
    have hc1 : ¬ ((d1 * 10 : Nat) : Int) ≥ (dn : Int) := by omega
    have hc2 : decide (((d1 * 10 : Nat) : Int) ≥ (dn : Int)) = false := by simp; omega
    by_cases hl : dn < dx
    · have hl1 : (dn : Int) < (dx : Int) := by omega
      rw [if_pos hl] at HS
      go_wp2_with fail
      refine (HUS.out w11 X j0 j1 j2 lX p3).mono ?_
      rintro e w12 ⟨rfl, m12, rfl⟩
      rw [HU3.out]
      have HB12 : Hid (Below w1.heap.size w1 (w11.drewN m12)) := ⟨HB9.out.os, HB9.out.tape, HB9.out.output, HB9.out.size, HB9.out.block⟩
      clear HB9 HU3
      generalize w11.drewN m12 = w12 at *
      go_wp2_with fail
      refine (round_any u3 w12 ul3).mono ?_
      rintro e w13 ⟨rfl, rfl⟩
      go_wp2_with fail
      go_ret2
      refine ⟨?_, HB12.out⟩
      rw [HS.out]
      first | exact ret_pair rfl rfl | exact ret_pair (b := - -lg) rfl (by omega)
    · have hl1 : ¬ (dn : Int) < (dx : Int) := by omega
      have hl2 : decide ((dn : Int) < (dx : Int)) = false := by simp; omega
      rw [if_neg hl] at HS
      go_wp2_with fail
      go_ret2
      refine ⟨?_, HB9.out⟩
      rw [HS.out]
      first | exact ret_pair rfl rfl | exact ret_pair (b := - -lg) rfl (by omega)
set_option maxRecDepth 100000 in
set_option maxHeartbeats 2000000 in
theorem short_least (m : Nat) (E : Int) (w : World) (hf : IsFloat m E) (hn : 4503599627370496 ≤ m ∧ m ≤ 4503599627370496) (hE : E = -1074) (ht : Pow10At w) :
    Calls Tryd.prog 41 #[.int .u64 (m * 2048 : Nat), .int .i64 (E - 11)] w fun e w' => e = .returned (.tuple #[.int .u64 ((shortN m E).1 : Nat), .int .i64 (shortN m E).2]) ∧ Below w.heap.size w w' := by
  have h1 := hf.lt
  have h2 := hf.lo
  have h3 := hf.hi
  have hedge : edge m E = false := by unfold edge; simp; omega
  have hp : pOf m E = -log10Pow2 E := by unfold pOf; rw [hedge]; rfl
  have hpr := pOf_range hf
  rw [hp] at hpr
  obtain ⟨i, hi⟩ : ∃ i : Nat, (i : Int) = -log10Pow2 E + 348 := ⟨(-log10Pow2 E + 348).toNat, by omega⟩
  obtain ⟨o, ho1⟩ : ∃ o : Nat, o = m % 2 := ⟨_, rfl⟩
  have x0 : (((m * 2048 : Nat) : Int) == 9223372036854775808) = true := by
    rw [beq_iff_eq]; omega
  have x0' : decide (E - 11 > -1085) = false := by simp; omega
  have x0'' : ¬ (-1085 < E - 11) := by omega
  clear hE
  have x1 : ¬ E - 11 < -1085 := by omega
  have x2 : (-1085 : Int) ≤ E - 11 := by omega
  have x3 : IntKind.i64.wrap (E - 11 + 11) = E := by rw [IntKind.wrap_i64]; omega
  have x4 : IntKind.u64.wrap (((m * 2048 : Nat) : Int) - 1024) = ((m * 2048 - 1024 : Nat) : Int) := by rw [IntKind.wrap_u64]; omega
  have x5 : IntKind.u64.wrap (((m * 2048 : Nat) : Int) + 1024) = ((m * 2048 + 1024 : Nat) : Int) := by rw [IntKind.wrap_u64]; omega
  have x6 : ((m * 2048 : Nat) : Int) / 2048 = (m : Int) := by omega
  have x7 : bits BinOp.and IntKind.i64 (m : Int) 1 = (o : Int) := by rw [i64_and1 m h1, ho1]
  have hlo : -100000 ≤ log10Pow2 E ∧ log10Pow2 E ≤ 100000 := by omega
  have hsh := (shifts E h2 h3).1
  obtain ⟨s, hs⟩ : ∃ s : Nat, (s : Int) = -(E - 11 + log2Pow10 (-log10Pow2 E) + 3) := ⟨(-(E - 11 + log2Pow10 (-log10Pow2 E) + 3)).toNat, by omega⟩
  have hbig := tabH_big (-log10Pow2 E) hpr.1 hpr.2
  obtain ⟨t1, t2, _⟩ := tab (-log10Pow2 E) hpr.1 hpr.2
  -- the three products
  have us : ∀ y, 0 < y → y < 36028797018963968 → uscaleN (y * 512) (tabH (-log10Pow2 E)) (tabL (-log10Pow2 E)) s = uAt m E y := fun y hy hN => by
    have h := uscale_at hf y 9 s hy hN (by show y * 512 < _; omega) (by decide) (by decide) (by rw [hp]; omega)
    rw [hp] at h
    exact h
  have um1 : uscaleN (m * 2048 - 1024) (tabH (-log10Pow2 E)) (tabL (-log10Pow2 E)) s = uAt m E (yLo m E) := by
    have e : yLo m E = 4 * m - 2 := by unfold yLo; rw [hedge]; rfl
    rw [e, ← us (4 * m - 2) (by omega) (by omega)]
    congr 1
    omega
  have um2 : uscaleN (m * 2048 + 1024) (tabH (-log10Pow2 E)) (tabL (-log10Pow2 E)) s = uAt m E (yHi m) := by
    have e : yHi m = 4 * m + 2 := rfl
    rw [e, ← us (4 * m + 2) (by omega) (by omega)]
    congr 1
    omega
  have um3 : uscaleN (m * 2048) (tabH (-log10Pow2 E)) (tabL (-log10Pow2 E)) s = uAt m E (4 * m) := by
    rw [← us (4 * m) (by omega) (by omega)]
    congr 1
    omega
  have ul1 : uAt m E (yLo m E) < 9223372036854775808 := uAt_lt hf _ (by unfold yLo; split <;> omega)
  have hul4 : uAt m E (yLo m E) + 1 < 9223372036854775808 := uAt_lt1 hf _ (by unfold yLo; split <;> omega)
  have ul2 : uAt m E (yHi m) < 9223372036854775808 := uAt_lt hf _ (by unfold yHi; omega)
  have ul3 : uAt m E (4 * m) < 9223372036854775808 := uAt_lt hf _ (by omega)
  have HD : Hid (dMin m E = (uAt m E (yLo m E) + o + 3) / 4 ∧ dMax m E = (uAt m E (yHi m) - o) / 4) := by rw [ho1]; exact ⟨rfl, rfl⟩
  have ho : o ≤ 1 := by omega
  clear ho1
  clear us
  obtain ⟨X, hX⟩ : ∃ X, X = m * 2048 := ⟨_, rfl⟩
  rw [← hX] at x0 x4 x5 x6 um1 um2 um3 ⊢
  have p1 : 18446744073709551616 ≤ (X - 1024) * tabH (-log10Pow2 E) := Nat.le_trans (by decide : 18446744073709551616 ≤ 2 * 9223372036854775808) (Nat.mul_le_mul (by omega) hbig)
  have p2 : 18446744073709551616 ≤ (X + 1024) * tabH (-log10Pow2 E) := Nat.le_trans (by decide : 18446744073709551616 ≤ 2 * 9223372036854775808) (Nat.mul_le_mul (by omega) hbig)
  have p3 : 18446744073709551616 ≤ X * tabH (-log10Pow2 E) := Nat.le_trans (by decide : 18446744073709551616 ≤ 2 * 9223372036854775808) (Nat.mul_le_mul (by omega) hbig)
  have lX : X < 18446744073709551616 := by omega
  have lA : X - 1024 < 18446744073709551616 := by omega
  have lB : X + 1024 < 18446744073709551616 := by omega
  generalize hA : X - 1024 = A at *
  generalize hB : X + 1024 = B at *
  have HL : Hid (Calls Tryd.prog 36 #[.int .i64 E] w fun e w' => e = .returned (.int .i64 (log10Pow2 E)) ∧ w' = w) := log10Pow2_any E w (by omega) (by omega)
  have HX : Hid _ := hX
  have HA : Hid _ := hA
  have HB : Hid _ := hB
  clear hX hA hB
  go_enter Tryd.func41, Tryd.ntmps41
  go_wp2_with fail
  refine HL.out.mono ?_
  rintro e w1 ⟨rfl, rfl⟩
  have HSH : Hid (shortN m E = if dMin m E ≤ dMax m E / 10 * 10 then (dMax m E / 10, log10Pow2 E + 1) else (if dMin m E < dMax m E then roundN (uAt m E (4 * m)) else dMin m E, log10Pow2 E)) := by
    rw [Hid]
    unfold shortN
    rw [hp]
    congr 2
    · omega
    · omega
  generalize log10Pow2 E = lg at *
  obtain ⟨g0, g1⟩ := ht i (by omega)
  rw [show (i : Int) - 348 = -lg by omega] at g0 g1
  have h2lt : 2 < w1.heap.size := World.block_lt_of_cell? _ _ g0
  have HT2 : Hid (Calls Tryd.prog 47 #[.int .i64 (-lg)] (w1.alloc (.cells #[.int .u64 0, .int .u64 0, .int .i64 0] 75)) fun e w' => e = .returned (.int .i64 (log2Pow10 (-lg))) ∧ w' = (w1.alloc (.cells #[.int .u64 0, .int .u64 0, .int .i64 0] 75))) := log2Pow10_any (-lg) _ (by omega) (by omega)
  go_wp2_with fail
  refine HT2.out.mono ?_
  rintro e w2 ⟨rfl, rfl⟩
  go_wp2_with fail
  refine (prescale_new w1 i (tabH (-lg)) (tabL (-lg)) s (E - 11) (-lg) (log2Pow10 (-lg)) (by omega) (by omega) g0 g1 (by omega) (by omega) (by omega) (by omega) (by omega)).mono ?_
  rintro e w5 ⟨rfl, k0, k1, k2, hb5⟩
  have HB5 : Hid _ := hb5
  have hs64 : s < 64 := by omega
  have HUS : Hid (∀ (W : World) (x : Nat), W.cell? ⟨w1.heap.size, 0, none⟩ = some (.int .u64 (tabH (-lg))) → W.cell? ⟨w1.heap.size, 1, none⟩ = some (.int .u64 (tabL (-lg))) → W.cell? ⟨w1.heap.size, 2, none⟩ = some (.int .i64 s) → x < 18446744073709551616 → 18446744073709551616 ≤ x * tabH (-lg) →
      Calls Tryd.prog 48 #[.int .u64 x, .pointer (some ⟨w1.heap.size, 0, none⟩)] W fun e w' => e = .returned (.int .u64 (uscaleN x (tabH (-lg)) (tabL (-lg)) s : Nat)) ∧ ∃ m, w' = W.drewN m) := fun W x a b c hx hpx => uscale_any w1.heap.size x _ _ s W hx t1 t2 hs64 hpx a b c
  have HU1 : Hid _ := um1
  have HU2 : Hid _ := um2
  have HU3 : Hid _ := um3
  have HSM : Hid (dMin m E ≤ dMax m E / 10 * 10 → shortN m E = (dMax m E / 10, lg + 1)) := fun h => by rw [HSH.out, if_pos h]
  have HSN : Hid (¬ dMin m E ≤ dMax m E / 10 * 10 → shortN m E = (if dMin m E < dMax m E then roundN (uAt m E (4 * m)) else dMin m E, lg)) := fun h => by rw [HSH.out, if_neg h]
  have HU4 : Hid (0 < uAt m E (yHi m) ∧ uAt m E (yLo m E) + 1 < 9223372036854775808) := ⟨uHi_pos, by have := hul4; omega⟩
  clear hb5 g0 g1 HT2 HL um1 um2 um3 hs64 hbig t1 t2 HSH hf hsh
  generalize uAt m E (yLo m E) = u1 at *
  generalize uAt m E (yHi m) = u2 at *
  generalize uAt m E (4 * m) = u3 at *
  generalize dMin m E = dn at *
  generalize dMax m E = dx at *

  have hU4 := HU4.out
  obtain ⟨v1, hv1⟩ : ∃ v1 : Nat, v1 = u1 + o := ⟨_, rfl⟩
  obtain ⟨v2, hv2⟩ : ∃ v2 : Nat, v2 = u2 - o := ⟨_, rfl⟩
  have HN1 : Hid ((u1 : Int) + (o : Int) = (v1 : Int)) := by rw [Hid]; omega
  have HN2 : Hid ((u2 : Int) + -(o : Int) = (v2 : Int)) := by rw [Hid]; omega
  have HN3 : Hid (0 ≤ (u2 : Int) + -(o : Int)) := by rw [Hid]; omega
  have n3 : v2 < 9223372036854775808 := by omega
  have n5 : dx < 9223372036854775808 := by have := HD.out; omega
  have n6 : dn < 9223372036854775808 := by have := HD.out; omega
  have n4 : v1 < 9223372036854775808 := by omega
  have HDN : Hid (dn = (v1 + 3) / 4) := by rw [hv1]; exact HD.out.1
  have HDX : Hid (dx = v2 / 4) := by rw [hv2]; exact HD.out.2
  clear HU4 hU4 HD hv1 hv2
  go_wp2_with fail
  refine (HUS.out w5 A k0 k1 k2 lA p1).mono ?_
  rintro e w6 ⟨rfl, m6, rfl⟩
  rw [HU1.out]
  have HB6 : Hid (Below w1.heap.size w1 (w5.drewN m6)) := ⟨HB5.out.os, HB5.out.tape, HB5.out.output, HB5.out.size, HB5.out.block⟩
  have k0' : (w5.drewN m6).cell? ⟨w1.heap.size, 0, none⟩ = some (.int .u64 (tabH (-lg))) := k0
  have k1' : (w5.drewN m6).cell? ⟨w1.heap.size, 1, none⟩ = some (.int .u64 (tabL (-lg))) := k1
  have k2' : (w5.drewN m6).cell? ⟨w1.heap.size, 2, none⟩ = some (.int .i64 s) := k2
  clear k0 k1 k2 HB5 HU1
  generalize w5.drewN m6 = w6 at *
  go_wp2_with fail
  refine (nudge_any u1 o w6 (by omega) (by omega) (by omega) (by omega)).mono ?_
  rintro e w7 ⟨rfl, rfl⟩
  rw [HN1.out]
  go_wp2_with fail
  refine (ceil_any v1 w7 n4).mono ?_
  rintro e w8 ⟨rfl, rfl⟩
  rw [← HDN.out]
  go_wp2_with fail
  refine (HUS.out w8 B k0' k1' k2' lB p2).mono ?_
  rintro e w9 ⟨rfl, m9, rfl⟩
  rw [HU2.out]
  have HB9 : Hid (Below w1.heap.size w1 (w8.drewN m9)) := ⟨HB6.out.os, HB6.out.tape, HB6.out.output, HB6.out.size, HB6.out.block⟩
  have j0 : (w8.drewN m9).cell? ⟨w1.heap.size, 0, none⟩ = some (.int .u64 (tabH (-lg))) := k0'
  have j1 : (w8.drewN m9).cell? ⟨w1.heap.size, 1, none⟩ = some (.int .u64 (tabL (-lg))) := k1'
  have j2 : (w8.drewN m9).cell? ⟨w1.heap.size, 2, none⟩ = some (.int .i64 s) := k2'
  clear k0' k1' k2' HB6 HU2
  generalize w8.drewN m9 = w9 at *
  go_wp2_with fail
  refine (nudge_any u2 (-(o : Int)) w9 (by omega) (by omega) (by omega) HN3.out).mono ?_
  rintro e w10 ⟨rfl, rfl⟩
  rw [HN2.out]
  go_wp2_with fail
  refine (floor_any v2 w10 n3).mono ?_
  rintro e w11 ⟨rfl, rfl⟩
  rw [← HDX.out]
  obtain ⟨d1, hd1⟩ : ∃ d1 : Nat, d1 = dx / 10 := ⟨_, rfl⟩
  have y1 : (dx : Int) / 10 = (d1 : Int) := by omega
  have y2 : IntKind.u64.wrap ((d1 : Int) * 10) = ((d1 * 10 : Nat) : Int) := by rw [IntKind.wrap_u64]; omega
  have y3 : (10 : Int) ≠ 0 := by decide
  by_cases hc : dn ≤ d1 * 10
  · have hS := HSM.out (by rw [← hd1]; exact hc)
    rw [← hd1] at hS
    have HS : Hid _ := hS
    clear hS HSM HSN hd1
    have hc1 : ((d1 * 10 : Nat) : Int) ≥ (dn : Int) := by omega
    have y4 : IntKind.i64.wrap (-lg - 1) = -lg - 1 := by rw [IntKind.wrap_i64]; omega
    have y5 : IntKind.i64.wrap (-(-lg - 1)) = lg + 1 := by rw [IntKind.wrap_i64]; omega
    go_wp2_with fail
    go_ret2
    refine ⟨?_, HB9.out⟩
    rw [HS.out]
    first | exact ret_pair rfl rfl | exact ret_pair (b := -(-lg - 1)) rfl (by omega)
  · have hS := HSN.out (by rw [← hd1]; exact hc)
    have HS : Hid _ := hS
    clear hS HSM HSN hd1
    have hc1 : ¬ ((d1 * 10 : Nat) : Int) ≥ (dn : Int) := by omega
    have hc2 : decide (((d1 * 10 : Nat) : Int) ≥ (dn : Int)) = false := by simp; omega
    by_cases hl : dn < dx
    · have hl1 : (dn : Int) < (dx : Int) := by omega
      rw [if_pos hl] at HS
      go_wp2_with fail
      refine (HUS.out w11 X j0 j1 j2 lX p3).mono ?_
      rintro e w12 ⟨rfl, m12, rfl⟩
      rw [HU3.out]
      have HB12 : Hid (Below w1.heap.size w1 (w11.drewN m12)) := ⟨HB9.out.os, HB9.out.tape, HB9.out.output, HB9.out.size, HB9.out.block⟩
      clear HB9 HU3
      generalize w11.drewN m12 = w12 at *
      go_wp2_with fail
      refine (round_any u3 w12 ul3).mono ?_
      rintro e w13 ⟨rfl, rfl⟩
      go_wp2_with fail
      go_ret2
      refine ⟨?_, HB12.out⟩
      rw [HS.out]
      first | exact ret_pair rfl rfl | exact ret_pair (b := - -lg) rfl (by omega)
    · have hl1 : ¬ (dn : Int) < (dx : Int) := by omega
      have hl2 : decide ((dn : Int) < (dx : Int)) = false := by simp; omega
      rw [if_neg hl] at HS
      go_wp2_with fail
      go_ret2
      refine ⟨?_, HB9.out⟩
      rw [HS.out]
      first | exact ret_pair rfl rfl | exact ret_pair (b := - -lg) rfl (by omega)
set_option maxRecDepth 100000 in
set_option maxHeartbeats 2000000 in
theorem short_edge (m : Nat) (E : Int) (w : World) (hf : IsFloat m E) (hn : 4503599627370496 ≤ m ∧ m ≤ 4503599627370496) (hE : -1074 < E) (ht : Pow10At w) :
    Calls Tryd.prog 41 #[.int .u64 (m * 2048 : Nat), .int .i64 (E - 11)] w fun e w' => e = .returned (.tuple #[.int .u64 ((shortN m E).1 : Nat), .int .i64 (shortN m E).2]) ∧ Below w.heap.size w w' := by
  have h1 := hf.lt
  have h2 := hf.lo
  have h3 := hf.hi
  have hedge : edge m E = true := by unfold edge; simp; omega
  have hp : pOf m E = -skewed E := by unfold pOf; rw [hedge]; rfl
  have hpr := pOf_range hf
  rw [hp] at hpr
  obtain ⟨i, hi⟩ : ∃ i : Nat, (i : Int) = -skewed E + 348 := ⟨(-skewed E + 348).toNat, by omega⟩
  obtain ⟨o, ho1⟩ : ∃ o : Nat, o = m % 2 := ⟨_, rfl⟩
  have x0 : (((m * 2048 : Nat) : Int) == 9223372036854775808) = true := by
    rw [beq_iff_eq]; omega
  have x0' : decide (E - 11 > -1085) = true := by simp; omega
  have x0'' : -1085 < E - 11 := by omega
  clear hE
  have x1 : ¬ E - 11 < -1085 := by omega
  have x2 : (-1085 : Int) ≤ E - 11 := by omega
  have x3 : IntKind.i64.wrap (E - 11 + 11) = E := by rw [IntKind.wrap_i64]; omega
  have x4 : IntKind.u64.wrap (((m * 2048 : Nat) : Int) - 512) = ((m * 2048 - 512 : Nat) : Int) := by rw [IntKind.wrap_u64]; omega
  have x5 : IntKind.u64.wrap (((m * 2048 : Nat) : Int) + 1024) = ((m * 2048 + 1024 : Nat) : Int) := by rw [IntKind.wrap_u64]; omega
  have x6 : ((m * 2048 : Nat) : Int) / 2048 = (m : Int) := by omega
  have x7 : bits BinOp.and IntKind.i64 (m : Int) 1 = (o : Int) := by rw [i64_and1 m h1, ho1]
  have hlo : -100000 ≤ skewed E ∧ skewed E ≤ 100000 := by omega
  have hsh := (shifts E h2 h3).2
  obtain ⟨s, hs⟩ : ∃ s : Nat, (s : Int) = -(E - 11 + log2Pow10 (-skewed E) + 3) := ⟨(-(E - 11 + log2Pow10 (-skewed E) + 3)).toNat, by omega⟩
  have hbig := tabH_big (-skewed E) hpr.1 hpr.2
  obtain ⟨t1, t2, _⟩ := tab (-skewed E) hpr.1 hpr.2
  -- the three products
  have us : ∀ y, 0 < y → y < 36028797018963968 → uscaleN (y * 512) (tabH (-skewed E)) (tabL (-skewed E)) s = uAt m E y := fun y hy hN => by
    have h := uscale_at hf y 9 s hy hN (by show y * 512 < _; omega) (by decide) (by decide) (by rw [hp]; omega)
    rw [hp] at h
    exact h
  have um1 : uscaleN (m * 2048 - 512) (tabH (-skewed E)) (tabL (-skewed E)) s = uAt m E (yLo m E) := by
    have e : yLo m E = 4 * m - 1 := by unfold yLo; rw [hedge]; rfl
    rw [e, ← us (4 * m - 1) (by omega) (by omega)]
    congr 1
    omega
  have um2 : uscaleN (m * 2048 + 1024) (tabH (-skewed E)) (tabL (-skewed E)) s = uAt m E (yHi m) := by
    have e : yHi m = 4 * m + 2 := rfl
    rw [e, ← us (4 * m + 2) (by omega) (by omega)]
    congr 1
    omega
  have um3 : uscaleN (m * 2048) (tabH (-skewed E)) (tabL (-skewed E)) s = uAt m E (4 * m) := by
    rw [← us (4 * m) (by omega) (by omega)]
    congr 1
    omega
  have ul1 : uAt m E (yLo m E) < 9223372036854775808 := uAt_lt hf _ (by unfold yLo; split <;> omega)
  have hul4 : uAt m E (yLo m E) + 1 < 9223372036854775808 := uAt_lt1 hf _ (by unfold yLo; split <;> omega)
  have ul2 : uAt m E (yHi m) < 9223372036854775808 := uAt_lt hf _ (by unfold yHi; omega)
  have ul3 : uAt m E (4 * m) < 9223372036854775808 := uAt_lt hf _ (by omega)
  have HD : Hid (dMin m E = (uAt m E (yLo m E) + o + 3) / 4 ∧ dMax m E = (uAt m E (yHi m) - o) / 4) := by rw [ho1]; exact ⟨rfl, rfl⟩
  have ho : o ≤ 1 := by omega
  clear ho1
  clear us
  obtain ⟨X, hX⟩ : ∃ X, X = m * 2048 := ⟨_, rfl⟩
  rw [← hX] at x0 x4 x5 x6 um1 um2 um3 ⊢
  have p1 : 18446744073709551616 ≤ (X - 512) * tabH (-skewed E) := Nat.le_trans (by decide : 18446744073709551616 ≤ 2 * 9223372036854775808) (Nat.mul_le_mul (by omega) hbig)
  have p2 : 18446744073709551616 ≤ (X + 1024) * tabH (-skewed E) := Nat.le_trans (by decide : 18446744073709551616 ≤ 2 * 9223372036854775808) (Nat.mul_le_mul (by omega) hbig)
  have p3 : 18446744073709551616 ≤ X * tabH (-skewed E) := Nat.le_trans (by decide : 18446744073709551616 ≤ 2 * 9223372036854775808) (Nat.mul_le_mul (by omega) hbig)
  have lX : X < 18446744073709551616 := by omega
  have lA : X - 512 < 18446744073709551616 := by omega
  have lB : X + 1024 < 18446744073709551616 := by omega
  generalize hA : X - 512 = A at *
  generalize hB : X + 1024 = B at *
  have HL : Hid (Calls Tryd.prog 45 #[.int .i64 E] w fun e w' => e = .returned (.int .i64 (skewed E)) ∧ w' = w) := skewed_any E w (by omega) (by omega)
  have HX : Hid _ := hX
  have HA : Hid _ := hA
  have HB : Hid _ := hB
  clear hX hA hB
  go_enter Tryd.func41, Tryd.ntmps41
  go_wp2_with fail
  refine HL.out.mono ?_
  rintro e w1 ⟨rfl, rfl⟩
  have HSH : Hid (shortN m E = if dMin m E ≤ dMax m E / 10 * 10 then (dMax m E / 10, skewed E + 1) else (if dMin m E < dMax m E then roundN (uAt m E (4 * m)) else dMin m E, skewed E)) := by
    rw [Hid]
    unfold shortN
    rw [hp]
    congr 2
    · omega
    · omega
  generalize skewed E = lg at *
  obtain ⟨g0, g1⟩ := ht i (by omega)
  rw [show (i : Int) - 348 = -lg by omega] at g0 g1
  have h2lt : 2 < w1.heap.size := World.block_lt_of_cell? _ _ g0
  have HT2 : Hid (Calls Tryd.prog 47 #[.int .i64 (-lg)] (w1.alloc (.cells #[.int .u64 0, .int .u64 0, .int .i64 0] 75)) fun e w' => e = .returned (.int .i64 (log2Pow10 (-lg))) ∧ w' = (w1.alloc (.cells #[.int .u64 0, .int .u64 0, .int .i64 0] 75))) := log2Pow10_any (-lg) _ (by omega) (by omega)
  go_wp2_with fail
  refine HT2.out.mono ?_
  rintro e w2 ⟨rfl, rfl⟩
  go_wp2_with fail
  refine (prescale_new w1 i (tabH (-lg)) (tabL (-lg)) s (E - 11) (-lg) (log2Pow10 (-lg)) (by omega) (by omega) g0 g1 (by omega) (by omega) (by omega) (by omega) (by omega)).mono ?_
  rintro e w5 ⟨rfl, k0, k1, k2, hb5⟩
  have HB5 : Hid _ := hb5
  have hs64 : s < 64 := by omega
  have HUS : Hid (∀ (W : World) (x : Nat), W.cell? ⟨w1.heap.size, 0, none⟩ = some (.int .u64 (tabH (-lg))) → W.cell? ⟨w1.heap.size, 1, none⟩ = some (.int .u64 (tabL (-lg))) → W.cell? ⟨w1.heap.size, 2, none⟩ = some (.int .i64 s) → x < 18446744073709551616 → 18446744073709551616 ≤ x * tabH (-lg) →
      Calls Tryd.prog 48 #[.int .u64 x, .pointer (some ⟨w1.heap.size, 0, none⟩)] W fun e w' => e = .returned (.int .u64 (uscaleN x (tabH (-lg)) (tabL (-lg)) s : Nat)) ∧ ∃ m, w' = W.drewN m) := fun W x a b c hx hpx => uscale_any w1.heap.size x _ _ s W hx t1 t2 hs64 hpx a b c
  have HU1 : Hid _ := um1
  have HU2 : Hid _ := um2
  have HU3 : Hid _ := um3
  have HSM : Hid (dMin m E ≤ dMax m E / 10 * 10 → shortN m E = (dMax m E / 10, lg + 1)) := fun h => by rw [HSH.out, if_pos h]
  have HSN : Hid (¬ dMin m E ≤ dMax m E / 10 * 10 → shortN m E = (if dMin m E < dMax m E then roundN (uAt m E (4 * m)) else dMin m E, lg)) := fun h => by rw [HSH.out, if_neg h]
  have HU4 : Hid (0 < uAt m E (yHi m) ∧ uAt m E (yLo m E) + 1 < 9223372036854775808) := ⟨uHi_pos, by have := hul4; omega⟩
  clear hb5 g0 g1 HT2 HL um1 um2 um3 hs64 hbig t1 t2 HSH hf hsh
  generalize uAt m E (yLo m E) = u1 at *
  generalize uAt m E (yHi m) = u2 at *
  generalize uAt m E (4 * m) = u3 at *
  generalize dMin m E = dn at *
  generalize dMax m E = dx at *

  have hU4 := HU4.out
  obtain ⟨v1, hv1⟩ : ∃ v1 : Nat, v1 = u1 + o := ⟨_, rfl⟩
  obtain ⟨v2, hv2⟩ : ∃ v2 : Nat, v2 = u2 - o := ⟨_, rfl⟩
  have HN1 : Hid ((u1 : Int) + (o : Int) = (v1 : Int)) := by rw [Hid]; omega
  have HN2 : Hid ((u2 : Int) + -(o : Int) = (v2 : Int)) := by rw [Hid]; omega
  have HN3 : Hid (0 ≤ (u2 : Int) + -(o : Int)) := by rw [Hid]; omega
  have n3 : v2 < 9223372036854775808 := by omega
  have n5 : dx < 9223372036854775808 := by have := HD.out; omega
  have n6 : dn < 9223372036854775808 := by have := HD.out; omega
  have n4 : v1 < 9223372036854775808 := by omega
  have HDN : Hid (dn = (v1 + 3) / 4) := by rw [hv1]; exact HD.out.1
  have HDX : Hid (dx = v2 / 4) := by rw [hv2]; exact HD.out.2
  clear HU4 hU4 HD hv1 hv2
  go_wp2_with fail
  refine (HUS.out w5 A k0 k1 k2 lA p1).mono ?_
  rintro e w6 ⟨rfl, m6, rfl⟩
  rw [HU1.out]
  have HB6 : Hid (Below w1.heap.size w1 (w5.drewN m6)) := ⟨HB5.out.os, HB5.out.tape, HB5.out.output, HB5.out.size, HB5.out.block⟩
  have k0' : (w5.drewN m6).cell? ⟨w1.heap.size, 0, none⟩ = some (.int .u64 (tabH (-lg))) := k0
  have k1' : (w5.drewN m6).cell? ⟨w1.heap.size, 1, none⟩ = some (.int .u64 (tabL (-lg))) := k1
  have k2' : (w5.drewN m6).cell? ⟨w1.heap.size, 2, none⟩ = some (.int .i64 s) := k2
  clear k0 k1 k2 HB5 HU1
  generalize w5.drewN m6 = w6 at *
  go_wp2_with fail
  refine (nudge_any u1 o w6 (by omega) (by omega) (by omega) (by omega)).mono ?_
  rintro e w7 ⟨rfl, rfl⟩
  rw [HN1.out]
  go_wp2_with fail
  refine (ceil_any v1 w7 n4).mono ?_
  rintro e w8 ⟨rfl, rfl⟩
  rw [← HDN.out]
  go_wp2_with fail
  refine (HUS.out w8 B k0' k1' k2' lB p2).mono ?_
  rintro e w9 ⟨rfl, m9, rfl⟩
  rw [HU2.out]
  have HB9 : Hid (Below w1.heap.size w1 (w8.drewN m9)) := ⟨HB6.out.os, HB6.out.tape, HB6.out.output, HB6.out.size, HB6.out.block⟩
  have j0 : (w8.drewN m9).cell? ⟨w1.heap.size, 0, none⟩ = some (.int .u64 (tabH (-lg))) := k0'
  have j1 : (w8.drewN m9).cell? ⟨w1.heap.size, 1, none⟩ = some (.int .u64 (tabL (-lg))) := k1'
  have j2 : (w8.drewN m9).cell? ⟨w1.heap.size, 2, none⟩ = some (.int .i64 s) := k2'
  clear k0' k1' k2' HB6 HU2
  generalize w8.drewN m9 = w9 at *
  go_wp2_with fail
  refine (nudge_any u2 (-(o : Int)) w9 (by omega) (by omega) (by omega) HN3.out).mono ?_
  rintro e w10 ⟨rfl, rfl⟩
  rw [HN2.out]
  go_wp2_with fail
  refine (floor_any v2 w10 n3).mono ?_
  rintro e w11 ⟨rfl, rfl⟩
  rw [← HDX.out]
  obtain ⟨d1, hd1⟩ : ∃ d1 : Nat, d1 = dx / 10 := ⟨_, rfl⟩
  have y1 : (dx : Int) / 10 = (d1 : Int) := by omega
  have y2 : IntKind.u64.wrap ((d1 : Int) * 10) = ((d1 * 10 : Nat) : Int) := by rw [IntKind.wrap_u64]; omega
  have y3 : (10 : Int) ≠ 0 := by decide
  by_cases hc : dn ≤ d1 * 10
  · have hS := HSM.out (by rw [← hd1]; exact hc)
    rw [← hd1] at hS
    have HS : Hid _ := hS
    clear hS HSM HSN hd1
    have hc1 : ((d1 * 10 : Nat) : Int) ≥ (dn : Int) := by omega
    have y4 : IntKind.i64.wrap (-lg - 1) = -lg - 1 := by rw [IntKind.wrap_i64]; omega
    have y5 : IntKind.i64.wrap (-(-lg - 1)) = lg + 1 := by rw [IntKind.wrap_i64]; omega
    go_wp2_with fail
    go_ret2
    refine ⟨?_, HB9.out⟩
    rw [HS.out]
    first | exact ret_pair rfl rfl | exact ret_pair (b := -(-lg - 1)) rfl (by omega)
  · have hS := HSN.out (by rw [← hd1]; exact hc)
    have HS : Hid _ := hS
    clear hS HSM HSN hd1
    have hc1 : ¬ ((d1 * 10 : Nat) : Int) ≥ (dn : Int) := by omega
    have hc2 : decide (((d1 * 10 : Nat) : Int) ≥ (dn : Int)) = false := by simp; omega
    by_cases hl : dn < dx
    · have hl1 : (dn : Int) < (dx : Int) := by omega
      rw [if_pos hl] at HS
      go_wp2_with fail
      refine (HUS.out w11 X j0 j1 j2 lX p3).mono ?_
      rintro e w12 ⟨rfl, m12, rfl⟩
      rw [HU3.out]
      have HB12 : Hid (Below w1.heap.size w1 (w11.drewN m12)) := ⟨HB9.out.os, HB9.out.tape, HB9.out.output, HB9.out.size, HB9.out.block⟩
      clear HB9 HU3
      generalize w11.drewN m12 = w12 at *
      go_wp2_with fail
      refine (round_any u3 w12 ul3).mono ?_
      rintro e w13 ⟨rfl, rfl⟩
      go_wp2_with fail
      go_ret2
      refine ⟨?_, HB12.out⟩
      rw [HS.out]
      first | exact ret_pair rfl rfl | exact ret_pair (b := - -lg) rfl (by omega)
    · have hl1 : ¬ (dn : Int) < (dx : Int) := by omega
      have hl2 : decide ((dn : Int) < (dx : Int)) = false := by simp; omega
      rw [if_neg hl] at HS
      go_wp2_with fail
      go_ret2
      refine ⟨?_, HB9.out⟩
      rw [HS.out]
      first | exact ret_pair rfl rfl | exact ret_pair (b := - -lg) rfl (by omega)
end Go.Proofs.Qxb6615058aDoor
