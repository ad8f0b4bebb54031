/-
  Walk: ftoa64 (26) in the form 'e', shortest.
-/
import Derived.Test.Qxb6615058aDoorW7
import Derived.Deep.RegionHeld3
namespace Go.Proofs.Qxb6615058aDoor
open Go.RowKit

/-- What ftoa64 leaves: the text in block D. -/
def Ftoa (w w' : World) (D b : Nat) (e : Ending) : Prop := ∃ c, e = .returned (.slice (some ⟨D, 0, none⟩) c 24) ∧ (textW b).length = c ∧ w'.ownsRow D 5 1 (.slice (some ⟨D, 0, none⟩) c 24) c ((textW b).map bv) ∧ Below D w w'

theorem Txt.ftoa {w W W' : World} {D b c B : Nat} (h : Txt W W' D (textW b) c) (hb : Below B w W) (hD : D < B) (hS : D < W.heap.size) : Ftoa w W' D b (.returned (.slice (some ⟨D, 0, none⟩) c 24)) :=
  ⟨c, rfl, h.len, h.own, h.os.trans hb.os, h.tape.trans hb.tape, h.output.trans hb.output, Nat.le_trans hb.size h.size, fun k hk => (h.keep k (by omega) (by omega)).trans (hb.block k (by omega))⟩

/-- The word's parts. -/
structure Parts (b hi ex mt : Nat) : Prop where
  h1 : hi = b / 4503599627370496
  h2 : ex = hi % 2048
  h3 : mt = b % 4503599627370496
  lt : b < 18446744073709551616
  fin : ex < 2047
  rung : rungOf b = ex * 4503599627370496 + mt
theorem parts_of {b : Nat} (h : Fin64 b) : ∃ hi ex mt, Parts b hi ex mt := by
  refine ⟨_, _, _, rfl, rfl, rfl, h.1, ?_, ?_⟩
  · have h1 := h.1
    have h2 := h.2
    unfold rungOf at h2
    omega
  · unfold rungOf
    have h1 := h.1
    omega
theorem neg_fact (b : Nat) (h : b < 18446744073709551616) : (((b : Nat) : Int) / 9223372036854775808 != 0) = negOf b := by
  unfold negOf
  rw [Bool.eq_iff_iff, bne_iff_ne, decide_eq_true_iff]
  omega

theorem free_new (w : World) (t : Nat) (ht : t < 32) : (w.alloc (.cells #[.int .u8 0, .int .u8 0, .int .u8 0, .int .u8 0, .int .u8 0, .int .u8 0, .int .u8 0, .int .u8 0, .int .u8 0, .int .u8 0, .int .u8 0, .int .u8 0, .int .u8 0, .int .u8 0, .int .u8 0, .int .u8 0, .int .u8 0, .int .u8 0, .int .u8 0, .int .u8 0, .int .u8 0, .int .u8 0, .int .u8 0, .int .u8 0, .int .u8 0, .int .u8 0, .int .u8 0, .int .u8 0, .int .u8 0, .int .u8 0, .int .u8 0, .int .u8 0] 57)).cell? ⟨w.heap.size, t, none⟩ = some (.int .u8 0) ∧ (w.alloc (.cells #[.int .u8 0, .int .u8 0, .int .u8 0, .int .u8 0, .int .u8 0, .int .u8 0, .int .u8 0, .int .u8 0, .int .u8 0, .int .u8 0, .int .u8 0, .int .u8 0, .int .u8 0, .int .u8 0, .int .u8 0, .int .u8 0, .int .u8 0, .int .u8 0, .int .u8 0, .int .u8 0, .int .u8 0, .int .u8 0, .int .u8 0, .int .u8 0, .int .u8 0, .int .u8 0, .int .u8 0, .int .u8 0, .int .u8 0, .int .u8 0, .int .u8 0, .int .u8 0] 57)).frozen? ⟨w.heap.size, t, none⟩ = false := by
  refine ⟨?_, by go_simp⟩
  rw [World.cell?_alloc_mark]
  match t, ht with
  | 0, _ => rfl
  | 1, _ => rfl
  | 2, _ => rfl
  | 3, _ => rfl
  | 4, _ => rfl
  | 5, _ => rfl
  | 6, _ => rfl
  | 7, _ => rfl
  | 8, _ => rfl
  | 9, _ => rfl
  | 10, _ => rfl
  | 11, _ => rfl
  | 12, _ => rfl
  | 13, _ => rfl
  | 14, _ => rfl
  | 15, _ => rfl
  | 16, _ => rfl
  | 17, _ => rfl
  | 18, _ => rfl
  | 19, _ => rfl
  | 20, _ => rfl
  | 21, _ => rfl
  | 22, _ => rfl
  | 23, _ => rfl
  | 24, _ => rfl
  | 25, _ => rfl
  | 26, _ => rfl
  | 27, _ => rfl
  | 28, _ => rfl
  | 29, _ => rfl
  | 30, _ => rfl
  | 31, _ => rfl
  | t + 32, h => exact absurd h (by omega)

set_option maxRecDepth 100000 in
set_option maxHeartbeats 4000000 in
theorem ftoa_zero (D b : Nat) (w : World) (hb : Fin64 b) (hm : mOf b = 0) (hown : w.ownsRow D 5 1 (.slice (some ⟨D, 0, none⟩) 0 24) 0 []) (hD : D < w.heap.size) :
    Calls Tryd.prog 26 #[.slice (some ⟨D, 0, none⟩) 0 24, .float .f64 b, .int .u8 101, .int .i64 (-1)] w fun e w' => Ftoa w w' D b e := by
  obtain ⟨hi, ex, mt, hp⟩ := parts_of hb
  have y0 := neg_fact b hp.lt
  have y1 : ((b : Nat) : Int) / 4503599627370496 = (hi : Int) := by have := hp.h1; omega
  have hib : hi < 4096 := by have := hp.h1; have := hp.lt; omega
  have y2 : bits BinOp.and IntKind.i64 (hi : Int) 2047 = (ex : Int) := by rw [and_exp hi hib, hp.h2]
  have y3 : bits BinOp.and IntKind.u64 ((b : Nat) : Int) 4503599627370495 = (mt : Int) := by rw [and_mant b hp.lt, hp.h3]
  have hbb : b < 18446744073709551616 := hp.lt
  have hmb : mt < 4503599627370496 := by have := hp.h3; omega
  have hex : ex < 2047 := hp.fin
  have y4 : ((ex : Int) == 2047) = false := by rw [beq_eq_false_iff_ne]; omega
  have hrun : ∀ W, (callFunc 28 #[.float .f64 b]).run Tryd.prog W = .ok (.value (.int .u64 ((b : Nat) : Int))) W := run_bits b
  have hrg := hp.rung
  have hz := (mOf_zero hm).2
  have e0 : ex = 0 := by omega
  have m0 : mt = 0 := by omega
  have HW : Hid (textW b = textT (negOf b) [0] 0) := by rw [Hid, textW, dsW, xW, if_pos hm, if_pos hm]
  subst e0 m0
  have HC : Hid (∀ W : World, W.ownsRow D 5 1 (.slice (some ⟨D, 0, none⟩) 0 24) 0 [] → Calls Tryd.prog 31 #[.slice (some ⟨D, 0, none⟩) 0 24, .bool (negOf b), .slice none 0 0, .int .i64 0, .int .i64 0, .int .i64 (-1), .int .u8 101, .bool true] W fun e w' => ∃ c, e = .returned (.slice (some ⟨D, 0, none⟩) c 24) ∧ Txt W w' D (textT (negOf b) [0] 0) c) := by
    intro W h
    cases negOf b
    · exact efg_zero0 D W h
    · exact efg_zero1 D W h
  have HO : Hid (∀ n, (w.drewN n).ownsRow D 5 1 (.slice (some ⟨D, 0, none⟩) 0 24) 0 []) := fun n => hown
  clear hp hrg hz hown hm hb y4 hex hmb
  generalize negOf b = nb at *
  go_enter Tryd.func26, Tryd.ntmps26
  go_wp2_with fail
  go_quiet (fail)
  go_wp2_with fail
  refine (HC.out _ (HO.out _)).mono ?_
  rintro e w1 ⟨c, rfl, ht⟩
  have HT : Hid _ := ht
  clear ht
  go_wp2_with fail
  go_ret
  have h := HT.out
  rw [← HW.out] at h
  exact h.ftoa ⟨rfl, rfl, rfl, Nat.le_refl _, fun _ _ => rfl⟩ hD hD
set_option maxRecDepth 100000 in
set_option maxHeartbeats 4000000 in
theorem ftoa_norm (D b : Nat) (w : World) (hb : Fin64 b) (hm : 4503599627370496 ≤ rungOf b) (hown : w.ownsRow D 5 1 (.slice (some ⟨D, 0, none⟩) 0 24) 0 []) (hD : D < w.heap.size) (ht : Pow10At w) (htab : TabAt w) :
    Calls Tryd.prog 26 #[.slice (some ⟨D, 0, none⟩) 0 24, .float .f64 b, .int .u8 101, .int .i64 (-1)] w fun e w' => Ftoa w w' D b e := by
  obtain ⟨hi, ex, mt, hp⟩ := parts_of hb
  have y0 := neg_fact b hp.lt
  have y1 : ((b : Nat) : Int) / 4503599627370496 = (hi : Int) := by have := hp.h1; omega
  have hib : hi < 4096 := by have := hp.h1; have := hp.lt; omega
  have y2 : bits BinOp.and IntKind.i64 (hi : Int) 2047 = (ex : Int) := by rw [and_exp hi hib, hp.h2]
  have y3 : bits BinOp.and IntKind.u64 ((b : Nat) : Int) 4503599627370495 = (mt : Int) := by rw [and_mant b hp.lt, hp.h3]
  have hbb : b < 18446744073709551616 := hp.lt
  have hmb : mt < 4503599627370496 := by have := hp.h3; omega
  have hex : ex < 2047 := hp.fin
  have y4 : ((ex : Int) == 2047) = false := by rw [beq_eq_false_iff_ne]; omega
  have hrun : ∀ W, (callFunc 28 #[.float .f64 b]).run Tryd.prog W = .ok (.value (.int .u64 ((b : Nat) : Int))) W := run_bits b
  have hrg := hp.rung
  have hm0 : mOf b ≠ 0 := by unfold mOf; rw [if_neg (by omega)]; omega
  have hmm : mOf b = 4503599627370496 + mt := by unfold mOf; rw [if_neg (by omega)]; omega
  have hee : eOf b = (ex : Int) - 1075 := by unfold eOf; rw [if_neg (by omega)]; omega
  have y5 : ((ex : Int) == 0) = false := by rw [beq_eq_false_iff_ne]; omega
  have hf := isFloat_of hb hm0
  obtain ⟨m, hm1⟩ : ∃ m, m = mOf b := ⟨_, rfl⟩
  obtain ⟨E, hE1⟩ : ∃ E, E = eOf b := ⟨_, rfl⟩
  obtain ⟨E52, hE2⟩ : ∃ E52 : Int, E52 = E + 52 := ⟨_, rfl⟩
  have y6 : bits BinOp.or IntKind.u64 (mt : Int) 4503599627370496 = (m : Int) := by rw [or_mant mt hmb, hm1, hmm]
  have y7 : (ex : Int) + -1023 = E52 := by omega
  have y7' : (ex : Int) - 1023 = E52 := by omega
  have HW : Hid (textW b = textT (negOf b) (digs (shortN m E).1 (Lib.nDigits (shortN m E).1) (nz (shortN m E).1)) ((Lib.nDigits (shortN m E).1 : Int) + (shortN m E).2 - 1)) := by
    rw [Hid, textW, dsW, xW, if_neg hm0, if_neg hm0, hm1, hE1]
    rfl
  rw [← hm1, ← hE1] at hf
  have hf1 := hf.lt
  have hf2 := hf.pos
  have y8 : ((m : Int) == 0) = false := by rw [beq_eq_false_iff_ne]; omega
  obtain ⟨L, hL⟩ : ∃ L, L = Lib.bitLen m := ⟨_, rfl⟩
  obtain ⟨k, hk⟩ : ∃ k, k = shOf m := ⟨_, rfl⟩
  obtain ⟨X, hX⟩ : ∃ X, X = m * 2 ^ k := ⟨_, rfl⟩
  obtain ⟨ee, he⟩ : ∃ ee : Int, ee = E - (k : Int) := ⟨_, rfl⟩
  have hLb : L ≤ 53 := by rw [hL]; exact Lib.bitLen_le m 53 (by decide) (by omega)
  have hkL : k = 64 - L := by rw [hk, hL]; rfl
  have hXb : X < 18446744073709551616 := by
    obtain ⟨_, _, b3⟩ := Lib.bitLenAux_bounds 64 m (by omega) (by omega)
    change m < 2 ^ Lib.bitLen m at b3
    rw [← hL] at b3
    have e : 2 ^ L * 2 ^ k = 18446744073709551616 := by rw [← Nat.pow_add, show L + k = 64 by omega]
    rw [hX, ← e]
    exact (Nat.mul_lt_mul_right (Nat.two_pow_pos k)).2 b3
  have z1 : 64 - (L : Int) = (k : Int) := by omega
  have z2 : (m : Int) * 2 ^ k = (X : Int) := by rw [hX, Int.natCast_mul, Int.natCast_pow]; rfl
  have z3 : E52 - (k : Int) - 52 = ee := by omega
  have z4 : E52 - (k : Int) = ee + 52 := by omega
  have hkb : k ≤ 64 := by omega
  have hEb : -1074 ≤ E ∧ E ≤ 971 := ⟨hf.lo, hf.hi⟩
  have hcb : -1200 ≤ ee ∧ ee ≤ 1000 := by omega
  have HLEN : Hid (∀ W : World, Calls Tryd.prog 32 #[.int .u64 (m : Int)] W fun e w' => e = .returned (.int .i64 (L : Nat)) ∧ w' = W) := fun W => by
    rw [hL]
    exact Tryd.bits_Len64 (m : Int) W (by omega) (by omega)
  have HSH : Hid (∀ W : World, Pow10At W → Calls Tryd.prog 41 #[.int .u64 (X : Nat), .int .i64 ee] W fun e w' => e = .returned (.tuple #[.int .u64 ((shortN m E).1 : Nat), .int .i64 (shortN m E).2]) ∧ Below W.heap.size W w') := fun W h => by
    rw [hX, he, hk]
    exact short_any m E W hf h
  have hd1 := short_pos hf
  have hd2 := short_lt hf
  have hd3 := short_q hf
  have hd4 := short_nd hf
  have hd5 := nz_pos _ hd1
  have hd6 := nz_le (shortN m E).1
  have hd7 := Lib.nDigits_pos (shortN m E).1
  generalize (shortN m E).1 = d at *
  generalize (shortN m E).2 = q at *
  obtain ⟨nd, hnd⟩ : ∃ nd, nd = Lib.nDigits d := ⟨_, rfl⟩
  obtain ⟨j, hj⟩ : ∃ j, j = nz d := ⟨_, rfl⟩
  have HND : Hid (∀ W : World, TabAt W → Calls Tryd.prog 35 #[.int .u64 d] W fun e w' => e = .returned (.int .i64 (nd : Nat)) ∧ w' = W) := fun W h => by
    rw [hnd]
    exact numDigits_any d hd1 (by omega) W h
  have HST : Hid (∀ W : World, Free32 W w.heap.size → Calls Tryd.prog 34 #[.slice (some ⟨w.heap.size, 0, none⟩) 32 32, .int .u64 d, .int .i64 q, .int .i64 (nd : Nat)] W fun e w' =>
      e = .returned (.tuple #[.int .i64 ((nd : Int) + q), .int .i64 (j : Nat)]) ∧ DigitsAt w' w.heap.size d nd ∧ Below w.heap.size W w') := fun W h => by
    rw [hnd, hj]
    exact setDigits_any w.heap.size d q W (by omega) (by omega) (by omega) (by omega) h
  rw [← hnd] at hd4 hd6 hd7 HW
  rw [← hj] at hd5 hd6 HW
  obtain ⟨dp, hdp⟩ : ∃ dp : Int, dp = (nd : Int) + q := ⟨_, rfl⟩
  rw [← hdp] at HW HST
  have HEF : Hid (∀ W : World, W.ownsRow D 5 1 (.slice (some ⟨D, 0, none⟩) 0 24) 0 [] → w.heap.size < W.heap.size → DigitsAt W w.heap.size d nd → Calls Tryd.prog 31 #[.slice (some ⟨D, 0, none⟩) 0 24, .bool (negOf b), .slice (some ⟨w.heap.size, 0, none⟩) 32 32, .int .i64 dp, .int .i64 j, .int .i64 ((j : Int) - 1), .int .u8 101, .bool true] W fun e w' =>
      ∃ c, e = .returned (.slice (some ⟨D, 0, none⟩) c 24) ∧ Txt W w' D (textT (negOf b) (digs d nd j) (dp - 1)) c) := fun W h1 h2 h3 => by
    by_cases hj2 : 2 ≤ j
    · cases negOf b
      · exact efg_01 D w.heap.size j d nd dp W h1 h2 (by omega) h3 hj2 hd6 (by omega) (by omega) (by omega)
      · exact efg_11 D w.heap.size j d nd dp W h1 h2 (by omega) h3 hj2 hd6 (by omega) (by omega) (by omega)
    · cases negOf b
      · exact efg_00 D w.heap.size j d nd dp W h1 h2 (by omega) h3 (by omega) hd6 (by omega) (by omega) (by omega)
      · exact efg_10 D w.heap.size j d nd dp W h1 h2 (by omega) h3 (by omega) hd6 (by omega) (by omega) (by omega)
  have HO : Hid (w.ownsRow D 5 1 (.slice (some ⟨D, 0, none⟩) 0 24) 0 []) := hown
  have HP : Hid (Pow10At w) := ht
  have HTB : Hid (TabAt w) := htab
  have h2lt : 2 < w.heap.size := World.block_lt_of_cell? _ _ (ht 0 (by decide)).1
  have hjb : j ≤ 17 := by omega
  have x1 : (j : Int) - 1 ≥ 0 := by omega
  have x2 : max ((j : Int) - 1) 0 = (j : Int) - 1 := by omega
  clear ht htab hown hp hrg hm hb hm1 hE1 hL hk hX he hkL hf hnd hj hdp hmm hee hm0 z4 hE2
  generalize negOf b = nb at *
  go_enter Tryd.func26, Tryd.ntmps26
  go_wp2_with fail
  go_quiet (fail)
  go_wp2_with fail
  generalize hw1 : World.alloc _ _ = w1
  have HF1 : Hid (Free32 w1 w.heap.size) := by
    rw [Hid, ← hw1]
    intro t ht
    exact free_new (w.drewN _) t ht
  have HB1 : Hid (Below w.heap.size w w1) := by
    rw [Hid, ← hw1]
    exact (below_drewN (Below.refl _ w) _).alloc (Nat.le_refl _) _
  have hs1 : w.heap.size < w1.heap.size := by rw [← hw1]; simp
  clear hw1
  refine (HLEN.out _).mono ?_
  rintro e w2 ⟨rfl, rfl⟩
  go_wp2_with fail
  refine (HSH.out _ (HP.out.below HB1.out)).mono ?_
  rintro e w3 ⟨rfl, hb3⟩
  have HB3 : Hid (Below w.heap.size w w3) := HB1.out.trans (hb3.mono (by omega))
  have HF3 : Hid (∀ n, Free32 (w3.drewN n) w.heap.size) := fun n t ht => ⟨(hb3.cell hs1).trans (HF1.out t ht).1, (World.frozen?_of_block (hb3.block _ hs1)).trans (HF1.out t ht).2⟩
  have hs3 : w.heap.size < w3.heap.size := by have := hb3.size; omega
  have HTB3 : Hid (∀ n, TabAt (w3.drewN n)) := fun n => HTB.out.below (B := w.heap.size) (by omega) (below_drewN HB3.out n)
  clear HF1 HB1 hb3
  go_wp2_with fail
  go_region_held3 (fun w' => Below w.heap.size w w') (first | (exact below_drewN HB3.out _) | assumption | (exact (below_drewN HB3.out _).trans hb5) | (exact below_drewN ((below_drewN HB3.out _).trans hb5) _))
    (first | (go_at_call 35; refine (HND.out _ (HTB3.out _)).mono ?_; rintro e w4 ⟨rfl, rfl⟩) | (go_at_call 34; refine (HST.out _ (HF3.out _)).mono ?_; rintro e w5 ⟨rfl, hg5, hb5⟩))
  have HD5 : Hid (DigitsAt w5 w.heap.size d nd) := hg5
  have HB5 : Hid (Below w.heap.size w w5) := (below_drewN HB3.out _).trans hb5
  have hs5 : w.heap.size < w5.heap.size := Nat.lt_of_lt_of_le hs3 hb5.size
  clear hg5 hb5 HB3 HF3 HTB3
  go_wp2_with fail
  refine (HEF.out _ (own_below HO.out rfl hD HB5.out) hs5 HD5.out).mono ?_
  rintro e w6 ⟨c, rfl, ht6⟩
  have HT6 : Hid (Txt w5 w6 D (textT nb (digs d nd j) (dp - 1)) c) := ht6
  clear ht6
  go_wp2_with fail
  go_ret
  have h := HT6.out
  rw [← HW.out] at h
  exact h.ftoa HB5.out hD (by omega)
set_option maxRecDepth 100000 in
set_option maxHeartbeats 4000000 in
theorem ftoa_sub (D b : Nat) (w : World) (hb : Fin64 b) (hm : rungOf b < 4503599627370496) (h0 : rungOf b ≠ 0) (hown : w.ownsRow D 5 1 (.slice (some ⟨D, 0, none⟩) 0 24) 0 []) (hD : D < w.heap.size) (ht : Pow10At w) (htab : TabAt w) :
    Calls Tryd.prog 26 #[.slice (some ⟨D, 0, none⟩) 0 24, .float .f64 b, .int .u8 101, .int .i64 (-1)] w fun e w' => Ftoa w w' D b e := by
  obtain ⟨hi, ex, mt, hp⟩ := parts_of hb
  have y0 := neg_fact b hp.lt
  have y1 : ((b : Nat) : Int) / 4503599627370496 = (hi : Int) := by have := hp.h1; omega
  have hib : hi < 4096 := by have := hp.h1; have := hp.lt; omega
  have y2 : bits BinOp.and IntKind.i64 (hi : Int) 2047 = (ex : Int) := by rw [and_exp hi hib, hp.h2]
  have y3 : bits BinOp.and IntKind.u64 ((b : Nat) : Int) 4503599627370495 = (mt : Int) := by rw [and_mant b hp.lt, hp.h3]
  have hbb : b < 18446744073709551616 := hp.lt
  have hmb : mt < 4503599627370496 := by have := hp.h3; omega
  have hex : ex < 2047 := hp.fin
  have y4 : ((ex : Int) == 2047) = false := by rw [beq_eq_false_iff_ne]; omega
  have hrun : ∀ W, (callFunc 28 #[.float .f64 b]).run Tryd.prog W = .ok (.value (.int .u64 ((b : Nat) : Int))) W := run_bits b
  have hrg := hp.rung
  have hm0 : mOf b ≠ 0 := by unfold mOf; rw [if_pos hm]; exact h0
  have e0 : ex = 0 := by omega
  have hmm : mOf b = mt := by unfold mOf; rw [if_pos hm]; omega
  have hee : eOf b = -1074 := by unfold eOf; rw [if_pos hm]
  have hf := isFloat_of hb hm0
  obtain ⟨m, hm1⟩ : ∃ m, m = mOf b := ⟨_, rfl⟩
  obtain ⟨E, hE1⟩ : ∃ E, E = eOf b := ⟨_, rfl⟩
  obtain rfl : m = mt := by omega
  subst e0
  have HW : Hid (textW b = textT (negOf b) (digs (shortN m E).1 (Lib.nDigits (shortN m E).1) (nz (shortN m E).1)) ((Lib.nDigits (shortN m E).1 : Int) + (shortN m E).2 - 1)) := by
    rw [Hid, textW, dsW, xW, if_neg hm0, if_neg hm0, hm1, hE1]
    rfl
  rw [← hm1, ← hE1] at hf
  have hf1 := hf.lt
  have hf2 := hf.pos
  have y8 : ((m : Int) == 0) = false := by rw [beq_eq_false_iff_ne]; omega
  obtain ⟨L, hL⟩ : ∃ L, L = Lib.bitLen m := ⟨_, rfl⟩
  obtain ⟨k, hk⟩ : ∃ k, k = shOf m := ⟨_, rfl⟩
  obtain ⟨X, hX⟩ : ∃ X, X = m * 2 ^ k := ⟨_, rfl⟩
  obtain ⟨ee, he⟩ : ∃ ee : Int, ee = E - (k : Int) := ⟨_, rfl⟩
  have hLb : L ≤ 53 := by rw [hL]; exact Lib.bitLen_le m 53 (by decide) (by omega)
  have hkL : k = 64 - L := by rw [hk, hL]; rfl
  have hXb : X < 18446744073709551616 := by
    obtain ⟨_, _, b3⟩ := Lib.bitLenAux_bounds 64 m (by omega) (by omega)
    change m < 2 ^ Lib.bitLen m at b3
    rw [← hL] at b3
    have e : 2 ^ L * 2 ^ k = 18446744073709551616 := by rw [← Nat.pow_add, show L + k = 64 by omega]
    rw [hX, ← e]
    exact (Nat.mul_lt_mul_right (Nat.two_pow_pos k)).2 b3
  have z1 : 64 - (L : Int) = (k : Int) := by omega
  have z2 : (m : Int) * 2 ^ k = (X : Int) := by rw [hX, Int.natCast_mul, Int.natCast_pow]; rfl
  have z3 : -1022 - (k : Int) - 52 = ee := by omega
  have z4 : -1022 - (k : Int) = ee + 52 := by omega
  have hkb : k ≤ 64 := by omega
  have hEb : -1074 ≤ E ∧ E ≤ 971 := ⟨hf.lo, hf.hi⟩
  have hcb : -1200 ≤ ee ∧ ee ≤ 1000 := by omega
  have HLEN : Hid (∀ W : World, Calls Tryd.prog 32 #[.int .u64 (m : Int)] W fun e w' => e = .returned (.int .i64 (L : Nat)) ∧ w' = W) := fun W => by
    rw [hL]
    exact Tryd.bits_Len64 (m : Int) W (by omega) (by omega)
  have HSH : Hid (∀ W : World, Pow10At W → Calls Tryd.prog 41 #[.int .u64 (X : Nat), .int .i64 ee] W fun e w' => e = .returned (.tuple #[.int .u64 ((shortN m E).1 : Nat), .int .i64 (shortN m E).2]) ∧ Below W.heap.size W w') := fun W h => by
    rw [hX, he, hk]
    exact short_any m E W hf h
  have hd1 := short_pos hf
  have hd2 := short_lt hf
  have hd3 := short_q hf
  have hd4 := short_nd hf
  have hd5 := nz_pos _ hd1
  have hd6 := nz_le (shortN m E).1
  have hd7 := Lib.nDigits_pos (shortN m E).1
  generalize (shortN m E).1 = d at *
  generalize (shortN m E).2 = q at *
  obtain ⟨nd, hnd⟩ : ∃ nd, nd = Lib.nDigits d := ⟨_, rfl⟩
  obtain ⟨j, hj⟩ : ∃ j, j = nz d := ⟨_, rfl⟩
  have HND : Hid (∀ W : World, TabAt W → Calls Tryd.prog 35 #[.int .u64 d] W fun e w' => e = .returned (.int .i64 (nd : Nat)) ∧ w' = W) := fun W h => by
    rw [hnd]
    exact numDigits_any d hd1 (by omega) W h
  have HST : Hid (∀ W : World, Free32 W w.heap.size → Calls Tryd.prog 34 #[.slice (some ⟨w.heap.size, 0, none⟩) 32 32, .int .u64 d, .int .i64 q, .int .i64 (nd : Nat)] W fun e w' =>
      e = .returned (.tuple #[.int .i64 ((nd : Int) + q), .int .i64 (j : Nat)]) ∧ DigitsAt w' w.heap.size d nd ∧ Below w.heap.size W w') := fun W h => by
    rw [hnd, hj]
    exact setDigits_any w.heap.size d q W (by omega) (by omega) (by omega) (by omega) h
  rw [← hnd] at hd4 hd6 hd7 HW
  rw [← hj] at hd5 hd6 HW
  obtain ⟨dp, hdp⟩ : ∃ dp : Int, dp = (nd : Int) + q := ⟨_, rfl⟩
  rw [← hdp] at HW HST
  have HEF : Hid (∀ W : World, W.ownsRow D 5 1 (.slice (some ⟨D, 0, none⟩) 0 24) 0 [] → w.heap.size < W.heap.size → DigitsAt W w.heap.size d nd → Calls Tryd.prog 31 #[.slice (some ⟨D, 0, none⟩) 0 24, .bool (negOf b), .slice (some ⟨w.heap.size, 0, none⟩) 32 32, .int .i64 dp, .int .i64 j, .int .i64 ((j : Int) - 1), .int .u8 101, .bool true] W fun e w' =>
      ∃ c, e = .returned (.slice (some ⟨D, 0, none⟩) c 24) ∧ Txt W w' D (textT (negOf b) (digs d nd j) (dp - 1)) c) := fun W h1 h2 h3 => by
    by_cases hj2 : 2 ≤ j
    · cases negOf b
      · exact efg_01 D w.heap.size j d nd dp W h1 h2 (by omega) h3 hj2 hd6 (by omega) (by omega) (by omega)
      · exact efg_11 D w.heap.size j d nd dp W h1 h2 (by omega) h3 hj2 hd6 (by omega) (by omega) (by omega)
    · cases negOf b
      · exact efg_00 D w.heap.size j d nd dp W h1 h2 (by omega) h3 (by omega) hd6 (by omega) (by omega) (by omega)
      · exact efg_10 D w.heap.size j d nd dp W h1 h2 (by omega) h3 (by omega) hd6 (by omega) (by omega) (by omega)
  have HO : Hid (w.ownsRow D 5 1 (.slice (some ⟨D, 0, none⟩) 0 24) 0 []) := hown
  have HP : Hid (Pow10At w) := ht
  have HTB : Hid (TabAt w) := htab
  have h2lt : 2 < w.heap.size := World.block_lt_of_cell? _ _ (ht 0 (by decide)).1
  have hjb : j ≤ 17 := by omega
  have x1 : (j : Int) - 1 ≥ 0 := by omega
  have x2 : max ((j : Int) - 1) 0 = (j : Int) - 1 := by omega
  clear ht htab hown hp hrg hm hb hm1 hE1 hL hk hX he hkL hf hnd hj hdp hmm hee hm0 z4 h0
  generalize negOf b = nb at *
  go_enter Tryd.func26, Tryd.ntmps26
  go_wp2_with fail
  go_quiet (fail)
  go_wp2_with fail
  generalize hw1 : World.alloc _ _ = w1
  have HF1 : Hid (Free32 w1 w.heap.size) := by
    rw [Hid, ← hw1]
    intro t ht
    exact free_new (w.drewN _) t ht
  have HB1 : Hid (Below w.heap.size w w1) := by
    rw [Hid, ← hw1]
    exact (below_drewN (Below.refl _ w) _).alloc (Nat.le_refl _) _
  have hs1 : w.heap.size < w1.heap.size := by rw [← hw1]; simp
  clear hw1
  refine (HLEN.out _).mono ?_
  rintro e w2 ⟨rfl, rfl⟩
  go_wp2_with fail
  refine (HSH.out _ (HP.out.below HB1.out)).mono ?_
  rintro e w3 ⟨rfl, hb3⟩
  have HB3 : Hid (Below w.heap.size w w3) := HB1.out.trans (hb3.mono (by omega))
  have HF3 : Hid (∀ n, Free32 (w3.drewN n) w.heap.size) := fun n t ht => ⟨(hb3.cell hs1).trans (HF1.out t ht).1, (World.frozen?_of_block (hb3.block _ hs1)).trans (HF1.out t ht).2⟩
  have hs3 : w.heap.size < w3.heap.size := by have := hb3.size; omega
  have HTB3 : Hid (∀ n, TabAt (w3.drewN n)) := fun n => HTB.out.below (B := w.heap.size) (by omega) (below_drewN HB3.out n)
  clear HF1 HB1 hb3
  go_wp2_with fail
  go_region_held3 (fun w' => Below w.heap.size w w') (first | (exact below_drewN HB3.out _) | assumption | (exact (below_drewN HB3.out _).trans hb5) | (exact below_drewN ((below_drewN HB3.out _).trans hb5) _))
    (first | (go_at_call 35; refine (HND.out _ (HTB3.out _)).mono ?_; rintro e w4 ⟨rfl, rfl⟩) | (go_at_call 34; refine (HST.out _ (HF3.out _)).mono ?_; rintro e w5 ⟨rfl, hg5, hb5⟩))
  have HD5 : Hid (DigitsAt w5 w.heap.size d nd) := hg5
  have HB5 : Hid (Below w.heap.size w w5) := (below_drewN HB3.out _).trans hb5
  have hs5 : w.heap.size < w5.heap.size := Nat.lt_of_lt_of_le hs3 hb5.size
  clear hg5 hb5 HB3 HF3 HTB3
  go_wp2_with fail
  refine (HEF.out _ (own_below HO.out rfl hD HB5.out) hs5 HD5.out).mono ?_
  rintro e w6 ⟨c, rfl, ht6⟩
  have HT6 : Hid (Txt w5 w6 D (textT nb (digs d nd j) (dp - 1)) c) := ht6
  clear ht6
  go_wp2_with fail
  go_ret
  have h := HT6.out
  rw [← HW.out] at h
  exact h.ftoa HB5.out hD (by omega)
end Go.Proofs.Qxb6615058aDoor
