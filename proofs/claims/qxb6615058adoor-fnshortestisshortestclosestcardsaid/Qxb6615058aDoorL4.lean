/-
  The walk of law 4: FnShortestKeepsOrder (4).
-/
import Derived.Test.Qxb6615058aDoorW9
import Derived.Test.Qxb6615058aDoorV2
import Derived.Test.Qxb6615058aDoorV4
namespace Go.Proofs.Qxb6615058aDoor
open Go.RowKit

/-- A NaN that the machine picks. -/
def nanOf (t : Nat) : Nat := t % 2 * 9223372036854775808 + 9218868437227405312 + 1 + t / 2 % 4503599627370495

theorem run_sub_fin {P : Program} (b : Nat) (h : Fin64 b) (w : World) : (binOp .sub 22 (.float .f64 b) (.float .f64 b)).run P w = .ok (.float .f64 0) w :=
  run_float_arith w .sub 22 .f64 b b 0 (sub_fin h)

theorem run_sub_nan {P : Program} (b : Nat) (h : ¬ rungOf b < 9218868437227405312) (w : World) : ∃ t, (binOp .sub 22 (.float .f64 b) (.float .f64 b)).run P w = .ok (.float .f64 (nanOf t)) w.drew := by
  have hs : FloatKind.f64.format.sub b b = none := sub_inf h
  refine ⟨w.tape w.drawn (.nanBits .f64 b b), ?_⟩
  simp [binOp, Op.floatArith, hs, Question.forced, Question.cut, nanOf]

theorem order_nanOf (t : Nat) : FloatKind.f64.format.order (nanOf t) 0 = none := order_nan t

/-- The decimal of a word as the texts bear it. -/
structure WordOk (b : Nat) : Prop where
  len : 1 ≤ (dsW b).length ∧ (dsW b).length ≤ 17
  lt : ∀ d ∈ dsW b, d < 10
  exp : -999 ≤ xW b ∧ xW b ≤ 999
  canon : dsW b = [0] ∨ (dsW b).head? ≠ some 0 ∧ (dsW b).getLast? ≠ some 0
  zero : decide (dsW b = [0]) = decide (mOf b = 0)

theorem word_ok {b : Nat} (hb : Fin64 b) : WordOk b := by
  by_cases hm : mOf b = 0
  · have e1 : dsW b = [0] := by unfold dsW; rw [if_pos hm]
    have e2 : xW b = 0 := by unfold xW; rw [if_pos hm]
    refine ⟨by rw [e1]; simp, by rw [e1]; simp, by rw [e2]; omega, .inl e1, ?_⟩
    rw [e1, hm]
    rfl
  · have e1 : dsW b = (decOf (mOf b) (eOf b)).1 := by unfold dsW; rw [if_neg hm]
    have e2 : xW b = (decOf (mOf b) (eOf b)).2 := by unfold xW; rw [if_neg hm]
    have h := dec_ok (isFloat_of hb hm)
    refine ⟨by rw [e1]; exact h.len, by rw [e1]; exact h.lt, by rw [e2]; have := h.exp; omega, .inr (by rw [e1]; exact ⟨h.head, h.last⟩), ?_⟩
    have hne : ¬ dsW b = [0] := by
      rw [e1]
      intro e
      have := h.head
      rw [e] at this
      simp at this
    rw [decide_eq_false hne, decide_eq_false hm]

theorem mag_lt {a b : Nat} (ha : Fin64 a) (hb : Fin64 b) (h0 : mOf a ≠ 0) (h : MagLt (mOf a) (eOf a) (mOf b) (eOf b)) : magN (dsW a) (xW a) (dsW b) (xW b) = -1 := by
  obtain ⟨h1, h2⟩ := h
  have hb0 : mOf b ≠ 0 := by omega
  have h3 : eOf a < eOf b ∨ eOf a = eOf b ∧ mOf a < mOf b := (h2.resolve_left h0).2
  have ho := dec_order (isFloat_of ha h0) (isFloat_of hb hb0) h3
  unfold dsW xW magN
  rw [if_neg h0, if_neg h0, if_neg hb0, if_neg hb0]
  rcases ho with ho | ⟨ho, hc⟩
  · rw [if_neg (by omega), if_pos ho]
  · rw [if_pos ho]; exact hc

theorem dec_lt {a b : Nat} (ha : Fin64 a) (hb : Fin64 b) (h : Ieee.double.order a b = some .lt) : DecLt (negOf a) (dsW a) (xW a) (negOf b) (dsW b) (xW b) := by
  have wa := (word_ok ha).zero
  have wb := (word_ok hb).zero
  unfold DecLt
  rw [wa, wb]
  rcases lt_cases ha hb h with ⟨na, nb, hm⟩ | ⟨na, nb, hm⟩ | ⟨na, nb, hm⟩
  · rw [na, nb]
    have hb0 : mOf b ≠ 0 := by have := hm.1; omega
    rw [decide_eq_false hb0]
    by_cases ha0 : mOf a = 0
    · rw [decide_eq_true ha0]
      exact .inl (by decide)
    · rw [decide_eq_false ha0]
      exact .inr (.inl ⟨rfl, rfl, mag_lt ha hb ha0 hm⟩)
  · rw [na, nb]
    have ha0 : mOf a ≠ 0 := by have := hm.1; omega
    rw [decide_eq_false ha0]
    by_cases hb0 : mOf b = 0
    · rw [decide_eq_true hb0]
      exact .inl (by decide)
    · rw [decide_eq_false hb0]
      refine .inr (.inr ⟨rfl, rfl, ?_⟩)
      rw [magN_swap, mag_lt hb ha hb0 hm]
      rfl
  · rw [na, nb]
    by_cases ha0 : mOf a = 0
    · have hb0 : mOf b ≠ 0 := by
        rcases hm with hm | hm
        · exact absurd ha0 hm
        · exact hm
      rw [decide_eq_true ha0, decide_eq_false hb0]
      exact .inl (by decide)
    · rw [decide_eq_false ha0]
      by_cases hb0 : mOf b = 0
      · rw [decide_eq_true hb0]
        exact .inl (by decide)
      · rw [decide_eq_false hb0]
        exact .inl (by decide)

theorem canon_word {b : Nat} (hb : Fin64 b) (w : World) : Calls Tryd.prog 12 #[.string (dstr (dsW b))] w fun e w' => e = .returned (.bool true) ∧ w' = w := by
  have h := word_ok hb
  rcases h.canon with e | ⟨h1, h2⟩
  · rw [e]; exact canon_zero w
  · exact canon_any (dsW b) w h.len.1 (by have := h.len; omega) h.lt h1 h2

set_option maxRecDepth 100000 in
set_option maxHeartbeats 4000000 in
theorem law4 (a b : Nat) (w : World) (ha64 : a < 18446744073709551616) (hb64 : b < 18446744073709551616) (ht : Pow10At w) (htab : TabAt w) :
    Calls Tryd.prog 4 #[.float .f64 a, .float .f64 b] w fun e w' => e = .returned (.bool true) ∧ Below w.heap.size w w' := by
  have hz : FloatKind.f64.format.order 0 0 = some .eq := by decide +kernel
  by_cases ha : rungOf a < 9218868437227405312
  · have fa : Fin64 a := ⟨ha64, ha⟩
    have ra : ∀ W, (binOp .sub 22 (.float .f64 a) (.float .f64 a)).run Tryd.prog W = .ok (.float .f64 0) W := fun W => run_sub_fin a fa W
    by_cases hb : rungOf b < 9218868437227405312
    · have fb : Fin64 b := ⟨hb64, hb⟩
      have rb : ∀ W, (binOp .sub 22 (.float .f64 b) (.float .f64 b)).run Tryd.prog W = .ok (.float .f64 0) W := fun W => run_sub_fin b fb W
      by_cases hlt : FloatKind.f64.format.order a b = some .lt
      · have HC : Hid (∀ W, Calls Tryd.prog 13 #[.bool (negOf a), .string (dstr (dsW a)), .int .i64 (xW a), .bool (negOf b), .string (dstr (dsW b)), .int .i64 (xW b)] W fun e w' => e = .returned (.int .i64 (-1)) ∧ ∃ m, w' = W.drewN m) := fun W =>
          cmpDec_lt _ _ _ _ _ _ W (by have := (word_ok fa).len; omega) (by have := (word_ok fb).len; omega) (word_ok fa).lt (word_ok fb).lt (dec_lt fa fb hlt)
        have HS1 : Hid (Calls Tryd.prog 5 #[.float .f64 a] w fun e w' => e = .returned (.string ⟨(textT (negOf a) (dsW a) (xW a)).toArray⟩) ∧ Below w.heap.size w w') := shortest_any a w fa ht htab
        have h2lt : 2 < w.heap.size := World.block_lt_of_cell? _ _ (ht 0 (by decide)).1
        have HS2 : Hid (∀ W, Below w.heap.size w W → Calls Tryd.prog 5 #[.float .f64 b] W fun e w' => e = .returned (.string ⟨(textT (negOf b) (dsW b) (xW b)).toArray⟩) ∧ Below W.heap.size W w') := fun W h => shortest_any b W fb (ht.below h) (htab.below (B := w.heap.size) (by omega) h)
        have HP1 : Hid (∀ W, Calls Tryd.prog 7 #[.string ⟨(textT (negOf a) (dsW a) (xW a)).toArray⟩] W fun e w' => e = .returned (.tuple #[.bool (negOf a), .string (dstr (dsW a)), .int .i64 (xW a), .bool true]) ∧ Below W.heap.size W w') := fun W =>
          parse_any _ _ _ W (word_ok fa).len.1 (by have := (word_ok fa).len; omega) (word_ok fa).lt (word_ok fa).exp.1 (word_ok fa).exp.2
        have HP2 : Hid (∀ W, Calls Tryd.prog 7 #[.string ⟨(textT (negOf b) (dsW b) (xW b)).toArray⟩] W fun e w' => e = .returned (.tuple #[.bool (negOf b), .string (dstr (dsW b)), .int .i64 (xW b), .bool true]) ∧ Below W.heap.size W w') := fun W =>
          parse_any _ _ _ W (word_ok fb).len.1 (by have := (word_ok fb).len; omega) (word_ok fb).lt (word_ok fb).exp.1 (word_ok fb).exp.2
        have HN1 : Hid (∀ W, Calls Tryd.prog 12 #[.string (dstr (dsW a))] W fun e w' => e = .returned (.bool true) ∧ w' = W) := fun W => canon_word fa W
        have HN2 : Hid (∀ W, Calls Tryd.prog 12 #[.string (dstr (dsW b))] W fun e w' => e = .returned (.bool true) ∧ w' = W) := fun W => canon_word fb W
        have HG1 : Hid (∀ W, Calls Tryd.prog 8 #[.float .f64 a] W fun e w' => e = .returned (.bool (negOf a)) ∧ w' = W) := fun W => signBit_any a fa W
        have HG2 : Hid (∀ W, Calls Tryd.prog 8 #[.float .f64 b] W fun e w' => e = .returned (.bool (negOf b)) ∧ w' = W) := fun W => signBit_any b fb W
        generalize (⟨(textT (negOf a) (dsW a) (xW a)).toArray⟩ : ByteArray) = s1 at *
        generalize (⟨(textT (negOf b) (dsW b) (xW b)).toArray⟩ : ByteArray) = s2 at *
        generalize dstr (dsW a) = d1 at *
        generalize dstr (dsW b) = d2 at *
        generalize xW a = x1 at *
        generalize xW b = x2 at *
        generalize negOf a = n1 at *
        generalize negOf b = n2 at *
        clear fa fb ht htab ha hb
        have hn1 : (n1 != n1) = false := by simp
        have hn2 : (n2 != n2) = false := by simp
        go_enter Tryd.func4, Tryd.ntmps4
        go_wp2_with fail
        refine HS1.out.mono ?_
        rintro e w1 ⟨rfl, hb1⟩
        have HB1 : Hid (Below w.heap.size w w1) := hb1
        clear hb1
        go_wp2_with fail
        refine (HS2.out _ HB1.out).mono ?_
        rintro e w2 ⟨rfl, hb2⟩
        have HB2 : Hid (Below w.heap.size w w2) := HB1.out.trans (hb2.mono HB1.out.size)
        clear hb2 HB1
        go_wp2_with fail
        refine (HP1.out _).mono ?_
        rintro e w3 ⟨rfl, hb3⟩
        have HB3 : Hid (Below w.heap.size w w3) := HB2.out.trans (hb3.mono HB2.out.size)
        clear hb3 HB2
        go_wp2_with fail
        refine (HP2.out _).mono ?_
        rintro e w4 ⟨rfl, hb4⟩
        have HB4 : Hid (Below w.heap.size w w4) := HB3.out.trans (hb4.mono HB3.out.size)
        clear hb4 HB3
        go_wp2_with fail
        refine (HN1.out _).mono ?_
        rintro e w5 ⟨rfl, rfl⟩
        go_wp2_with fail
        refine (HN2.out _).mono ?_
        rintro e w6 ⟨rfl, rfl⟩
        go_wp2_with fail
        refine (HG1.out _).mono ?_
        rintro e w7 ⟨rfl, rfl⟩
        go_wp2_with fail
        refine (HG2.out _).mono ?_
        rintro e w8 ⟨rfl, rfl⟩
        go_wp2_with fail
        refine (HC.out _).mono ?_
        rintro e w9 ⟨rfl, m, rfl⟩
        go_wp2_with fail
        go_ret
        exact ⟨rfl, below_drewN HB4.out m⟩
      · have hne : (FloatKind.f64.format.order a b == some .lt) = false := by rw [beq_eq_false_iff_ne]; exact hlt
        clear fa fb ht htab ha hb
        go_enter Tryd.func4, Tryd.ntmps4
        go_wp2_with fail
        go_ret
        exact ⟨rfl, Below.refl _ _⟩
    · obtain ⟨t, rb⟩ := run_sub_nan (P := Tryd.prog) b hb w
      have hon := order_nanOf t
      clear fa ht htab ha hb
      go_enter Tryd.func4, Tryd.ntmps4
      go_wp2_with fail
      go_ret
      exact ⟨rfl, rfl, rfl, rfl, Nat.le_refl _, fun _ _ => rfl⟩
  · obtain ⟨t, ra⟩ := run_sub_nan (P := Tryd.prog) a ha w
    have hon := order_nanOf t
    clear ht htab ha
    go_enter Tryd.func4, Tryd.ntmps4
    go_wp2_with fail
    go_ret
    exact ⟨rfl, rfl, rfl, rfl, Nat.le_refl _, fun _ _ => rfl⟩
end Go.Proofs.Qxb6615058aDoor
