/-
  shortFloat at every float; numDigits (35); float64bits (28).
-/
import Derived.Test.Qxb6615058aDoorW6
import Derived.WalkSmall
import Derived.Test.Qxb6615058aDoorN12
import Derived.Laws.Externs
namespace Go.Proofs.Qxb6615058aDoor
open Go.RowKit

/-- The name of the table of powers of ten in a uint64: the row's own. -/
def powName : String := (Rows.fnShortestKeepsOrderRow.laid.getD 3 ("", .lit (.bool true))).1
def TabAt (w : World) : Prop := Lib.TabIs Tryd.prog w powName .u64 Lib.pow10Tab
theorem TabAt.below {w W : World} {B : Nat} (h : TabAt w) (hB : 1 < B) (hb : Below B w W) : TabAt W :=
  var?_below hb (g := 1) (by kernel_rfl) hB h

theorem numDigits_any (u : Nat) (h1 : 1 ≤ u) (h2 : u < 18446744073709551616) (w : World) (ht : TabAt w) :
    Calls Tryd.prog 35 #[.int .u64 u] w fun e w' => e = .returned (.int .i64 (Lib.nDigits u)) ∧ w' = w := Any.internal_strconv_numDigits Tryd.laysM284 u h1 h2 w ht

/-- How far m is shifted. -/
def shOf (m : Nat) : Nat := 64 - Lib.bitLen m

theorem bitLen_at {m L : Nat} (h0 : m < 18446744073709551616) (h1 : 2 ^ L ≤ m) (h2 : m < 2 ^ (L + 1)) : Lib.bitLen m = L + 1 := by
  have hp := Nat.two_pow_pos L
  obtain ⟨b1, b2, b3⟩ := Lib.bitLenAux_bounds 64 m h0 (by omega)
  change 2 ^ (Lib.bitLen m - 1) ≤ m at b2
  change m < 2 ^ Lib.bitLen m at b3
  change 1 ≤ Lib.bitLen m at b1
  have c1 : L < Lib.bitLen m := by
    have := Nat.lt_of_le_of_lt h1 b3
    exact (Nat.pow_lt_pow_iff_right (by decide)).1 this
  have c2 : Lib.bitLen m - 1 < L + 1 := by
    have := Nat.lt_of_le_of_lt b2 h2
    exact (Nat.pow_lt_pow_iff_right (by decide)).1 this
  omega

theorem short_any (m : Nat) (E : Int) (w : World) (hf : IsFloat m E) (ht : Pow10At w) :
    Calls Tryd.prog 41 #[.int .u64 (m * 2 ^ shOf m : Nat), .int .i64 (E - (shOf m : Int))] w fun e w' => e = .returned (.tuple #[.int .u64 ((shortN m E).1 : Nat), .int .i64 (shortN m E).2]) ∧ Below w.heap.size w w' := by
  have h1 := hf.lt
  have h2 := hf.lo
  by_cases hn : 4503599627370496 ≤ m
  · have hs : shOf m = 11 := by
      unfold shOf
      rw [bitLen_at (L := 52) (by omega) hn (by omega)]
    rw [hs]
    by_cases he : 4503599627370497 ≤ m
    · exact short_normal m E w hf he ht
    · by_cases hE : E = -1074
      · exact short_least m E w hf ⟨hn, by omega⟩ hE ht
      · exact short_edge m E w hf ⟨hn, by omega⟩ (by omega) ht
  · have hm := hf.pos
    obtain ⟨b1, b2, b3⟩ := Lib.bitLenAux_bounds 64 m (by omega) (by omega)
    change 1 ≤ Lib.bitLen m at b1
    change 2 ^ (Lib.bitLen m - 1) ≤ m at b2
    change m < 2 ^ Lib.bitLen m at b3
    have b4 : Lib.bitLen m ≤ 52 := Lib.bitLen_le m 52 (by decide) (by omega)
    have hs : shOf m = 64 - Lib.bitLen m := rfl
    have k1 : 12 ≤ shOf m := by omega
    have k2 : shOf m ≤ 63 := by omega
    have p1 : 9223372036854775808 ≤ m * 2 ^ shOf m := by
      have e : 2 ^ (Lib.bitLen m - 1) * 2 ^ shOf m = 9223372036854775808 := by
        rw [← Nat.pow_add, show Lib.bitLen m - 1 + shOf m = 63 by omega]
      rw [← e]
      exact Nat.mul_le_mul_right _ b2
    have p2 : m * 2 ^ shOf m + 2 ^ shOf m ≤ 18446744073709551616 := by
      have e : 2 ^ Lib.bitLen m * 2 ^ shOf m = 18446744073709551616 := by
        rw [← Nat.pow_add, show Lib.bitLen m + shOf m = 64 by omega]
      rw [← e]
      have := Nat.mul_le_mul_right (2 ^ shOf m) (show m + 1 ≤ 2 ^ Lib.bitLen m from b3)
      rw [Nat.add_mul, Nat.one_mul] at this
      exact this
    cases hx : (((m * 2 ^ shOf m : Nat) : Int) == 9223372036854775808)
    · exact short_sub_q m (shOf m) E _ w hf (by omega) k1 k2 rfl p1 p2 hx ht
    · exact short_sub_p m (shOf m) E _ w hf (by omega) k1 k2 rfl p1 p2 hx ht

theorem run_bits (b : Nat) (w : World) : (callFunc 28 #[.float .f64 b]).run Tryd.prog w = .ok (.value (.int .u64 ((b : Nat) : Int))) w := by
  rw [run_callFunc_extern Tryd.func28 (by kernel_rfl) (by kernel_rfl) (by kernel_rfl) (e := Extern.MathFloatBits.float64bits) (by kernel_rfl)]
  rfl

theorem u64_and_nat (a b : Nat) (ha : a < 18446744073709551616) (hb : b < 18446744073709551616) : bits .and .u64 (a : Int) (b : Int) = ((a &&& b : Nat) : Int) := by
  have hx : a &&& b < 2 ^ 64 := Nat.and_lt_two_pow _ hb
  show IntKind.u64.wrap ((BitVec.ofInt 64 (a : Int) &&& BitVec.ofInt 64 (b : Int)).toNat : Int) = _
  rw [BitVec.toNat_and, ofInt_u64 a (by omega), ofInt_u64 b (by omega), IntKind.wrap_u64]
  omega
theorem u64_or_nat (a b : Nat) (ha : a < 18446744073709551616) (hb : b < 18446744073709551616) : bits .or .u64 (a : Int) (b : Int) = ((a ||| b : Nat) : Int) := by
  have hx : a ||| b < 2 ^ 64 := Nat.or_lt_two_pow ha hb
  show IntKind.u64.wrap ((BitVec.ofInt 64 (a : Int) ||| BitVec.ofInt 64 (b : Int)).toNat : Int) = _
  rw [BitVec.toNat_or, ofInt_u64 a (by omega), ofInt_u64 b (by omega), IntKind.wrap_u64]
  omega
theorem and_exp (n : Nat) (h : n < 4096) : bits .and .i64 (n : Int) 2047 = ((n % 2048 : Nat) : Int) := by
  have e := i64_and_nat n 2047 (by omega) (by decide)
  rw [show (2047 : Nat) = 2 ^ 11 - 1 from rfl, Nat.and_two_pow_sub_one_eq_mod] at e
  exact e
theorem and_mant (n : Nat) (h : n < 18446744073709551616) : bits .and .u64 (n : Int) 4503599627370495 = ((n % 4503599627370496 : Nat) : Int) := by
  have e := u64_and_nat n 4503599627370495 h (by decide)
  rw [show (4503599627370495 : Nat) = 2 ^ 52 - 1 from rfl, Nat.and_two_pow_sub_one_eq_mod] at e
  exact e
theorem or_mant (n : Nat) (h : n < 4503599627370496) : bits .or .u64 (n : Int) 4503599627370496 = ((4503599627370496 + n : Nat) : Int) := by
  have e := u64_or_nat n 4503599627370496 (by omega) (by decide)
  have h2 : 2 ^ 52 * 1 + n = 2 ^ 52 * 1 ||| n := Nat.two_pow_add_eq_or_of_lt (i := 52) (by exact h) 1
  rw [Nat.or_comm, show (4503599627370496 : Nat) = 2 ^ 52 * 1 from rfl, ← h2] at e
  exact e

theorem own_below {w W : World} {D B : Nat} {v : Value} {n : Nat} {xs : List Value} (h : w.ownsRow D 5 1 v n xs) (hv : v.ownBlock = some D) (hD : D < B) (hb : Below B w W) : W.ownsRow D 5 1 v n xs := by
  refine ⟨h.1, ?_⟩
  rcases h.2 with h2 | ⟨g, cap, cur, e, h3, h4, h5⟩
  · exact .inl h2
  · refine .inr ⟨g, cap, cur, e, h3, ?_, h5⟩
    have : g = D := by rw [e] at hv; exact Option.some.inj hv
    rw [hb.block g (by omega)]
    exact h4

/-- The decimal of a word's magnitude. -/
def dsW (b : Nat) : List Nat := if mOf b = 0 then [0] else (decOf (mOf b) (eOf b)).1
def xW (b : Nat) : Int := if mOf b = 0 then 0 else (decOf (mOf b) (eOf b)).2
def textW (b : Nat) : List UInt8 := textT (negOf b) (dsW b) (xW b)
end Go.Proofs.Qxb6615058aDoor
