/-
  Walks: prescale (46), uscale (48).
-/
import Derived.Test.Qxb6615058aDoorW1
namespace Go.Proofs.Qxb6615058aDoor
open Go.RowKit

theorem and63 (s : Nat) (hs : s < 64) : bits BinOp.and IntKind.i64 (s : Int) 63 = (s : Int) := by
  have h : ∀ i : Fin 64, bits BinOp.and IntKind.i64 ((i.val : Nat) : Int) 63 = ((i.val : Nat) : Int) := by decide +kernel
  exact h ⟨s, hs⟩

theorem shr_nat (n s : Nat) : (n : Int) / 2 ^ s = ((n / 2 ^ s : Nat) : Int) := by
  rw [Int.natCast_ediv]
  norm_cast

theorem shl_back (n s : Nat) (hn : n < 18446744073709551616) : ((IntKind.u64.wrap ((n : Int) / 2 ^ s * 2 ^ s)) != (n : Int)) = decide (n % 2 ^ s ≠ 0) := by
  have h1 := Nat.div_add_mod n (2 ^ s)
  have e : (n : Int) / 2 ^ s * 2 ^ s = ((n / 2 ^ s * 2 ^ s : Nat) : Int) := by
    rw [shr_nat]
    norm_cast
  rw [e, IntKind.wrap_u64]
  rw [Nat.mul_comm] at h1
  generalize n / 2 ^ s * 2 ^ s = a at *
  rw [Bool.eq_iff_iff]
  simp
  omega

/-- Where the low bits of the product's head are not all nought. -/
theorem uscale_head {x h l s : Nat} (hne : x * h / 18446744073709551616 % 2 ^ s ≠ 0) : uscaleN x h l s = x * h / 18446744073709551616 / 2 ^ s ||| 1 := by
  unfold uscaleN
  dsimp only
  rw [if_pos hne]
theorem uscale_tail {x h l s : Nat} (hz : x * h / 18446744073709551616 % 2 ^ s = 0) : uscaleN x h l s = (if x * h % 18446744073709551616 < x * l / 18446744073709551616 then x * h / 18446744073709551616 - 1 else x * h / 18446744073709551616) / 2 ^ s ||| (if 1 < (x * h % 18446744073709551616 + 18446744073709551616 - x * l / 18446744073709551616) % 18446744073709551616 then 1 else 0) := by
  unfold uscaleN
  dsimp only
  rw [if_neg (by simpa using hz)]

set_option maxRecDepth 100000 in
set_option maxHeartbeats 1000000 in
theorem uscale_any (C x h l s : Nat) (w : World) (hx : x < 18446744073709551616) (hh : h < 18446744073709551616) (hl : l < 18446744073709551616) (hs : s < 64) (hpos : 18446744073709551616 ≤ x * h)
    (c0 : w.cell? ⟨C, 0, none⟩ = some (.int .u64 h)) (c1 : w.cell? ⟨C, 1, none⟩ = some (.int .u64 l)) (c2 : w.cell? ⟨C, 2, none⟩ = some (.int .i64 s)) :
    Calls Tryd.prog 48 #[.int .u64 x, .pointer (some ⟨C, 0, none⟩)] w fun e w' => e = .returned (.int .u64 (uscaleN x h l s : Nat)) ∧ ∃ m, w' = w.drewN m := by
  have hm1 := Tryd.bits_Mul64 x h hx hh w
  have hm2 := Tryd.bits_Mul64 x l hx hl w
  have HH : Hid (x * h / 18446744073709551616 % 2 ^ s ≠ 0 → uscaleN x h l s = x * h / 18446744073709551616 / 2 ^ s ||| 1) := uscale_head
  have HZ : Hid (x * h / 18446744073709551616 % 2 ^ s = 0 → uscaleN x h l s = (if x * h % 18446744073709551616 < x * l / 18446744073709551616 then x * h / 18446744073709551616 - 1 else x * h / 18446744073709551616) / 2 ^ s ||| (if 1 < (x * h % 18446744073709551616 + 18446744073709551616 - x * l / 18446744073709551616) % 18446744073709551616 then 1 else 0)) := uscale_tail
  have b1 : x * h / 18446744073709551616 < 18446744073709551616 := by
    refine Nat.div_lt_of_lt_mul ?_
    have := Nat.mul_le_mul (show x ≤ 18446744073709551615 by omega) (show h ≤ 18446744073709551615 by omega)
    omega
  have b2 : x * h % 18446744073709551616 < 18446744073709551616 := Nat.mod_lt _ (by decide)
  have b3 : x * l / 18446744073709551616 < 18446744073709551616 := by
    refine Nat.div_lt_of_lt_mul ?_
    have := Nat.mul_le_mul (show x ≤ 18446744073709551615 by omega) (show l ≤ 18446744073709551615 by omega)
    omega
  have b4 : 1 ≤ x * h / 18446744073709551616 := (Nat.le_div_iff_mul_le (by decide)).2 (by omega)
  clear hpos
  generalize x * h / 18446744073709551616 = hi at *
  generalize x * h % 18446744073709551616 = mid at *
  generalize x * l / 18446744073709551616 = mid2 at *
  generalize x * l % 18446744073709551616 = low2 at *
  have HM1 : Hid (Calls Tryd.prog 65 #[.int .u64 x, .int .u64 h] w fun e w' => e = .returned (.tuple #[.int .u64 (hi : Nat), .int .u64 (mid : Nat)]) ∧ w' = w) := hm1
  have HM2 : Hid (Calls Tryd.prog 65 #[.int .u64 x, .int .u64 l] w fun e w' => e = .returned (.tuple #[.int .u64 (mid2 : Nat), .int .u64 (low2 : Nat)]) ∧ w' = w) := hm2
  clear hm1 hm2
  have es := and63 s hs
  have hsb := shl_back hi s b1
  by_cases hne : hi % 2 ^ s = 0
  · rw [decide_eq_false (by simpa using hne)] at hsb
    have HU := HZ.out hne
    have HUU : Hid _ := HU
    clear HU HH HZ hne
    go_enter Tryd.func48, Tryd.ntmps48
    go_wp2_with fail
    refine HM1.out.mono ?_
    rintro e w1 ⟨rfl, rfl⟩
    go_wp2_with fail
    refine HM2.out.mono ?_
    rintro e w1 ⟨rfl, rfl⟩
    go_wp2_with fail
    refine (bool2_any _ w1).mono ?_
    rintro e w2 ⟨rfl, rfl⟩
    have hdw : IntKind.u64.wrap ((mid : Int) - mid2) = (((mid + 18446744073709551616 - mid2) % 18446744073709551616 : Nat) : Int) := by
      rw [IntKind.wrap_u64]; omega
    generalize (mid + 18446744073709551616 - mid2) % 18446744073709551616 = dd at *
    by_cases hm : mid < mid2
    · rw [if_pos hm] at HUU
      rw [decide_eq_true hm]
      have hw1 : IntKind.u64.wrap ((hi : Int) - 1) = ((hi - 1 : Nat) : Int) := by rw [IntKind.wrap_u64]; omega
      have b5 : hi - 1 < 18446744073709551616 := by omega
      generalize hi - 1 = hj at *
      by_cases hd : 1 < dd
      · have hd' : (1 : Int) < (dd : Int) := by omega
        rw [if_pos hd] at HUU
        go_wp2_with fail
        go_quiet ((go_at_call 66; exact Calls.quiet_of_same (bool2_any _ _)))
        go_wp2_with fail
        go_ret
        refine ⟨ret_u64 ?_, _, rfl⟩
        rw [HUU.out, shr_nat]
        exact u64_or_nat (hj / 2 ^ s) 1 (Nat.lt_of_le_of_lt (Nat.div_le_self _ _) (by omega)) (by decide)
      · have hd' : decide ((1 : Int) < (dd : Int)) = false := by simp; omega
        rw [if_neg hd] at HUU
        go_wp2_with fail
        go_quiet ((go_at_call 66; exact Calls.quiet_of_same (bool2_any _ _)))
        go_wp2_with fail
        go_ret
        refine ⟨ret_u64 ?_, _, rfl⟩
        rw [HUU.out, shr_nat]
        exact u64_or_nat (hj / 2 ^ s) 0 (Nat.lt_of_le_of_lt (Nat.div_le_self _ _) (by omega)) (by decide)
    · rw [if_neg hm] at HUU
      rw [decide_eq_false hm]
      by_cases hd : 1 < dd
      · have hd' : (1 : Int) < (dd : Int) := by omega
        rw [if_pos hd] at HUU
        go_wp2_with fail
        go_quiet ((go_at_call 66; exact Calls.quiet_of_same (bool2_any _ _)))
        go_wp2_with fail
        go_ret
        refine ⟨ret_u64 ?_, _, rfl⟩
        rw [HUU.out, shr_nat]
        exact u64_or_nat (hi / 2 ^ s) 1 (Nat.lt_of_le_of_lt (Nat.div_le_self _ _) (by omega)) (by decide)
      · have hd' : decide ((1 : Int) < (dd : Int)) = false := by simp; omega
        rw [if_neg hd] at HUU
        go_wp2_with fail
        go_quiet ((go_at_call 66; exact Calls.quiet_of_same (bool2_any _ _)))
        go_wp2_with fail
        go_ret
        refine ⟨ret_u64 ?_, _, rfl⟩
        rw [HUU.out, shr_nat]
        exact u64_or_nat (hi / 2 ^ s) 0 (Nat.lt_of_le_of_lt (Nat.div_le_self _ _) (by omega)) (by decide)
  · rw [decide_eq_true (by simpa using hne)] at hsb
    have HU := HH.out hne
    have HUU : Hid _ := HU
    clear HU HH HZ hne
    go_enter Tryd.func48, Tryd.ntmps48
    go_wp2_with fail
    refine HM1.out.mono ?_
    rintro e w1 ⟨rfl, rfl⟩
    go_wp2_with fail
    go_ret
    refine ⟨ret_u64 ?_, 0, rfl⟩
    rw [HUU.out, shr_nat]
    have hlt : hi / 2 ^ s < 18446744073709551616 := Nat.lt_of_le_of_lt (Nat.div_le_self _ _) b1
    exact u64_or_nat (hi / 2 ^ s) 1 hlt (by decide)

set_option maxRecDepth 100000 in
set_option maxHeartbeats 1000000 in
theorem prescale_any (C i h l s : Nat) (e p lp : Int) (w : World) (hC : C ≠ 2) (hi : i < 696) (hp : p + 348 = (i : Int)) (g0 : w.cell? ⟨2, i * 2, none⟩ = some (.int .u64 h)) (g1 : w.cell? ⟨2, i * 2 + 1, none⟩ = some (.int .u64 l))
    (b0 : (w.cell? ⟨C, 0, none⟩).isSome = true) (b1 : (w.cell? ⟨C, 1, none⟩).isSome = true) (b2 : (w.cell? ⟨C, 2, none⟩).isSome = true) (f0 : w.frozen? ⟨C, 0, none⟩ = false) (f1 : w.frozen? ⟨C, 1, none⟩ = false) (f2 : w.frozen? ⟨C, 2, none⟩ = false) (he : -100000 ≤ e) (he2 : e ≤ 100000) (hl : -100000 ≤ lp) (hl2 : lp ≤ 100000) (hs : (s : Int) = -(e + lp + 3)) :
    Calls Tryd.prog 46 #[.pointer (some ⟨C, 0, none⟩), .int .i64 e, .int .i64 p, .int .i64 lp] w fun e w' => e = .returned (.tuple #[]) ∧ w' = ((w.setCell ⟨C, 0, none⟩ (.int .u64 h)).setCell ⟨C, 1, none⟩ (.int .u64 l)).setCell ⟨C, 2, none⟩ (.int .i64 s) := by
  obtain ⟨v0, q0⟩ := Option.isSome_iff_exists.1 b0
  obtain ⟨v1, q1⟩ := Option.isSome_iff_exists.1 b1
  obtain ⟨v2, q2⟩ := Option.isSome_iff_exists.1 b2
  have z1 : wrap64 (p + 348) = (i : Int) := by unfold wrap64; omega
  have z2 : (i : Int) < 696 := by omega
  have z3 : IntKind.i64.wrap (p + 348) = (i : Int) := by rw [IntKind.wrap_i64]; omega
  have z4 : IntKind.i64.wrap (p - -348) = (i : Int) := by rw [IntKind.wrap_i64]; omega
  have z5 : ¬ (2 : Nat) = C := fun h => hC h.symm
  have z6 : ¬ C = 2 := hC
  clear b0 b1 b2 hC hp
  go_enter Tryd.func46, Tryd.ntmps46
  go_wp2_with fail
  go_end0
  exact ⟨rfl, by rw [hs]⟩
end Go.Proofs.Qxb6615058aDoor
