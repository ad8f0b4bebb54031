/-
  Walks of strconv's small helpers: log10Pow2 (36), log2Pow10 (47), skewed (45), nudge (49), ceil (50), floor (51), round (52), bool2 (66).
-/
import Derived.Test.Qxb6615058aDoorRows
import Derived.Test.Qxb6615058aDoorShelf
import Derived.Test.Qxb6615058aDoorN8
import Derived.WalkKit
import Derived.WalkSpells
import Derived.WalkLawsBesides
import Derived.Laws.BitsAllLaws
import Derived.BigQuiet
import Derived.Deep.QuietTactic
namespace Go.Proofs.Qxb6615058aDoor
open Go.RowKit

theorem ret_i64 {a b : Int} (h : a = b) : Ending.returned (.int .i64 a) = .returned (.int .i64 b) := by rw [h]
theorem ret_u64 {a b : Int} (h : a = b) : Ending.returned (.int .u64 a) = .returned (.int .u64 b) := by rw [h]

set_option maxRecDepth 100000 in
theorem log10Pow2_any (x : Int) (w : World) (h1 : -100000 ≤ x) (h2 : x ≤ 100000) :
    Calls Tryd.prog 36 #[.int .i64 x] w fun e w' => e = .returned (.int .i64 (log10Pow2 x)) ∧ w' = w := by
  go_enter Tryd.func36, Tryd.ntmps36
  go_wp2
  go_ret
  exact ⟨rfl, rfl⟩

set_option maxRecDepth 100000 in
theorem log2Pow10_any (x : Int) (w : World) (h1 : -100000 ≤ x) (h2 : x ≤ 100000) :
    Calls Tryd.prog 47 #[.int .i64 x] w fun e w' => e = .returned (.int .i64 (log2Pow10 x)) ∧ w' = w := by
  go_enter Tryd.func47, Tryd.ntmps47
  go_wp2
  go_ret
  exact ⟨rfl, rfl⟩

set_option maxRecDepth 100000 in
theorem skewed_any (x : Int) (w : World) (h1 : -100000 ≤ x) (h2 : x ≤ 100000) :
    Calls Tryd.prog 45 #[.int .i64 x] w fun e w' => e = .returned (.int .i64 (skewed x)) ∧ w' = w := by
  go_enter Tryd.func45, Tryd.ntmps45
  go_wp2
  go_ret
  exact ⟨rfl, rfl⟩

set_option maxRecDepth 100000 in
theorem nudge_any (u : Nat) (d : Int) (w : World) (h : u < 9223372036854775808) (h1 : -1 ≤ d) (h2 : d ≤ 1) (h3 : 0 ≤ (u : Int) + d) :
    Calls Tryd.prog 49 #[.int .u64 u, .int .i64 d] w fun e w' => e = .returned (.int .u64 ((u : Int) + d)) ∧ w' = w := by
  go_enter Tryd.func49, Tryd.ntmps49
  go_wp2
  go_ret
  refine ⟨ret_u64 ?_, rfl⟩
  simp only [IntKind.wrap_u64]
  omega

set_option maxRecDepth 100000 in
theorem floor_any (u : Nat) (w : World) (h : u < 9223372036854775808) :
    Calls Tryd.prog 51 #[.int .u64 u] w fun e w' => e = .returned (.int .u64 ((u / 4 : Nat) : Int)) ∧ w' = w := by
  go_enter Tryd.func51, Tryd.ntmps51
  go_wp2
  go_ret
  refine ⟨ret_u64 ?_, rfl⟩
  (try simp only [IntKind.wrap_u64])
  omega

set_option maxRecDepth 100000 in
theorem ceil_any (u : Nat) (w : World) (h : u < 9223372036854775808) :
    Calls Tryd.prog 50 #[.int .u64 u] w fun e w' => e = .returned (.int .u64 (((u + 3) / 4 : Nat) : Int)) ∧ w' = w := by
  go_enter Tryd.func50, Tryd.ntmps50
  go_wp2
  go_ret
  refine ⟨ret_u64 ?_, rfl⟩
  (try simp only [IntKind.wrap_u64])
  omega

theorem bits_and1 (n : Nat) (h : n < 18446744073709551616) : bits BinOp.and IntKind.u64 (n : Int) 1 = ((n % 2 : Nat) : Int) := by
  have h1 := u64_and_nat n 1 h (by decide)
  rw [Nat.and_one_is_mod] at h1
  exact h1

set_option maxRecDepth 100000 in
theorem round_any (u : Nat) (w : World) (h : u < 9223372036854775808) :
    Calls Tryd.prog 52 #[.int .u64 u] w fun e w' => e = .returned (.int .u64 (roundN u : Nat)) ∧ w' = w := by
  go_enter Tryd.func52, Tryd.ntmps52
  go_wp2
  go_ret
  refine ⟨ret_u64 ?_, rfl⟩
  have e : bits BinOp.and IntKind.u64 ((u : Int) / 4) 1 = ((u / 4 % 2 : Nat) : Int) := by
    rw [show (u : Int) / 4 = ((u / 4 : Nat) : Int) by omega]
    exact bits_and1 _ (by omega)
  simp only [IntKind.wrap_u64]
  unfold roundN
  rw [e]
  omega

set_option maxRecDepth 100000 in
theorem bool2_any (b : Bool) (w : World) :
    Calls Tryd.prog 66 #[.bool b] w fun e w' => e = .returned (.int .u64 (if b then 1 else 0)) ∧ w' = w := by
  cases b
  all_goals
    go_enter Tryd.func66, Tryd.ntmps66
    go_wp2
    go_ret
    exact ⟨rfl, rfl⟩
end Go.Proofs.Qxb6615058aDoor
