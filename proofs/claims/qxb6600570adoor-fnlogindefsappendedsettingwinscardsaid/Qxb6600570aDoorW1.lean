/-
  Walks of the law's small helpers: zzSpace1 (47), zzSpace2 (48), zzSpace3 (49).
-/
import Derived.Test.Qxb6600570aDoorRows
import Derived.Test.Qxb6600570aDoorP1
import Derived.WalkKit
import Derived.WalkSpells
import Derived.WalkLawsBesides
namespace Go.Proofs.Qxb6600570aDoor
open Go.RowKit

theorem ret_bool {a b : Bool} (h : a = b) : Ending.returned (.bool a) = .returned (.bool b) := by rw [h]

theorem u8_beq (a b : UInt8) : (a == b) = decide (a.toNat = b.toNat) := by
  rw [Bool.eq_iff_iff]
  simp [UInt8.toNat_inj]
theorem sp1_nat (a : UInt8) : sp1 a = decide (a.toNat = 32 ∨ a.toNat = 9 ∨ a.toNat = 10 ∨ a.toNat = 11 ∨ a.toNat = 12 ∨ a.toNat = 13) := by
  rw [Bool.eq_iff_iff]
  simp [sp1, u8_beq, or_assoc]
theorem sp2_nat (a b : UInt8) : sp2 a b = decide (a.toNat = 194 ∧ (b.toNat = 133 ∨ b.toNat = 160)) := by
  rw [Bool.eq_iff_iff]
  simp [sp2, u8_beq]
theorem sp3_nat (a b c : UInt8) : sp3 a b c = decide ((a.toNat = 225 ∧ b.toNat = 154 ∧ c.toNat = 128) ∨ (a.toNat = 226 ∧ b.toNat = 128 ∧ ((128 ≤ c.toNat ∧ c.toNat ≤ 138) ∨ c.toNat = 168 ∨ c.toNat = 169 ∨ c.toNat = 175)) ∨ (a.toNat = 226 ∧ b.toNat = 129 ∧ c.toNat = 159) ∨ (a.toNat = 227 ∧ b.toNat = 128 ∧ c.toNat = 128)) := by
  rw [Bool.eq_iff_iff]
  simp only [sp3, u8_beq, UInt8.le_iff_toNat_le]
  simp
  split
  · omega
  · split
    · omega
    · split
      · omega
      · omega

theorem byte_lt (a : UInt8) : a.toNat < 256 := UInt8.toNat_lt a

set_option maxRecDepth 100000 in
set_option maxHeartbeats 1600000 in
theorem space1_any (c : UInt8) (w : World) :
    Calls Tryd.prog 47 #[.int .u8 c.toNat] w fun e w' => e = .returned (.bool (sp1 c)) ∧ w' = w := by
  rw [sp1_nat]
  go_enter Tryd.func47, Tryd.ntmps47
  go_wp2
  all_goals
    go_ret
    exact ⟨ret_bool (by rw [Bool.eq_iff_iff]; simp; try omega), rfl⟩

set_option maxRecDepth 100000 in
set_option maxHeartbeats 1600000 in
theorem space2_any (a b : UInt8) (w : World) :
    Calls Tryd.prog 48 #[.int .u8 a.toNat, .int .u8 b.toNat] w fun e w' => e = .returned (.bool (sp2 a b)) ∧ w' = w := by
  rw [sp2_nat]
  go_enter Tryd.func48, Tryd.ntmps48
  go_wp2
  all_goals
    go_ret
    exact ⟨ret_bool (by rw [Bool.eq_iff_iff]; simp; try omega), rfl⟩

set_option maxRecDepth 100000 in
set_option maxHeartbeats 1600000 in
theorem space3_any (a b c : UInt8) (w : World) :
    Calls Tryd.prog 49 #[.int .u8 a.toNat, .int .u8 b.toNat, .int .u8 c.toNat] w fun e w' => e = .returned (.bool (sp3 a b c)) ∧ w' = w := by
  rw [sp3_nat]
  go_enter Tryd.func49, Tryd.ntmps49
  go_wp2
  all_goals
    go_ret
    exact ⟨ret_bool (by rw [Bool.eq_iff_iff]; simp; (try simp only [beq_eq_false_iff_ne, beq_iff_eq, ne_eq] at *); try omega), rfl⟩
end Go.Proofs.Qxb6600570aDoor
