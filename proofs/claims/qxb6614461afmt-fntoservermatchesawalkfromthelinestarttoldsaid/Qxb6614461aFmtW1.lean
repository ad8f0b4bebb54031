import Derived.Test.Qxb6614461aFmtF2
import Derived.Test.Qxb6614461aFmtShelf
import Derived.WalkLawsBesides
import Derived.BigQuiet
import Derived.Deep.QuietTactic
import Derived.Deep.RegionHeld3
namespace Go.Proofs.Qxb6614461aFmt
open Go.RowKit Go.Lib Go.Extern.Stop Go.Stop Go.Extern

/-- The UTF-16 units of a rune, -1 where it has none. -/
def ru (r : Int) : Int := if (0 ≤ r ∧ r < 55296) ∨ (57344 ≤ r ∧ r < 65536) then 1 else if 65536 ≤ r ∧ r ≤ 1114111 then 2 else -1

set_option maxHeartbeats 800000 in
theorem runeLen_any (r : Int) (w : World) :
    Calls Tryf.prog 27 #[.int .i32 r] w fun e w' => e = .returned (.int .i64 (ru r)) ∧ w' = w := by
  go_enter Tryf.func27, Tryf.ntmps27
  go_wp2
  all_goals
    go_ret
    refine ⟨?_, rfl⟩
    unfold ru
    first
      | (rw [if_pos (by omega)]; rfl)
      | (rw [if_neg (by omega), if_pos (by omega)]; rfl)
      | (rw [if_neg (by omega), if_neg (by omega)]; rfl)

/-- The two names that 'units' knows. -/
def isU8 (enc : ByteArray) : Bool := enc.toList == [117, 116, 102, 45, 56]
def isU16 (enc : ByteArray) : Bool := enc.toList == [117, 116, 102, 45, 49, 54]
def isU32 (enc : ByteArray) : Bool := enc.toList == [117, 116, 102, 45, 51, 50]

/-- What a spot counts in an encoding. -/
def unitsOf (enc : ByteArray) (off p u st : Int) : Int :=
  if isU8 enc then off - st else if isU16 enc then u else p

set_option maxHeartbeats 800000 in
theorem units_any (off p u st en : Int) (enc : ByteArray) (w : World) (h1 : 0 ≤ off - st) (h2 : off - st < 4294967296) :
    Calls Tryf.prog 16 #[.agg #[.int .i64 off, .int .i64 p, .int .i64 u], .string enc, .agg #[.int .i64 st, .int .i64 en]] w fun e w' => e = .returned (.int .i64 (unitsOf enc off p u st)) ∧ Below w.heap.size w w' := by
  have hb : ∀ o1 o2, Below w.heap.size w ((w.alloc o1).alloc o2) := fun o1 o2 => ((Below.refl _ _).alloc (Nat.le_refl _) o1).alloc (by simp) o2
  go_enter Tryf.func16, Tryf.ntmps16
  go_wp2
  all_goals
    go_ret
    refine ⟨?_, hb _ _⟩
    simp [unitsOf, isU8, isU16, *]

set_option maxHeartbeats 800000 in
theorem checkEncoding_ok (enc : ByteArray) (w : World) (hk : (isU8 enc || isU16 enc || isU32 enc) = true) :
    Calls Tryf.prog 14 #[.string enc] w fun e w' => e = .returned .nilIface ∧ w' = w := by
  unfold isU8 isU16 isU32 at hk
  go_enter Tryf.func14, Tryf.ntmps14
  go_wp2
  all_goals first | (go_ret; exact ⟨rfl, rfl⟩) | (exfalso; simp_all; done)

set_option maxHeartbeats 800000 in
theorem checkEncoding_no (F : Interp) (enc : ByteArray) (w : World) (hF : F.answers w.tape) (hk : (isU8 enc || isU16 enc || isU32 enc) = false) :
    Calls Tryf.prog 14 #[.string enc] w fun e w' => ∃ a, e = .returned (.iface 72 (.pointer (some a))) ∧ Below w.heap.size w w' := by
  unfold isU8 isU16 isU32 at hk
  simp only [Bool.or_eq_false_iff] at hk
  obtain ⟨⟨k1, k2⟩, k3⟩ := hk
  go_enter Tryf.func14, Tryf.ntmps14
  go_wp2_with fail
  refine (errorf3 F w.heap.size enc _ (by exact hF) (by go_simp)).mono ?_
  rintro e w1 ⟨a, rfl, h1⟩
  go_wp2
  go_ret
  exact ⟨a, rfl, ((Below.refl _ _).alloc (Nat.le_refl _) _).trans (h1.mono (by simp))⟩
end Go.Proofs.Qxb6614461aFmt
