/-
  Walks: zzDigit (15), zzClass (20), zzSignBit (8), zzCanon (12).
-/
import Derived.Test.Qxb6615058aDoorRows
import Derived.Test.Qxb6615058aDoorN12
import Derived.Test.Qxb6615058aDoorN13
import Derived.WalkKit
import Derived.WalkSpells
import Derived.WalkLawsBesides
import Derived.Laws.BitsAllLaws
import Derived.Laws.FloatArith
namespace Go.Proofs.Qxb6615058aDoor
open Go.RowKit

theorem ret_bool {a b : Bool} (h : a = b) : Ending.returned (.bool a) = .returned (.bool b) := by rw [h]

def isD (c : Nat) : Bool := decide (48 ≤ c) && decide (c ≤ 57)

set_option maxRecDepth 100000 in
theorem digit_any (c : Nat) (w : World) :
    Calls Tryd.prog 15 #[.int .u8 c] w fun e w' => e = .returned (.bool (isD c)) ∧ w' = w := by
  by_cases h1 : 48 ≤ c
  · have x1 : (c : Int) ≥ 48 := by omega
    have x1' : (48 : Int) ≤ c := by omega
    have x1'' : decide ((c : Int) ≥ 48) = true := by simp; omega
    by_cases h2 : c ≤ 57
    · have x2 : (c : Int) ≤ 57 := by omega
      have x2'' : decide ((c : Int) ≤ 57) = true := by simp; omega
      have HP : Hid (isD c = true) := by rw [Hid, isD]; simp; omega
      clear h1 h2
      go_enter Tryd.func15, Tryd.ntmps15
      go_wp2_with fail
      go_ret
      exact ⟨ret_bool (by rw [HP.out]), rfl⟩
    · have x2 : ¬ (c : Int) ≤ 57 := by omega
      have x2'' : decide ((c : Int) ≤ 57) = false := by simp; omega
      have HP : Hid (isD c = false) := by rw [Hid, isD]; simp; omega
      clear h1 h2
      go_enter Tryd.func15, Tryd.ntmps15
      go_wp2_with fail
      go_ret
      exact ⟨ret_bool (by rw [HP.out]), rfl⟩
  · have x1 : ¬ (c : Int) ≥ 48 := by omega
    have x1' : ¬ (48 : Int) ≤ c := by omega
    have x1'' : decide ((c : Int) ≥ 48) = false := by simp; omega
    have HP : Hid (isD c = false) := by rw [Hid, isD]; simp; omega
    clear h1
    go_enter Tryd.func15, Tryd.ntmps15
    go_wp2_with fail
    go_ret
    exact ⟨ret_bool (by rw [HP.out]), rfl⟩

def classN (neg : Bool) (zero : Bool) : Int := if zero then 0 else if neg then -1 else 1
theorem ret_int {a b : Int} (h : a = b) : Ending.returned (.int .i64 a) = .returned (.int .i64 b) := by rw [h]

set_option maxRecDepth 100000 in
theorem class_any (neg zero : Bool) (d : ByteArray) (hd : (d.toList == [48]) = zero) (w : World) :
    Calls Tryd.prog 20 #[.bool neg, .string d] w fun e w' => e = .returned (.int .i64 (classN neg zero)) ∧ w' = w := by
  cases zero <;> cases neg
  all_goals
    go_enter Tryd.func20, Tryd.ntmps20
    go_wp2_with fail
    go_ret
    exact ⟨ret_int rfl, rfl⟩

set_option maxRecDepth 100000 in
theorem signBit_any (b : Nat) (hb : Fin64 b) (w : World) :
    Calls Tryd.prog 8 #[.float .f64 b] w fun e w' => e = .returned (.bool (negOf b)) ∧ w' = w := by
  have h0 : FloatKind.f64.format.order b 0 = _ := order_zero hb
  by_cases hz : mOf b = 0
  · rw [if_pos hz] at h0
    have hw := zero_word hb hz
    cases hn : negOf b
    · rw [hn] at hw
      simp only [Bool.false_eq_true, if_false] at hw
      have hdiv : floatBits .quo .f64 4607182418800017408 b = some 9218868437227405312 := by rw [hw]; exact inv_zero.1
      have hor : FloatKind.f64.format.order 9218868437227405312 0 = some .gt := inf_order.1
      clear hw hn hz
      have hq : ∀ (P : Program) (w : World), (binOp .quo 22 (.float .f64 4607182418800017408) (.float .f64 b)).run P w = .ok (.float .f64 9218868437227405312) w := fun P w => run_float_arith w .quo 22 .f64 _ _ _ hdiv
      go_enter Tryd.func8, Tryd.ntmps8
      go_wp2_with fail
      go_ret
      exact ⟨ret_bool rfl, rfl⟩
    · rw [hn] at hw
      simp only [if_true] at hw
      have hdiv : floatBits .quo .f64 4607182418800017408 b = some 18442240474082181120 := by rw [hw]; exact inv_zero.2
      have hor : FloatKind.f64.format.order 18442240474082181120 0 = some .lt := inf_order.2
      clear hw hn hz
      have hq : ∀ (P : Program) (w : World), (binOp .quo 22 (.float .f64 4607182418800017408) (.float .f64 b)).run P w = .ok (.float .f64 18442240474082181120) w := fun P w => run_float_arith w .quo 22 .f64 _ _ _ hdiv
      go_enter Tryd.func8, Tryd.ntmps8
      go_wp2_with fail
      go_ret
      exact ⟨ret_bool rfl, rfl⟩
  · rw [if_neg hz] at h0
    cases hn : negOf b
    · rw [hn] at h0
      simp only [Bool.false_eq_true, if_false] at h0
      clear hn hz
      go_enter Tryd.func8, Tryd.ntmps8
      go_wp2_with fail
      go_ret
      exact ⟨ret_bool rfl, rfl⟩
    · rw [hn] at h0
      simp only [if_true] at h0
      clear hn hz
      go_enter Tryd.func8, Tryd.ntmps8
      go_wp2_with fail
      go_ret
      exact ⟨ret_bool rfl, rfl⟩

/-- The digits as a string. -/
def dstr (ds : List Nat) : ByteArray := ⟨(ds.map dB).toArray⟩
theorem dstr_size (ds : List Nat) : (dstr ds).size = ds.length := by simp [dstr, ByteArray.size]
theorem dstr_get (ds : List Nat) (i : Nat) (h : i < (dstr ds).size) (hi : i < ds.length) (hlt : ∀ d ∈ ds, d < 10) : ((dstr ds)[i]'h).toNat = 48 + ds[i] := by
  have e : (dstr ds)[i]'h = (ds.map dB)[i]'(by simpa using hi) := rfl
  rw [e, List.getElem_map, dB_nat (hlt _ (List.getElem_mem hi))]
theorem dstr_one (ds : List Nat) (hlt : ∀ d ∈ ds, d < 10) : ((dstr ds).toList == [48]) = decide (ds = [0]) := by
  rw [ByteArray.toList_eq]
  show ((ds.map dB).toArray.toList == [48]) = _
  rw [List.toList_toArray]
  match ds, hlt with
  | [], _ => rfl
  | [a], h =>
    have ha := dB_nat (h a (List.mem_singleton.2 rfl))
    by_cases e : a = 0
    · subst e; rfl
    · have hne : dB a ≠ 48 := fun e2 => by rw [e2] at ha; simp at ha; omega
      simp [hne, e]
  | a :: b :: x, _ => simp

set_option maxRecDepth 100000 in
theorem canon_zero (w : World) :
    Calls Tryd.prog 12 #[.string (dstr [0])] w fun e w' => e = .returned (.bool true) ∧ w' = w := by
  have h0 : ((dstr [0]).toList == [48]) = true := by rw [dstr_one _ (by simp)]; rfl
  generalize dstr [0] = s at *
  go_enter Tryd.func12, Tryd.ntmps12
  go_wp2_with fail
  go_ret
  exact ⟨rfl, rfl⟩

set_option maxRecDepth 100000 in
theorem canon_any (ds : List Nat) (w : World) (h1 : 1 ≤ ds.length) (h2 : ds.length ≤ 100) (hlt : ∀ d ∈ ds, d < 10) (hh : ds.head? ≠ some 0) (hl : ds.getLast? ≠ some 0) :
    Calls Tryd.prog 12 #[.string (dstr ds)] w fun e w' => e = .returned (.bool true) ∧ w' = w := by
  have h0 : ((dstr ds).toList == [48]) = false := by
    rw [dstr_one _ hlt]
    simp
    intro e
    rw [e] at hh
    simp at hh
  have hs := dstr_size ds
  have k0 : 0 < (dstr ds).size := by omega
  have k1 : (dstr ds).size - 1 < (dstr ds).size := by omega
  have g0 : (((dstr ds)[0]'k0).toNat : Int) ≠ 48 := by
    rw [dstr_get ds 0 k0 (by omega) hlt]
    rw [List.head?_eq_getElem?, List.getElem?_eq_getElem (by omega : 0 < ds.length)] at hh
    simp at hh
    omega
  have g1 : (((dstr ds)[(dstr ds).size - 1]'k1).toNat : Int) ≠ 48 := by
    rw [dstr_get ds _ k1 (by omega) hlt]
    rw [List.getLast?_eq_getElem?, List.getElem?_eq_getElem (by omega : ds.length - 1 < ds.length)] at hl
    simp only [hs]
    simp at hl
    omega
  have g0' : (((((dstr ds)[0]'k0).toNat : Int)) == 48) = false := by rw [beq_eq_false_iff_ne]; exact g0
  have g1' : (((((dstr ds)[(dstr ds).size - 1]'k1).toNat : Int)) == 48) = false := by rw [beq_eq_false_iff_ne]; exact g1
  have k2 : (0 : Int) < ((dstr ds).size : Int) := by omega
  have k3 : (dstr ds).size ≤ 100 := by omega
  have k4 : decide (((dstr ds).size : Int) > 0) = true := by simp; omega
  have k5 : 0 ≤ ((dstr ds).size : Int) - 1 := by omega
  have k6 : (((dstr ds).size : Int) - 1).toNat = (dstr ds).size - 1 := by omega
  have HR : Hid (((((dstr ds)[0]'k0).toNat : Int) != 48 && (((dstr ds)[(dstr ds).size - 1]'k1).toNat : Int) != 48) = true) := by rw [Hid, bne, bne, g0', g1']; rfl
  clear hs hh hl hlt g0' g1' h1 h2
  generalize dstr ds = s at *
  have k7 : 1 ≤ (s.size : Int) ∧ (s.size : Int) - 1 < (s.size : Int) := by omega
  go_enter Tryd.func12, Tryd.ntmps12
  go_wp2_with fail
  go_ret
  exact ⟨ret_bool HR.out, rfl⟩

/-- What zzCmpMag says. -/
def magN (l1 : List Nat) (x1 : Int) (l2 : List Nat) (x2 : Int) : Int := if x1 = x2 then cmpL l1 l2 else if x1 < x2 then -1 else 1

theorem cmpL_step (l1 l2 : List Nat) (i : Nat) (h1 : i < l1.length) (h2 : i < l2.length) : cmpL (l1.drop i) (l2.drop i) = if l1[i] = l2[i] then cmpL (l1.drop (i + 1)) (l2.drop (i + 1)) else if l1[i] < l2[i] then -1 else 1 := by
  rw [List.drop_eq_getElem_cons h1, List.drop_eq_getElem_cons h2]
  rfl
theorem cmpL_end1 (l1 l2 : List Nat) (i : Nat) (h1 : l1.length ≤ i) (h2 : i < l2.length) : cmpL (l1.drop i) (l2.drop i) = -1 := by
  rw [List.drop_eq_nil_of_le h1, List.drop_eq_getElem_cons h2]
  rfl
theorem cmpL_end2 (l1 l2 : List Nat) (i : Nat) (h1 : i < l1.length) (h2 : l2.length ≤ i) : cmpL (l1.drop i) (l2.drop i) = 1 := by
  rw [List.drop_eq_nil_of_le h2, List.drop_eq_getElem_cons h1]
  rfl
theorem cmpL_end0 (l1 l2 : List Nat) (i : Nat) (h1 : l1.length ≤ i) (h2 : l2.length ≤ i) : cmpL (l1.drop i) (l2.drop i) = 0 := by
  rw [List.drop_eq_nil_of_le h2, List.drop_eq_nil_of_le h1]
  rfl

theorem cmpL_swap : ∀ a b : List Nat, cmpL b a = -cmpL a b
  | [], [] => rfl
  | [], _ :: _ => rfl
  | _ :: _, [] => rfl
  | a :: x, b :: y => by
    unfold cmpL
    by_cases h : a = b
    · rw [if_pos h, if_pos h.symm]; exact cmpL_swap x y
    · rw [if_neg h, if_neg (fun e => h e.symm)]
      by_cases hl : a < b
      · rw [if_pos hl, if_neg (by omega)]; rfl
      · rw [if_neg hl, if_pos (by omega)]
theorem magN_swap (l1 l2 : List Nat) (x1 x2 : Int) : magN l2 x2 l1 x1 = -magN l1 x1 l2 x2 := by
  unfold magN
  by_cases h : x1 = x2
  · rw [if_pos h, if_pos h.symm]; exact cmpL_swap l1 l2
  · rw [if_neg h, if_neg (fun e => h e.symm)]
    by_cases hl : x1 < x2
    · rw [if_pos hl, if_neg (by omega)]; rfl
    · rw [if_neg hl, if_pos (by omega)]
end Go.Proofs.Qxb6615058aDoor
