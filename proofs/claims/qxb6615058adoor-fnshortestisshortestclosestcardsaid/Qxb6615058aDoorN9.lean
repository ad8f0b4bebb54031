/-
  Plain: digits compared one by one stand as the fractions do.
-/
namespace Go.Proofs.Qxb6615058aDoor

/-- The number that the digits write. -/
def valD : List Nat → Nat
  | [] => 0
  | a :: x => a * 10 ^ x.length + valD x

theorem valD_lt (l : List Nat) (h : ∀ d ∈ l, d < 10) : valD l < 10 ^ l.length := by
  induction l with
  | nil => simp [valD]
  | cons a x ih =>
    have h1 := ih (fun d hd => h d (List.mem_cons_of_mem _ hd))
    have h2 : a < 10 := h a (List.mem_cons_self ..)
    simp only [valD, List.length_cons, Nat.pow_succ]
    have h3 : a * 10 ^ x.length ≤ 9 * 10 ^ x.length := Nat.mul_le_mul_right _ (by omega)
    omega

/-- As zzCmpMag goes over the digits. -/
def cmpL : List Nat → List Nat → Int
  | [], [] => 0
  | [], _ :: _ => -1
  | _ :: _, [] => 1
  | a :: x, b :: y => if a = b then cmpL x y else if a < b then -1 else 1

theorem cmpL_lt : ∀ (l1 l2 : List Nat), (∀ d ∈ l1, d < 10) → (∀ d ∈ l2, d < 10) → valD l1 * 10 ^ l2.length < valD l2 * 10 ^ l1.length → cmpL l1 l2 = -1
  | [], [], _, _, h => by simp [valD] at h
  | [], _ :: _, _, _, _ => rfl
  | a :: x, [], _, _, h => by simp [valD] at h
  | a :: x, b :: y, h1, h2, h => by
    have dx : ∀ d ∈ x, d < 10 := fun d hd => h1 d (List.mem_cons_of_mem _ hd)
    have dy : ∀ d ∈ y, d < 10 := fun d hd => h2 d (List.mem_cons_of_mem _ hd)
    have vx := valD_lt x dx
    have vy := valD_lt y dy
    simp only [valD, List.length_cons, Nat.pow_succ] at h
    have ih := cmpL_lt x y dx dy
    generalize 10 ^ x.length = X at *
    generalize 10 ^ y.length = Y at *
    have hX : 0 < X := by omega
    have hY : 0 < Y := by omega
    have e1 : (a * X + valD x) * (Y * 10) = 10 * (a * (X * Y) + valD x * Y) := by
      rw [Nat.add_mul, Nat.mul_add]
      congr 1
      · ac_rfl
      · ac_rfl
    have e2 : (b * Y + valD y) * (X * 10) = 10 * (b * (X * Y) + valD y * X) := by
      rw [Nat.add_mul, Nat.mul_add]
      congr 1
      · ac_rfl
      · ac_rfl
    rw [e1, e2] at h
    have b1 : valD x * Y < X * Y := (Nat.mul_lt_mul_right hY).2 vx
    have b2 : valD y * X < X * Y := by
      rw [Nat.mul_comm X Y]
      exact (Nat.mul_lt_mul_right hX).2 vy
    unfold cmpL
    by_cases hab : a = b
    · rw [if_pos hab]
      subst hab
      exact ih (by omega)
    · rw [if_neg hab]
      by_cases hl : a < b
      · rw [if_pos hl]
      · exfalso
        have h3 : (b + 1) * (X * Y) ≤ a * (X * Y) := Nat.mul_le_mul_right _ (by omega)
        rw [Nat.add_mul, Nat.one_mul] at h3
        omega
end Go.Proofs.Qxb6615058aDoor
