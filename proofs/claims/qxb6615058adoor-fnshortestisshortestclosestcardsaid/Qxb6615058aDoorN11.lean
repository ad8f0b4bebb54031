/-
  Plain: the digits of a number, its zeros at the end left off; the decimal of a float, and that the decimals stand as the floats do.
-/
import Derived.Test.Qxb6615058aDoorN8
import Derived.Test.Qxb6615058aDoorN9
import Derived.Lib.ItoaNum
namespace Go.Proofs.Qxb6615058aDoor
open Go.Lib

/-- Digit t (from the left) of u, written in n places. -/
def dgt (u n t : Nat) : Nat := u / 10 ^ (n - 1 - t) % 10
theorem dgt_lt (u n t : Nat) : dgt u n t < 10 := Nat.mod_lt _ (by decide)

/-- How many digits are left when the zeros at the end are struck, the first k places looked at. -/
def nzAt (u n : Nat) : Nat → Nat
  | 0 => 0
  | k + 1 => if dgt u n k = 0 then nzAt u n k else k + 1

theorem nzAt_le (u n : Nat) : ∀ k, nzAt u n k ≤ k
  | 0 => Nat.le_refl _
  | k + 1 => by
    unfold nzAt
    have := nzAt_le u n k
    split <;> omega

theorem nzAt_last (u n : Nat) : ∀ k, nzAt u n k = 0 ∨ dgt u n (nzAt u n k - 1) ≠ 0
  | 0 => .inl rfl
  | k + 1 => by
    unfold nzAt
    split
    · exact nzAt_last u n k
    · right; assumption

theorem nzAt_zero (u n : Nat) : ∀ k t, nzAt u n k ≤ t → t < k → dgt u n t = 0
  | 0, _, _, h => absurd h (Nat.not_lt_zero _)
  | k + 1, t, h1, h2 => by
    unfold nzAt at h1
    split at h1
    · rename_i hz
      by_cases e : t = k
      · rw [e]; exact hz
      · exact nzAt_zero u n k t h1 (by omega)
    · omega

/-- The first k digits. -/
def digs (u n k : Nat) : List Nat := (List.range k).map (dgt u n)
theorem digs_len (u n k : Nat) : (digs u n k).length = k := by simp [digs]
theorem digs_lt (u n k : Nat) : ∀ d ∈ digs u n k, d < 10 := by
  intro d hd
  unfold digs at hd
  obtain ⟨t, _, rfl⟩ := List.mem_map.1 hd
  exact dgt_lt ..

theorem valD_snoc (l : List Nat) (a : Nat) : valD (l ++ [a]) = 10 * valD l + a := by
  induction l with
  | nil => simp [valD]
  | cons b x ih =>
    simp only [List.cons_append, valD, ih, List.length_append, List.length_cons, List.length_nil, Nat.pow_succ]
    generalize 10 ^ x.length = X
    rw [show b * (X * 10) = 10 * (b * X) by rw [← Nat.mul_assoc, Nat.mul_comm]]
    omega

theorem valD_digs (u n : Nat) (hu : u < 10 ^ n) : ∀ k, k ≤ n → valD (digs u n k) = u / 10 ^ (n - k)
  | 0, _ => by
    simp only [digs, List.range_zero, List.map_nil, valD, Nat.sub_zero]
    rw [Nat.div_eq_of_lt hu]
  | k + 1, h => by
    have ih := valD_digs u n hu k (by omega)
    unfold digs at ih ⊢
    rw [List.range_succ, List.map_append, List.map_cons, List.map_nil, valD_snoc, ih]
    unfold dgt
    rw [show n - k = n - (k + 1) + 1 by omega, Nat.pow_succ, ← Nat.div_div_eq_div_mul, show n - 1 - k = n - (k + 1) by omega]
    omega

theorem nDigits_lo (u : Nat) (h : 0 < u) : 10 ^ (nDigits u - 1) ≤ u := by
  induction u using Nat.strongRecOn with
  | _ u ih =>
    by_cases hb : u < 10
    · rw [nDigits_small hb]; exact h
    · rw [nDigits_big hb]
      have h1 := ih (u / 10) (Nat.div_lt_self h (by decide)) (by omega)
      have h2 := nDigits_pos (u / 10)
      rw [show nDigits (u / 10) + 1 - 1 = nDigits (u / 10) - 1 + 1 by omega, Nat.pow_succ]
      generalize 10 ^ (nDigits (u / 10) - 1) = A at *
      omega

theorem nDigits_hi (u : Nat) : u < 10 ^ nDigits u := by
  induction u using Nat.strongRecOn with
  | _ u ih =>
    by_cases hb : u < 10
    · rw [nDigits_small hb]; simpa using hb
    · rw [nDigits_big hb]
      have h1 := ih (u / 10) (Nat.div_lt_self (by omega) (by decide))
      rw [Nat.pow_succ]
      generalize 10 ^ (nDigits (u / 10)) = A at *
      omega

/-- The digits that are left of u. -/
def nz (u : Nat) : Nat := nzAt u (nDigits u) (nDigits u)

theorem dgt_head (u : Nat) (h : 0 < u) : dgt u (nDigits u) 0 ≠ 0 := by
  have h1 := nDigits_lo u h
  have h2 := nDigits_hi u
  have h3 := nDigits_pos u
  unfold dgt
  rw [Nat.sub_zero]
  rw [show 10 ^ nDigits u = 10 ^ (nDigits u - 1) * 10 by rw [← Nat.pow_succ]; congr 1; omega] at h2
  have h4 : 0 < u / 10 ^ (nDigits u - 1) := Nat.div_pos h1 (Nat.pow_pos (by decide))
  have h5 : u / 10 ^ (nDigits u - 1) < 10 := Nat.div_lt_of_lt_mul h2
  omega

theorem nz_pos (u : Nat) (h : 0 < u) : 1 ≤ nz u := by
  rcases Nat.eq_zero_or_pos (nz u) with e | e
  · exact absurd (nzAt_zero u (nDigits u) (nDigits u) 0 (by unfold nz at e; omega) (nDigits_pos u)) (dgt_head u h)
  · exact e
theorem nz_le (u : Nat) : nz u ≤ nDigits u := nzAt_le ..
theorem nz_last (u : Nat) (h : 0 < u) : dgt u (nDigits u) (nz u - 1) ≠ 0 := (nzAt_last u (nDigits u) (nDigits u)).resolve_left (by have := nz_pos u h; unfold nz at this; omega)

/-- What is struck is zeros. -/
theorem strip_mod (u n : Nat) : ∀ j, j ≤ n → (∀ t, n - j ≤ t → t < n → dgt u n t = 0) → u % 10 ^ j = 0
  | 0, _, _ => by simp [Nat.mod_one]
  | j + 1, hj, h => by
    have ih := strip_mod u n j (by omega) (fun t h1 h2 => h t (by omega) h2)
    have hd := h (n - (j + 1)) (Nat.le_refl _) (by omega)
    unfold dgt at hd
    rw [show n - 1 - (n - (j + 1)) = j by omega] at hd
    rw [Nat.pow_succ, Nat.mod_mul, ih, hd]
    simp

theorem nz_val (u : Nat) : u = valD (digs u (nDigits u) (nz u)) * 10 ^ (nDigits u - nz u) := by
  have hle := nz_le u
  rw [valD_digs u _ (nDigits_hi u) _ hle]
  have hz := strip_mod u (nDigits u) (nDigits u - nz u) (by omega) (fun t h1 h2 => nzAt_zero u _ _ t (by unfold nz at h1 hle; omega) h2)
  have := Nat.div_add_mod u (10 ^ (nDigits u - nz u))
  rw [hz, Nat.add_zero, Nat.mul_comm] at this
  exact this.symm

/-- The decimal of the float m * 2^E: its digits and its exponent. -/
def decOf (m : Nat) (E : Int) : List Nat × Int :=
  (digs (shortN m E).1 (nDigits (shortN m E).1) (nz (shortN m E).1), (nDigits (shortN m E).1 : Int) + (shortN m E).2 - 1)

theorem short_pos {m : Nat} {E : Int} (hf : IsFloat m E) : 0 < (shortN m E).1 := by
  have h := short_lies hf
  rcases Nat.eq_zero_or_pos (shortN m E).1 with e | e
  · exfalso
    unfold Lies at h
    rw [e] at h
    have hy : 0 < yLo m E * P2 E := Nat.mul_pos (by have := hf.pos; unfold yLo; split <;> omega) (P2_pos E)
    simp only [Nat.mul_zero, Nat.zero_mul] at h
    split at h <;> omega
  · exact e

theorem short_q {m : Nat} {E : Int} (hf : IsFloat m E) : -347 ≤ (shortN m E).2 ∧ (shortN m E).2 ≤ 349 := by
  have h := pOf_range hf
  obtain ⟨_, _, h1 | h1⟩ := short_in hf <;> omega

theorem short_lt {m : Nat} {E : Int} (hf : IsFloat m E) : (shortN m E).1 < 100000000000000000 := by
  obtain ⟨d, hi, h⟩ := short_in hf
  have hd : (shortN m E).1 ≤ d := by rcases h with h | h <;> omega
  have hD := fracD_pos E (pOf m E)
  have hu : 4 * fracD E (pOf m E) * d ≤ yHi m * fracN E (pOf m E) := by
    unfold Inside at hi
    split at hi <;> omega
  have hm := hf.lt
  have hN : yHi m * fracN E (pOf m E) < 400000000000000000 * fracD E (pOf m E) := by
    rcases wide hf with ⟨_, _, _, _, h⟩ | ⟨he, _, _, _, _, h⟩
    · have h1 : yHi m * fracN E (pOf m E) ≤ 36028797018963970 * (10 * fracD E (pOf m E)) := Nat.mul_le_mul (by unfold yHi; omega) (by omega)
      omega
    · have he2 : m = 4503599627370496 := by unfold edge at he; simp at he; exact he.1
      have h1 : yHi m * fracN E (pOf m E) ≤ 18014398509481990 * (14 * fracD E (pOf m E)) := Nat.mul_le_mul (by unfold yHi; omega) (by omega)
      omega
  generalize fracD E (pOf m E) = D at *
  have h5 : D * (4 * d) < D * 400000000000000000 := by
    have e1 : D * (4 * d) = 4 * D * d := by ac_rfl
    have e2 : D * 400000000000000000 = 400000000000000000 * D := Nat.mul_comm _ _
    omega
  have := Nat.lt_of_mul_lt_mul_left h5
  omega

theorem short_nd {m : Nat} {E : Int} (hf : IsFloat m E) : nDigits (shortN m E).1 ≤ 17 := by
  have h1 := nDigits_lo _ (short_pos hf)
  have h2 := short_lt hf
  rcases Nat.lt_or_ge 17 (nDigits (shortN m E).1) with h | h
  · have h3 : 10 ^ 17 ≤ 10 ^ (nDigits (shortN m E).1 - 1) := Nat.pow_le_pow_right (by decide) (by omega)
    omega
  · exact h

/-- The digits of a decimal as the texts bear them. -/
structure DecOk (ds : List Nat) (x : Int) : Prop where
  len : 1 ≤ ds.length ∧ ds.length ≤ 17
  lt : ∀ d ∈ ds, d < 10
  head : ds.head? ≠ some 0
  last : ds.getLast? ≠ some 0
  exp : -347 ≤ x ∧ x ≤ 365

theorem dec_ok {m : Nat} {E : Int} (hf : IsFloat m E) : DecOk (decOf m E).1 (decOf m E).2 := by
  have h0 := short_pos hf
  have h1 := nz_pos _ h0
  have h2 := nz_le (shortN m E).1
  have h3 := short_nd hf
  have h4 := nDigits_pos (shortN m E).1
  have h5 := short_q hf
  have h6 := dgt_head _ h0
  have h7 := nz_last _ h0
  unfold decOf
  generalize (shortN m E).1 = u at *
  generalize (shortN m E).2 = q at *
  refine ⟨⟨by rw [digs_len]; exact h1, by rw [digs_len]; omega⟩, digs_lt _ _ _, ?_, ?_, ?_⟩
  · unfold digs
    obtain ⟨k, hk⟩ : ∃ k, nz u = k + 1 := ⟨nz u - 1, by omega⟩
    rw [hk, List.range_succ_eq_map]
    simp only [List.map_cons, List.head?_cons, ne_eq, Option.some.injEq]
    exact h6
  · unfold digs
    obtain ⟨k, hk⟩ : ∃ k, nz u = k + 1 := ⟨nz u - 1, by omega⟩
    rw [hk] at h7 ⊢
    rw [List.range_succ, List.map_append, List.map_cons, List.map_nil, List.getLast?_concat]
    simpa using h7
  · show -347 ≤ (nDigits u : Int) + q - 1 ∧ (nDigits u : Int) + q - 1 ≤ 365
    omega

theorem valD_head {ds : List Nat} (h1 : 1 ≤ ds.length) (hd : ds.head? ≠ some 0) : 10 ^ (ds.length - 1) ≤ valD ds := by
  cases ds with
  | nil => simp at h1
  | cons a x =>
    have ha : 1 ≤ a := by
      simp only [List.head?_cons, ne_eq, Option.some.injEq] at hd
      omega
    simp only [valD, List.length_cons, Nat.add_sub_cancel]
    have := Nat.mul_le_mul_right (10 ^ x.length) ha
    omega

theorem P10_step (q : Int) (h : -400 ≤ q) : ∀ k : Nat, P10 (q + k) = 10 ^ k * P10 q
  | 0 => by
    rw [show q + ((0 : Nat) : Int) = q by omega, Nat.pow_zero, Nat.one_mul]
  | k + 1 => by
    have h1 := P10_step q h k
    rw [show q + ((k + 1 : Nat) : Int) = (q + k) + 1 by omega, P10_ten _ (by omega), h1, Nat.pow_succ]
    generalize P10 q = Q
    generalize 10 ^ k = K
    ac_rfl
theorem P10_eq (q r : Int) (k : Nat) (h : -400 ≤ q) (e : r = q + k) : P10 r = 10 ^ k * P10 q := by
  rw [e]; exact P10_step q h k

/-- The decimals stand as the floats do. -/
theorem dec_order {m1 m2 : Nat} {E1 E2 : Int} (h1 : IsFloat m1 E1) (h2 : IsFloat m2 E2) (hlt : E1 < E2 ∨ E1 = E2 ∧ m1 < m2) :
    (decOf m1 E1).2 < (decOf m2 E2).2 ∨ (decOf m1 E1).2 = (decOf m2 E2).2 ∧ cmpL (decOf m1 E1).1 (decOf m2 E2).1 = -1 := by
  have ho := order h1 h2 hlt (short_lies h1) (short_lies h2)
  have k1 := dec_ok h1
  have k2 := dec_ok h2
  have v1 := nz_val (shortN m1 E1).1
  have v2 := nz_val (shortN m2 E2).1
  have q1 := short_q h1
  have q2 := short_q h2
  have n1 := nz_le (shortN m1 E1).1
  have n2 := nz_le (shortN m2 E2).1
  have l1 : (decOf m1 E1).1.length = nz (shortN m1 E1).1 := digs_len ..
  have l2 : (decOf m2 E2).1.length = nz (shortN m2 E2).1 := digs_len ..
  have x1 : (decOf m1 E1).2 = (nDigits (shortN m1 E1).1 : Int) + (shortN m1 E1).2 - 1 := rfl
  have x2 : (decOf m2 E2).2 = (nDigits (shortN m2 E2).1 : Int) + (shortN m2 E2).2 - 1 := rfl
  change (shortN m1 E1).1 = valD (decOf m1 E1).1 * _ at v1
  change (shortN m2 E2).1 = valD (decOf m2 E2).1 * _ at v2
  generalize (decOf m1 E1).1 = ds1 at *
  generalize (decOf m2 E2).1 = ds2 at *
  generalize (decOf m1 E1).2 = y1 at *
  generalize (decOf m2 E2).2 = y2 at *
  generalize (shortN m1 E1).1 = u1 at *
  generalize (shortN m2 E2).1 = u2 at *
  generalize (shortN m1 E1).2 = p1 at *
  generalize (shortN m2 E2).2 = p2 at *
  -- both as v * 10^(y - len + 1)
  have e1 : u1 * P10 p1 = valD ds1 * P10 (y1 - ds1.length + 1) := by
    rw [P10_eq p1 (y1 - ds1.length + 1) (nDigits u1 - nz u1) (by omega) (by omega), ← Nat.mul_assoc, ← v1]
  have e2 : u2 * P10 p2 = valD ds2 * P10 (y2 - ds2.length + 1) := by
    rw [P10_eq p2 (y2 - ds2.length + 1) (nDigits u2 - nz u2) (by omega) (by omega), ← Nat.mul_assoc, ← v2]
  rw [e1, e2] at ho
  have a1 := k1.len
  have a2 := k2.len
  have b1 := k1.exp
  have b2 := k2.exp
  have c1 := valD_head a1.1 k1.head
  have c2 := valD_lt ds2 k2.lt
  rcases Int.lt_trichotomy y1 y2 with h | h | h
  · exact .inl h
  · refine .inr ⟨h, cmpL_lt ds1 ds2 k1.lt k2.lt ?_⟩
    subst h
    -- over the common 10^(y - len1 - len2 + 1)
    have f1 : P10 (y1 - ds1.length + 1) = 10 ^ ds2.length * P10 (y1 - ds1.length - ds2.length + 1) := P10_eq _ _ _ (by omega) (by omega)
    have f2 : P10 (y1 - ds2.length + 1) = 10 ^ ds1.length * P10 (y1 - ds1.length - ds2.length + 1) := P10_eq _ _ _ (by omega) (by omega)
    rw [f1, f2, ← Nat.mul_assoc, ← Nat.mul_assoc] at ho
    exact Nat.lt_of_mul_lt_mul_right ho
  · exfalso
    -- v1 * 10^(..) >= 10^y1 >= 10^(y2+1) > v2 * ..
    have f1 : P10 y1 ≤ valD ds1 * P10 (y1 - ds1.length + 1) := by
      have e : P10 y1 = 10 ^ (ds1.length - 1) * P10 (y1 - ds1.length + 1) := P10_eq _ _ _ (by omega) (by omega)
      rw [e]
      exact Nat.mul_le_mul_right _ c1
    have f2 : valD ds2 * P10 (y2 - ds2.length + 1) ≤ P10 (y2 + 1) := by
      have e : P10 (y2 + 1) = 10 ^ ds2.length * P10 (y2 - ds2.length + 1) := P10_eq _ _ _ (by omega) (by omega)
      rw [e]
      exact Nat.mul_le_mul_right _ (Nat.le_of_lt c2)
    have f3 : P10 (y2 + 1) ≤ P10 y1 := by
      have e : P10 y1 = 10 ^ (y1 - y2 - 1).toNat * P10 (y2 + 1) := P10_eq _ _ _ (by omega) (by omega)
      rw [e]
      exact Nat.le_mul_of_pos_left _ (Nat.pow_pos (by decide))
    omega
end Go.Proofs.Qxb6615058aDoor
