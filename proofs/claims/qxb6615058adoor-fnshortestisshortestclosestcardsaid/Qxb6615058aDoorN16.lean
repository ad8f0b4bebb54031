/-
  Plain: whole numbers in limbs of 32 bits, the least first.
-/
namespace Go.Proofs.Qxb6615058aDoor

def natV : List Nat → Nat
  | [] => 0
  | a :: x => a + 4294967296 * natV x

/-- No zero at the top. -/
def Norm (l : List Nat) : Prop := (∀ a ∈ l, a < 4294967296) ∧ l.getLast? ≠ some 0

theorem natV_lt : ∀ l : List Nat, (∀ a ∈ l, a < 4294967296) → natV l < 4294967296 ^ l.length
  | [], _ => by simp [natV]
  | a :: x, h => by
    have h1 := natV_lt x (fun b hb => h b (List.mem_cons_of_mem _ hb))
    have h2 := h a (List.mem_cons_self ..)
    simp only [natV, List.length_cons, Nat.pow_succ]
    generalize 4294967296 ^ x.length = X at *
    omega

theorem natV_ge : ∀ l : List Nat, l ≠ [] → l.getLast? ≠ some 0 → 4294967296 ^ (l.length - 1) ≤ natV l
  | [], h, _ => absurd rfl h
  | [a], _, h => by
    simp [natV] at h ⊢
    omega
  | a :: b :: x, _, h => by
    have h1 := natV_ge (b :: x) (by simp) (by rw [List.getLast?_cons_cons] at h; exact h)
    simp only [natV, List.length_cons, Nat.add_sub_cancel] at h1 ⊢
    rw [Nat.pow_succ]
    generalize 4294967296 ^ x.length = X at *
    omega

/-- As zzNatMul goes. -/
def mulL : List Nat → Nat → Nat → List Nat
  | [], _, c => if c = 0 then [] else [c]
  | a :: x, k, c => (a * k + c) % 4294967296 :: mulL x k ((a * k + c) / 4294967296)

/-- The limbs behind j rounds, and the carry. -/
def mulAt (k : Nat) : List Nat → Nat → List Nat × Nat
  | [], c => ([], c)
  | a :: x, c => let r := mulAt k x ((a * k + c) / 4294967296); ((a * k + c) % 4294967296 :: r.1, r.2)

theorem mulL_eq (k : Nat) : ∀ (l : List Nat) (c : Nat), mulL l k c = (mulAt k l c).1 ++ (if (mulAt k l c).2 = 0 then [] else [(mulAt k l c).2])
  | [], c => rfl
  | a :: x, c => by
    simp only [mulL, mulAt, List.cons_append]
    rw [mulL_eq k x]
    rfl

theorem mulAt_snoc (k : Nat) : ∀ (l : List Nat) (a c : Nat), mulAt k (l ++ [a]) c = ((mulAt k l c).1 ++ [(a * k + (mulAt k l c).2) % 4294967296], (a * k + (mulAt k l c).2) / 4294967296)
  | [], a, c => by simp [mulAt]
  | b :: x, a, c => by
    simp only [List.cons_append, mulAt]
    rw [mulAt_snoc k x]

theorem mulAt_len (k : Nat) : ∀ (l : List Nat) (c : Nat), (mulAt k l c).1.length = l.length
  | [], c => rfl
  | a :: x, c => by simp only [mulAt, List.length_cons]; rw [mulAt_len k x]

theorem carry_lt {a k c : Nat} (ha : a < 4294967296) (hk : k < 4294967296) (hc : c < 4294967296) : a * k + c < 18446744073709551616 ∧ (a * k + c) / 4294967296 < 4294967296 := by
  have h := Nat.mul_le_mul (show a ≤ 4294967295 by omega) (show k ≤ 4294967295 by omega)
  omega

theorem mulAt_carry (k : Nat) (hk : k < 4294967296) : ∀ (l : List Nat) (c : Nat), (∀ a ∈ l, a < 4294967296) → c < 4294967296 → (mulAt k l c).2 < 4294967296 ∧ ∀ a ∈ (mulAt k l c).1, a < 4294967296
  | [], c, _, hc => ⟨hc, by simp [mulAt]⟩
  | a :: x, c, h, hc => by
    have h1 := (carry_lt (h a (List.mem_cons_self ..)) hk hc).2
    have h2 := mulAt_carry k hk x _ (fun b hb => h b (List.mem_cons_of_mem _ hb)) h1
    simp only [mulAt]
    refine ⟨h2.1, fun b hb => ?_⟩
    rcases List.mem_cons.1 hb with rfl | hb
    · exact Nat.mod_lt _ (by decide)
    · exact h2.2 b hb

theorem mulL_val : ∀ (l : List Nat) (k c : Nat), natV (mulL l k c) = natV l * k + c
  | [], k, c => by
    unfold mulL
    split
    · simp [natV]; omega
    · simp [natV]
  | a :: x, k, c => by
    simp only [mulL, natV]
    rw [mulL_val x, Nat.add_mul, Nat.mul_assoc]
    generalize natV x * k = y
    have := Nat.div_add_mod (a * k + c) 4294967296
    omega

theorem mulL_lt (k : Nat) (hk : k < 4294967296) : ∀ (l : List Nat) (c : Nat), (∀ a ∈ l, a < 4294967296) → c < 4294967296 → ∀ a ∈ mulL l k c, a < 4294967296 := by
  intro l c h hc a ha
  rw [mulL_eq] at ha
  have hm := mulAt_carry k hk l c h hc
  rcases List.mem_append.1 ha with ha | ha
  · exact hm.2 a ha
  · split at ha
    · cases ha
    · rw [List.mem_singleton.1 ha]; exact hm.1

theorem mulL_last (k : Nat) (h1 : 1 ≤ k) : ∀ (l : List Nat) (c : Nat), (∀ a ∈ l, a < 4294967296) → l.getLast? ≠ some 0 → (mulL l k c).getLast? ≠ some 0
  | [], c, _, _ => by
    unfold mulL
    split
    · simp
    · simpa using ‹_›
  | [a], c, hl, h => by
    have ha : a ≠ 0 := by simpa using h
    simp only [mulL]
    split
    · rename_i hz
      simp only [List.getLast?_singleton, ne_eq, Option.some.injEq]
      have hm := Nat.mul_le_mul (show 1 ≤ a by omega) h1
      intro e
      have := Nat.div_add_mod (a * k + c) 4294967296
      omega
    · rename_i hz
      simpa using hz
  | a :: b :: x, c, hl, h => by
    have h2 : (b :: x).getLast? ≠ some 0 := by rw [List.getLast?_cons_cons] at h; exact h
    have ih := mulL_last k h1 (b :: x) ((a * k + c) / 4294967296) (fun y hy => hl y (List.mem_cons_of_mem _ hy)) h2
    simp only [mulL] at ih ⊢
    rw [List.getLast?_cons_cons]
    exact ih

theorem Norm.mul {l : List Nat} {k : Nat} (h : Norm l) (h1 : 1 ≤ k) (hk : k < 4294967296) : Norm (mulL l k 0) :=
  ⟨mulL_lt k hk l 0 h.1 (by decide), mulL_last k h1 l 0 h.1 h.2⟩

theorem mulL_len (k : Nat) : ∀ (l : List Nat) (c : Nat), (mulL l k c).length ≤ l.length + 1 := by
  intro l c
  rw [mulL_eq, List.length_append, mulAt_len]
  split <;> simp

/-- -1, 0, 1. -/
def sgn (a b : Nat) : Int := if a = b then 0 else if a < b then -1 else 1

theorem len_lt {a b : List Nat} (ha : Norm a) (hb : Norm b) (h : a.length < b.length) : natV a < natV b := by
  have h1 := natV_lt a ha.1
  have h2 := natV_ge b (by intro e; rw [e] at h; simp at h) hb.2
  have h3 : 4294967296 ^ a.length ≤ 4294967296 ^ (b.length - 1) := Nat.pow_le_pow_right (by decide) (by omega)
  omega

theorem natV_split (l : List Nat) : ∀ i, i < l.length → natV l = natV (l.take i) + 4294967296 ^ i * (l.getD i 0 + 4294967296 * natV (l.drop (i + 1))) := by
  induction l with
  | nil => intro i h; simp at h
  | cons a x ih =>
    intro i h
    cases i with
    | zero => simp [natV]
    | succ i =>
      have := ih i (by simpa using h)
      simp only [List.take_succ_cons, natV, List.getD_cons_succ, List.drop_succ_cons, Nat.pow_succ]
      rw [this, Nat.mul_add, Nat.mul_comm (4294967296 ^ i) 4294967296, Nat.mul_assoc]
      omega

/-- The first limb that parts, from the top. -/
theorem limb_lt {a b : List Nat} {i : Nat} (ha : ∀ x ∈ a, x < 4294967296) (h1 : i < a.length) (h2 : i < b.length) (hd : a.drop (i + 1) = b.drop (i + 1)) (hlt : a.getD i 0 < b.getD i 0) : natV a < natV b := by
  rw [natV_split a i h1, natV_split b i h2, hd]
  have h3 : natV (a.take i) < 4294967296 ^ i := by
    have := natV_lt (a.take i) (fun x hx => ha x (List.mem_of_mem_take hx))
    rwa [List.length_take, Nat.min_eq_left (by omega)] at this
  generalize natV (b.drop (i + 1)) = t
  generalize natV (b.take i) = r
  have h4 := Nat.mul_le_mul_left (4294967296 ^ i) (show a.getD i 0 + 4294967296 * t + 1 ≤ b.getD i 0 + 4294967296 * t by omega)
  rw [Nat.mul_add _ _ 1, Nat.mul_one] at h4
  omega
end Go.Proofs.Qxb6615058aDoor
