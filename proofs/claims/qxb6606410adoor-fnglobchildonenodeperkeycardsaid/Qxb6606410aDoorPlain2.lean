/-
  First and last star of a glob, told by its pieces. No Go text here.
-/
import Derived.Test.Qxb6606410aDoorPlain
namespace Go.Proofs.Qxb6606410aDoor
open Go.RowKit

theorem snoc_ind {P : List UInt8 → Prop} (h0 : P []) (h1 : ∀ l c, P l → P (l ++ [c])) : ∀ l, P l := by
  have : ∀ (n : Nat) (l : List UInt8), l.length = n → P l := by
    intro n
    induction n with
    | zero => intro l h; rw [List.eq_nil_of_length_eq_zero h]; exact h0
    | succ n ih =>
      intro l h
      rcases List.eq_nil_or_concat l with e | ⟨a, b, e⟩
      · rw [e] at h; simp at h
      · rw [e, List.concat_eq_append] at h ⊢
        exact h1 a b (ih a (by simpa using h))
  exact fun l => this _ l rfl

def fstI (l : List UInt8) : Int := if dn l = [] then -1 else (((dn l).headD []).length : Int)
def lstI (l : List UInt8) : Int := if dn l = [] then -1 else (l.length : Int) - 1 - ((cu l).length : Int)

theorem cu_all (l : List UInt8) : dn l = [] → cu l = l := by
  refine snoc_ind (P := fun l => dn l = [] → cu l = l) (fun _ => rfl) (fun l c ih => ?_) l
  intro h
  by_cases e : c = 42
  · subst e; rw [dn_star] at h; simp at h
  · rw [dn_other l c e] at h
    rw [cu_other l c e, ih h]

/-- The open piece is the tail; a star stands ahead of it unless all is one piece. -/
theorem cu_tail (l : List UInt8) : (cu l).length ≤ l.length ∧ l.drop (l.length - (cu l).length) = cu l := by
  refine snoc_ind (P := fun l => (cu l).length ≤ l.length ∧ l.drop (l.length - (cu l).length) = cu l) ⟨Nat.le_refl _, rfl⟩ (fun l c ih => ?_) l
  by_cases e : c = 42
  · subst e; rw [cu_star]; simp
  · rw [cu_other l c e]
    obtain ⟨h1, h2⟩ := ih
    refine ⟨by simp; omega, ?_⟩
    have : (l ++ [c]).length - (cu l ++ [c]).length = l.length - (cu l).length := by simp
    rw [this, List.drop_append_of_le_length (by omega), h2]

theorem cu_lt (l : List UInt8) (h : dn l ≠ []) : (cu l).length + 1 ≤ l.length := by
  revert h
  refine snoc_ind (P := fun l => dn l ≠ [] → (cu l).length + 1 ≤ l.length) (fun h => absurd rfl h) (fun l c ih => ?_) l
  intro h
  by_cases e : c = 42
  · subst e; rw [cu_star]; simp
  · rw [dn_other l c e] at h
    rw [cu_other l c e]
    have := ih h
    simp; omega

theorem head_take (l : List UInt8) (h : dn l ≠ []) : ((dn l).headD []).length + (cu l).length + 1 ≤ l.length ∧ l.take ((dn l).headD []).length = (dn l).headD [] := by
  revert h
  refine snoc_ind (P := fun l => dn l ≠ [] → ((dn l).headD []).length + (cu l).length + 1 ≤ l.length ∧ l.take ((dn l).headD []).length = (dn l).headD []) (fun h => absurd rfl h) (fun l c ih => ?_) l
  intro h
  by_cases e : c = 42
  · subst e
    rw [dn_star, cu_star]
    by_cases hd : dn l = []
    · rw [hd, cu_all l hd]
      simp
    · obtain ⟨a, b, hab⟩ : ∃ a b, dn l = a :: b := by
        cases h2 : dn l with
        | nil => exact absurd h2 hd
        | cons a b => exact ⟨a, b, rfl⟩
      have := ih hd
      rw [hab] at this ⊢
      simp only [List.cons_append, List.headD_cons, List.length_nil, List.length_append, List.length_cons] at this ⊢
      refine ⟨by omega, ?_⟩
      rw [List.take_append_of_le_length (by omega)]
      exact this.2
  · rw [dn_other l c e] at h ⊢
    rw [cu_other l c e]
    obtain ⟨h1, h2⟩ := ih h
    refine ⟨by rw [List.length_append, List.length_append]; omega, ?_⟩
    rw [List.take_append_of_le_length (by omega)]
    exact h2

theorem fst_star (l : List UInt8) : fstI (l ++ [42]) = if fstI l < 0 then (l.length : Int) else fstI l := by
  unfold fstI
  rw [dn_star]
  by_cases h : dn l = []
  · rw [h, cu_all l h]; simp
  · obtain ⟨a, b, hab⟩ : ∃ a b, dn l = a :: b := by
      cases h2 : dn l with
      | nil => exact absurd h2 h
      | cons a b => exact ⟨a, b, rfl⟩
    rw [hab]
    simp
    omega
theorem lst_star (l : List UInt8) : lstI (l ++ [42]) = (l.length : Int) := by
  unfold lstI
  rw [dn_star, cu_star]
  simp
theorem fst_other (l : List UInt8) (c : UInt8) (h : c ≠ 42) : fstI (l ++ [c]) = fstI l := by unfold fstI; rw [dn_other l c h]
theorem lst_other (l : List UInt8) (c : UInt8) (h : c ≠ 42) : lstI (l ++ [c]) = lstI l := by
  unfold lstI
  rw [dn_other l c h, cu_other l c h]
  by_cases h : dn l = []
  · simp [h]
  · simp [h]; omega

theorem fst_bd (l : List UInt8) : -1 ≤ fstI l ∧ fstI l < (l.length : Int) := by
  unfold fstI
  by_cases h : dn l = []
  · simp [h]; omega
  · have := (head_take l h).1
    simp only [h, if_false]; omega
theorem lst_bd (l : List UInt8) : -1 ≤ lstI l ∧ lstI l < (l.length : Int) := by
  unfold lstI
  by_cases h : dn l = []
  · simp [h]; omega
  · have := cu_lt l h
    simp only [h, if_false]; omega

/-- Behind the last star nothing is closed any more. -/
theorem dn_upto (l : List UInt8) : dn (l.take (l.length - (cu l).length)) = dn l := by
  refine snoc_ind (P := fun l => dn (l.take (l.length - (cu l).length)) = dn l) rfl (fun l c ih => ?_) l
  by_cases e : c = 42
  · subst e; rw [cu_star, List.take_of_length_le (by simp)]
  · rw [cu_other l c e, dn_other l c e]
    have h1 := (cu_tail l).1
    have : (l ++ [c]).length - (cu l ++ [c]).length = l.length - (cu l).length := by simp
    rw [this, List.take_append_of_le_length (by omega)]
    exact ih

/-- Up to the first star nothing is closed but the prefix. -/
theorem dn_first (l : List UInt8) (h : dn l ≠ []) : dn (l.take (((dn l).headD []).length + 1)) = [(dn l).headD []] ∧ cu (l.take (((dn l).headD []).length + 1)) = [] := by
  revert h
  refine snoc_ind (P := fun l => dn l ≠ [] → dn (l.take (((dn l).headD []).length + 1)) = [(dn l).headD []] ∧ cu (l.take (((dn l).headD []).length + 1)) = []) (fun h => absurd rfl h) (fun l c ih => ?_) l
  intro h
  by_cases hd : dn l = []
  · by_cases e : c = 42
    · subst e
      have h1 : (dn (l ++ [42])).headD [] = l := by rw [dn_star, hd, cu_all l hd]; rfl
      rw [h1, List.take_of_length_le (by simp), dn_star, cu_star, hd, cu_all l hd]
      exact ⟨rfl, rfl⟩
    · rw [dn_other l c e] at h; exact absurd hd h
  · have hh : (dn (l ++ [c])).headD [] = (dn l).headD [] := by
      by_cases e : c = 42
      · subst e
        rw [dn_star]
        cases h2 : dn l with
        | nil => exact absurd h2 hd
        | cons a b => rfl
      · rw [dn_other l c e]
    have hl := (head_take l hd).1
    rw [hh, List.take_append_of_le_length (by omega)]
    exact ih hd
end Go.Proofs.Qxb6606410aDoor
