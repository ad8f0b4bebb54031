/-
  Plain: the white space in front and at the end, as zzLeadSpace and zzTrailSpace tell it.
-/
import Derived.Lib.SpaceU
namespace Go.Proofs.Qxb6600570aDoor
open Go.Lib

def sp1 (a : UInt8) : Bool := a == 32 || a == 9 || a == 10 || a == 11 || a == 12 || a == 13
def sp2 (a b : UInt8) : Bool := a == 0xC2 && (b == 0x85 || b == 0xA0)
def sp3 (a b c : UInt8) : Bool :=
  if a == 0xE1 then b == 0x9A && c == 0x80
  else if a == 0xE2 && b == 0x80 then (decide (0x80 ≤ c) && decide (c ≤ 0x8A)) || c == 0xA8 || c == 0xA9 || c == 0xAF
  else if a == 0xE2 && b == 0x81 then c == 0x9F
  else if a == 0xE3 then b == 0x80 && c == 0x80
  else false

theorem mid_bytes (c : UInt8) (h1 : 0x80 ≤ c) (h2 : c ≤ 0x8A) : c = 0x80 ∨ c = 0x81 ∨ c = 0x82 ∨ c = 0x83 ∨ c = 0x84 ∨ c = 0x85 ∨ c = 0x86 ∨ c = 0x87 ∨ c = 0x88 ∨ c = 0x89 ∨ c = 0x8A := by
  have e1 : 128 ≤ c.toNat := UInt8.le_iff_toNat_le.1 h1
  have e2 : c.toNat ≤ 138 := UInt8.le_iff_toNat_le.1 h2
  simp only [← UInt8.toNat_inj]
  simp
  omega

theorem sp1_cases (a : UInt8) (h : sp1 a = true) : a = 32 ∨ a = 9 ∨ a = 10 ∨ a = 11 ∨ a = 12 ∨ a = 13 := by
  simpa [sp1, or_assoc] using h
theorem sp2_cases (a b : UInt8) (h : sp2 a b = true) : a = 0xC2 ∧ (b = 0x85 ∨ b = 0xA0) := by
  simpa [sp2] using h
/-- What stands for white space of three bytes. -/
theorem sp3_mem (a b c : UInt8) : sp3 a b c = true ↔ [a, b, c] ∈ spaceSeqs := by
  constructor
  · intro h
    unfold sp3 at h
    split at h
    · rename_i e
      simp at e h
      obtain ⟨rfl, rfl⟩ := h
      subst e
      decide
    · split at h
      · rename_i e
        simp at e
        obtain ⟨rfl, rfl⟩ := e
        simp only [Bool.or_eq_true, Bool.and_eq_true, decide_eq_true_eq, beq_iff_eq] at h
        rcases h with ((⟨h1, h2⟩ | rfl) | rfl) | rfl
        · rcases mid_bytes c h1 h2 with rfl | rfl | rfl | rfl | rfl | rfl | rfl | rfl | rfl | rfl | rfl <;> decide
        all_goals decide
      · split at h
        · rename_i e
          simp at e h
          obtain ⟨rfl, rfl⟩ := e
          subst h
          decide
        · split at h
          · rename_i e
            simp at e h
            obtain ⟨rfl, rfl⟩ := h
            subst e
            decide
          · cases h
  · intro h
    simp only [spaceSeqs, List.mem_cons, List.cons.injEq, List.not_mem_nil, or_false, and_true, reduceCtorEq, and_false, false_or] at h
    rcases h with ⟨rfl, rfl, rfl⟩ | ⟨rfl, rfl, rfl⟩ | ⟨rfl, rfl, rfl⟩ | ⟨rfl, rfl, rfl⟩ | ⟨rfl, rfl, rfl⟩ | ⟨rfl, rfl, rfl⟩ | ⟨rfl, rfl, rfl⟩ | ⟨rfl, rfl, rfl⟩ | ⟨rfl, rfl, rfl⟩ | ⟨rfl, rfl, rfl⟩ | ⟨rfl, rfl, rfl⟩ | ⟨rfl, rfl, rfl⟩ | ⟨rfl, rfl, rfl⟩ | ⟨rfl, rfl, rfl⟩ | ⟨rfl, rfl, rfl⟩ | ⟨rfl, rfl, rfl⟩ | ⟨rfl, rfl, rfl⟩ <;> decide
theorem sp2_mem (a b : UInt8) : sp2 a b = true ↔ [a, b] ∈ spaceSeqs := by
  simp [sp2, spaceSeqs, ← and_or_left]
theorem sp1_mem (a : UInt8) : sp1 a = true ↔ [a] ∈ spaceSeqs := by
  simp [sp1, spaceSeqs]
  constructor
  · rintro (((((h | h) | h) | h) | h) | h) <;> simp [h]
  · rintro (h | h | h | h | h | h) <;> simp [h]

/-- No two of the 25 begin alike. -/
theorem seqs_apart : ∀ q ∈ spaceSeqs, ∀ r ∈ spaceSeqs, q.isPrefixOf r = true → q = r := by decide
theorem seqs_apart_end : ∀ q ∈ spaceSeqs, ∀ r ∈ spaceSeqs, q.isSuffixOf r = true → q = r := by decide
theorem seqs_len : ∀ q ∈ spaceSeqs, q.length = 1 ∨ q.length = 2 ∨ q.length = 3 := by decide

theorem head_of {l : List UInt8} {q : List UInt8} (hq : q ∈ spaceSeqs) (hp : q <+: l) : headSpace l = q.length := by
  unfold headSpace
  cases hf : spaceSeqs.find? (·.isPrefixOf l) with
  | none =>
    have := List.find?_eq_none.1 hf q hq
    simp [List.isPrefixOf_iff_prefix, hp] at this
  | some r =>
    have h1 := List.find?_some hf
    have h2 := List.mem_of_find?_eq_some hf
    simp only [List.isPrefixOf_iff_prefix] at h1
    have : q = r := by
      rcases Nat.le_total q.length r.length with h | h
      · exact seqs_apart q hq r h2 (List.isPrefixOf_iff_prefix.2 (List.prefix_of_prefix_length_le hp h1 h))
      · exact (seqs_apart r h2 q hq (List.isPrefixOf_iff_prefix.2 (List.prefix_of_prefix_length_le h1 hp h))).symm
    rw [this]
    rfl
theorem head_none {l : List UInt8} (h : ∀ q ∈ spaceSeqs, ¬ q <+: l) : headSpace l = 0 := by
  unfold headSpace
  rw [List.find?_eq_none.2 (fun q hq => by simp only [List.isPrefixOf_iff_prefix]; exact h q hq)]
  rfl
theorem tail_of {l : List UInt8} {q : List UInt8} (hq : q ∈ spaceSeqs) (hp : q <:+ l) : tailSpace l = q.length := by
  unfold tailSpace
  cases hf : spaceSeqs.find? (·.isSuffixOf l) with
  | none =>
    have := List.find?_eq_none.1 hf q hq
    simp [List.isSuffixOf_iff_suffix, hp] at this
  | some r =>
    have h1 := List.find?_some hf
    have h2 := List.mem_of_find?_eq_some hf
    simp only [List.isSuffixOf_iff_suffix] at h1
    have : q = r := by
      rcases Nat.le_total q.length r.length with h | h
      · exact seqs_apart_end q hq r h2 (List.isSuffixOf_iff_suffix.2 (List.suffix_of_suffix_length_le hp h1 h))
      · exact (seqs_apart_end r h2 q hq (List.isSuffixOf_iff_suffix.2 (List.suffix_of_suffix_length_le h1 hp h))).symm
    rw [this]
    rfl
theorem tail_none {l : List UInt8} (h : ∀ q ∈ spaceSeqs, ¬ q <:+ l) : tailSpace l = 0 := by
  unfold tailSpace
  rw [List.find?_eq_none.2 (fun q hq => by simp only [List.isSuffixOf_iff_suffix]; exact h q hq)]
  rfl
end Go.Proofs.Qxb6600570aDoor
