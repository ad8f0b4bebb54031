import Derived.Test.Qxb6614461aFmtW2
namespace Go.Proofs.Qxb6614461aFmt
open Go.RowKit

theorem decodeN_ru (n b0 b1 b2 b3 : Nat) : 1 ≤ ru (Lib.decodeN n b0 b1 b2 b3).1 ∧ ru (Lib.decodeN n b0 b1 b2 b3).1 ≤ 2 := by
  unfold Lib.decodeN ru
  split
  · simp only
    repeat' split
    all_goals omega
  · repeat' split
    all_goals simp only at *
    all_goals omega

/-- Of the code point at off, on a line that ends at en: its size. -/
def sz (bs : ByteArray) (off en : Nat) : Nat := (dec bs off en).2
/-- Its UTF-16 units. -/
def un (bs : ByteArray) (off en : Nat) : Nat := (ru (dec bs off en).1).toNat

theorem dec_facts (bs : ByteArray) (off en : Nat) (h1 : off < en) (h2 : en ≤ bs.size) :
    1 ≤ sz bs off en ∧ off + sz bs off en ≤ en ∧ 1 ≤ un bs off en ∧ un bs off en ≤ 2 ∧ ru (dec bs off en).1 = (un bs off en : Nat) := by
  have e1 : (bs.extract off en).size = en - off := by simp [ByteArray.size_extract]; omega
  obtain ⟨a1, a2, a3⟩ := decodeGo_le (bs.extract off en)
  have hr : 1 ≤ ru (dec bs off en).1 ∧ ru (dec bs off en).1 ≤ 2 := by
    have : dec bs off en = Utf8.decode (bs.extract off en) 0 := by
      unfold dec Lib.decodeGo
      rw [if_neg (by omega)]
    rw [this, Lib.decode_at]
    exact decodeN_ru _ _ _ _ _
  unfold un sz
  have a3' := a3 (by omega)
  rw [e1] at a2
  show 1 ≤ (dec bs off en).2 ∧ off + (dec bs off en).2 ≤ en ∧ _
  have b2 : (dec bs off en).2 ≤ en - off := a2
  have b3 : 1 ≤ (dec bs off en).2 := a3'
  refine ⟨b3, by omega, by omega, by omega, by omega⟩

/-- k code points further along the line that ends at en: the place and the units that come before. -/
def go (bs : ByteArray) (en : Nat) : Nat → Nat × Nat → Option (Nat × Nat)
  | 0, s => some s
  | k + 1, s => if s.1 = en then none else go bs en k (s.1 + sz bs s.1 en, s.2 + un bs s.1 en)

theorem go_add (bs : ByteArray) (en a b : Nat) (s : Nat × Nat) : go bs en (a + b) s = (go bs en a s).bind (go bs en b) := by
  induction a generalizing s with
  | zero => simp [go]
  | succ a ih =>
    rw [Nat.add_right_comm]
    simp only [go]
    split
    · rfl
    · exact ih _

theorem go_facts (bs : ByteArray) (en : Nat) (h2 : en ≤ bs.size) (k : Nat) (s : Nat × Nat) (hs : s.1 ≤ en) (r : Nat × Nat) (h : go bs en k s = some r) :
    s.1 + k ≤ r.1 ∧ r.1 ≤ en ∧ s.2 + k ≤ r.2 ∧ r.2 ≤ s.2 + 2 * k := by
  induction k generalizing s with
  | zero => simp only [go, Option.some.injEq] at h; subst h; omega
  | succ k ih =>
    simp only [go] at h
    split at h
    · cases h
    · have hd := dec_facts bs s.1 en (by omega) h2
      have := ih _ (by show s.1 + sz bs s.1 en ≤ en; omega) h
      simp only at this
      omega

theorem go_one (bs : ByteArray) (en k : Nat) (s r : Nat × Nat) (h : go bs en k s = some r) : go bs en (k + 1) s = if r.1 = en then none else some (r.1 + sz bs r.1 en, r.2 + un bs r.1 en) := by
  rw [go_add, h]
  simp [go]

theorem go_none_le (bs : ByteArray) (en k k' : Nat) (s : Nat × Nat) (h : go bs en k s = none) (hk : k ≤ k') : go bs en k' s = none := by
  obtain ⟨d, rfl⟩ := Nat.exists_eq_add_of_le hk
  rw [go_add, h]
  rfl
end Go.Proofs.Qxb6614461aFmt
