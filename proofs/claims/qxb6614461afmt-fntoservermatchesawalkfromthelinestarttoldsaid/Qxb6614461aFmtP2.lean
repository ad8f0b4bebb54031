import Derived.Test.Qxb6614461aFmtW12
namespace Go.Proofs.Qxb6614461aFmt
open Go.RowKit

theorem get_left (a b : ByteArray) (i : Nat) (h : i < a.size) : (a ++ b).get! i = a.get! i := by
  have hs : a.size = a.data.size := rfl
  show (a ++ b).data[i]! = a.data[i]!
  rw [ByteArray.data_append, getElem!_pos _ _ (by simp; omega), getElem!_pos _ _ (by omega), Array.getElem_append_left (by omega)]
theorem get_right (a b : ByteArray) (i : Nat) (h : i < b.size) : (a ++ b).get! (a.size + i) = b.get! i := by
  have hs : a.size = a.data.size := rfl
  have hs2 : b.size = b.data.size := rfl
  show (a ++ b).data[a.size + i]! = b.data[i]!
  rw [ByteArray.data_append, getElem!_pos _ _ (by simp; omega), getElem!_pos _ _ (by omega), Array.getElem_append_right (by omega)]
  congr 1
  omega

def shift (d : Nat) (p : Nat × Nat) : Nat × Nat := (p.1 + d, p.2 + d)

/-- The whole text: head, a line end, tail. -/
def whole (a b : ByteArray) : ByteArray := a ++ ⟨#[10]⟩ ++ b

theorem whole_size (a b : ByteArray) : (whole a b).size = a.size + 1 + b.size := by
  simp [whole, ByteArray.size_append]; rfl
theorem whole_left (a b : ByteArray) (i : Nat) (h : i < a.size) : (whole a b).get! i = a.get! i := by
  unfold whole
  rw [get_left _ _ _ (by simp [ByteArray.size_append]; omega), get_left _ _ _ h]
theorem whole_mid (a b : ByteArray) : (whole a b).get! a.size = 10 := by
  unfold whole
  have e : (⟨#[10]⟩ : ByteArray).size = 1 := rfl
  rw [get_left _ _ _ (by simp [ByteArray.size_append]; omega)]
  exact get_right a ⟨#[10]⟩ 0 (by rw [e]; omega)
theorem whole_right (a b : ByteArray) (i : Nat) (h : i < b.size) : (whole a b).get! (a.size + 1 + i) = b.get! i := by
  unfold whole
  have e : (a ++ ⟨#[10]⟩ : ByteArray).size = a.size + 1 := by simp [ByteArray.size_append]; rfl
  rw [← e, get_right _ _ _ h]

theorem scan_left (a b : ByteArray) (i : Nat) (h : i ≤ a.size) : scan (whole a b) i = scan a i := by
  induction i with
  | zero => rfl
  | succ i ih => rw [scan, scan, whole_left a b i (by omega), ih (by omega)]

theorem scan_right (a b : ByteArray) (i : Nat) (h : i ≤ b.size) : scan (whole a b) (a.size + 1 + i) = (lines a ++ (scan b i).1.map (shift (a.size + 1)), (scan b i).2 + (a.size + 1)) := by
  induction i with
  | zero =>
    have e : scan (whole a b) (a.size + 1) = ((scan (whole a b) a.size).1 ++ [((scan (whole a b) a.size).2, a.size)], a.size + 1) := by rw [scan, whole_mid, if_pos rfl]
    rw [Nat.add_zero, e, scan_left a b _ (Nat.le_refl _)]
    simp [lines, scan]
  | succ i ih =>
    rw [← Nat.add_assoc, scan, scan, whole_right a b i (by omega), ih (by omega)]
    split
    · simp [shift, Nat.add_comm, Nat.add_left_comm]
    · rfl

theorem lines_whole (a b : ByteArray) : lines (whole a b) = lines a ++ (lines b).map (shift (a.size + 1)) := by
  unfold lines
  rw [whole_size, scan_right a b b.size (Nat.le_refl _)]
  simp [shift, lines, Nat.add_comm, Nat.add_left_comm]

theorem lineN_whole (a b : ByteArray) (n : Nat) (h : n < (lines b).length) : lineN (whole a b) ((lines a).length + n) = shift (a.size + 1) (lineN b n) := by
  unfold lineN
  rw [lines_whole, List.getD_eq_getElem?_getD, List.getD_eq_getElem?_getD, List.getElem?_append_right (by omega)]
  simp [h]

theorem extract_whole (a b : ByteArray) (i j : Nat) : (whole a b).extract (i + (a.size + 1)) (j + (a.size + 1)) = b.extract i j := by
  have hs : a.size = a.data.size := rfl
  have hb : b.size = b.data.size := rfl
  apply ByteArray.ext
  rw [ByteArray.data_extract, ByteArray.data_extract]
  unfold whole
  rw [ByteArray.data_append, ByteArray.data_append]
  apply Array.ext
  · simp
  · intro k h1 h2
    rw [Array.getElem_extract, Array.getElem_extract, Array.getElem_append_right (by simp; omega)]
    congr 1
    simp
    omega

theorem dec_whole (a b : ByteArray) (i j : Nat) : dec (whole a b) (i + (a.size + 1)) (j + (a.size + 1)) = dec b i j := by
  unfold dec
  rw [extract_whole a b i j]

theorem go_whole (a b : ByteArray) (en : Nat) (k : Nat) (s : Nat × Nat) : go (whole a b) (en + (a.size + 1)) k (s.1 + (a.size + 1), s.2) = (go b en k s).map fun r => (r.1 + (a.size + 1), r.2) := by
  induction k generalizing s with
  | zero => simp [go]
  | succ k ih =>
    simp only [go]
    by_cases h : s.1 = en
    · rw [if_pos (by omega), if_pos h]; rfl
    · rw [if_neg (by omega), if_neg h]
      have := ih (s.1 + sz b s.1 en, s.2 + un b s.1 en)
      rw [← this]
      simp only [sz, un, dec_whole a b _ _]
      congr 2
      omega

theorem unitsOf_shift (enc : ByteArray) (off p u st d : Int) : unitsOf enc (off + d) p u (st + d) = unitsOf enc off p u st := by
  unfold unitsOf
  split
  · omega
  · rfl

/-- THE PLAIN LAW: a position on the tail's line ln, asked of the whole. -/
theorem serverOf_whole (a b enc : ByteArray) (ln col : Int) (h1 : 1 ≤ ln) : serverOf (whole a b) enc (ln + (lines a).length) col = (serverOf b enc ln col).map fun r => (r.1 + ((lines a).length : Int), r.2) := by
  unfold serverOf
  have hla := (lines_ok a).2.1
  have hll : (lines (whole a b)).length = (lines a).length + (lines b).length := by rw [lines_whole]; simp
  by_cases hk : (isU8 enc || isU16 enc || isU32 enc) = true
  · rw [if_pos hk, if_pos hk]
    by_cases hr : 1 ≤ ln ∧ 1 ≤ col ∧ ln ≤ (lines b).length
    · rw [if_pos hr, if_pos (by rw [hll]; omega)]
      have e1 : (ln + (lines a).length - 1).toNat = (lines a).length + (ln - 1).toNat := by omega
      have hn : (ln - 1).toNat < (lines b).length := by omega
      rw [e1, lineN_whole a b _ hn]
      have := go_whole a b (lineN b (ln - 1).toNat).2 (col - 1).toNat ((lineN b (ln - 1).toNat).1, 0)
      simp only [shift]
      simp only at this
      rw [this]
      cases go b (lineN b (ln - 1).toNat).2 (col - 1).toNat ((lineN b (ln - 1).toNat).1, 0) with
      | none => rfl
      | some r =>
        simp only [Option.map_some, Option.some.injEq, Prod.mk.injEq]
        refine ⟨by omega, ?_⟩
        have := unitsOf_shift enc r.1 (col - 1) r.2 (lineN b (ln - 1).toNat).1 ((a.size + 1 : Nat) : Int)
        rw [← this]
        simp
    · rw [if_neg hr, if_neg (by rw [hll]; omega)]; rfl
  · rw [if_neg hk, if_neg hk]; rfl

theorem serverOf_line {bs enc : ByteArray} {ln col : Int} {r : Int × Int} (h : serverOf bs enc ln col = some r) : r.1 = ln - 1 ∧ (isU32 enc = true → r.2 = col - 1) ∧ (isU8 enc || isU16 enc || isU32 enc) = true ∧ 1 ≤ col := by
  unfold serverOf at h
  split at h
  · rename_i hk
    split at h
    · rename_i hr
      rw [Option.map_eq_some_iff] at h
      obtain ⟨q, _, rfl⟩ := h
      refine ⟨rfl, fun h32 => ?_, hk, hr.2.1⟩
      unfold isU32 at h32
      have e : enc.toList = [117, 116, 102, 45, 51, 50] := by simpa using h32
      unfold unitsOf isU8 isU16
      rw [e]
      rfl
    · cases h
  · cases h

theorem lines_count (a : ByteArray) : (lines a).length = (scan a a.size).1.length + 1 := by unfold lines; simp
end Go.Proofs.Qxb6614461aFmt
