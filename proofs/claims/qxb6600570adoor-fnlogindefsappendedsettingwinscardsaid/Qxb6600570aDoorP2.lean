/-
  Plain: the lines of a text; what a line gives a setting; what a text gives.
-/
import Derived.Test.Qxb6600570aDoorW4
import Derived.Lib.IndexLaws
namespace Go.Proofs.Qxb6600570aDoor

/-- The lines. -/
def pieces : List UInt8 → List (List UInt8)
  | [] => [[]]
  | c :: t => if c = 10 then [] :: pieces t else match pieces t with
    | [] => [[c]]
    | p :: ps => (c :: p) :: ps

theorem pieces_ne (l : List UInt8) : pieces l ≠ [] := by
  cases l with
  | nil => simp [pieces]
  | cons c t =>
    simp only [pieces]
    split
    · simp
    · split <;> simp

theorem pieces_app (p q : List UInt8) : pieces (p ++ 10 :: q) = pieces p ++ pieces q := by
  induction p with
  | nil => simp [pieces]
  | cons c t ih =>
    simp only [List.cons_append, pieces, ih]
    split
    · simp
    · cases hp : pieces t with
      | nil => exact absurd hp (pieces_ne t)
      | cons x xs => simp

theorem pieces_one (q : List UInt8) (h : 10 ∉ q) : pieces q = [q] := by
  induction q with
  | nil => rfl
  | cons c t ih =>
    simp only [List.mem_cons, not_or] at h
    simp only [pieces, if_neg (Ne.symm h.1), ih h.2]

def toB (l : List UInt8) : ByteArray := ⟨l.toArray⟩
theorem toB_list (s : ByteArray) : toB s.data.toList = s := by unfold toB; simp
theorem list_toB (l : List UInt8) : (toB l).data.toList = l := by unfold toB; simp
def piecesB (s : ByteArray) : List ByteArray := (pieces s.data.toList).map toB

theorem index_split {l : List UInt8} {i : Nat} (h : Lib.indexByte l 10 = i) : i < l.length ∧ l = l.take i ++ 10 :: l.drop (i + 1) ∧ 10 ∉ l.take i := by
  obtain ⟨h1, h2⟩ := Lib.indexByte_some h
  have hi : i < l.length := (List.getElem?_eq_some_iff.1 h1).1
  have he := (List.getElem?_eq_some_iff.1 h1).2
  refine ⟨hi, ?_, ?_⟩
  · rw [← he, ← List.drop_eq_getElem_cons hi, List.take_append_drop]
  · intro hm
    obtain ⟨k, hk, hk2⟩ := List.mem_iff_getElem.1 hm
    simp at hk
    refine h2 k (by omega) ?_
    rw [List.getElem?_eq_getElem (by omega)]
    rw [List.getElem_take] at hk2
    rw [hk2]
theorem index_none {l : List UInt8} (h : Lib.indexByte l 10 = -1) : 10 ∉ l := fun hm => by
  obtain ⟨k, hk, hk2⟩ := List.mem_iff_getElem.1 hm
  refine Lib.indexByte_none h k ?_
  rw [List.getElem?_eq_getElem hk, hk2]

theorem piecesB_split {s : ByteArray} {i : Nat} (h : Lib.indexByte s.data.toList 10 = i) : i < s.size ∧ piecesB s = s.extract 0 i :: piecesB (s.extract (i + 1) s.size) := by
  obtain ⟨h1, h2, h3⟩ := index_split h
  rw [len_list] at h1
  refine ⟨h1, ?_⟩
  unfold piecesB
  rw [h2, pieces_app, pieces_one _ h3, ext_drop]
  simp only [List.map_cons, List.cons_append, List.nil_append]
  rw [← ext_take, toB_list]
theorem piecesB_none {s : ByteArray} (h : Lib.indexByte s.data.toList 10 = -1) : piecesB s = [s] := by
  unfold piecesB
  rw [pieces_one _ (index_none h)]
  simp [toB_list]
end Go.Proofs.Qxb6600570aDoor
