/-
  Plain: the lines from the last backwards; a line's key.
-/
import Derived.Test.Qxb6600570aDoorW8
namespace Go.Proofs.Qxb6600570aDoor

def lastL (name : ByteArray) (l : List UInt8) : Option ByteArray := last name ((pieces l).map toB)

theorem lastL_cut (name : ByteArray) (p seg : List UInt8) (h : 10 ∉ seg) : lastL name (p ++ 10 :: seg) = upd1 name (lastL name p) (toB seg) := by
  unfold lastL
  rw [pieces_app, pieces_one _ h]
  simp [last]
theorem lastL_one (name : ByteArray) (seg : List UInt8) (h : 10 ∉ seg) : lastL name seg = upd1 name none (toB seg) := by
  unfold lastL
  rw [pieces_one _ h]
  simp [last]

theorem get_list (d : ByteArray) (j : Nat) (h : j < d.size) : d.data.toList[j]? = some (d.get! j) := by rw [get_is d j h]; exact list_at d j h

theorem no_nl (d : ByteArray) (s e : Nat) (he : e ≤ d.size) (hno : ∀ j, s ≤ j → j < e → ¬ d.get! j = 10) : 10 ∉ (d.data.toList.take e).drop s := fun hm => by
  obtain ⟨i, hi2⟩ := List.mem_iff_getElem?.1 hm
  rw [List.getElem?_drop, List.getElem?_take] at hi2
  split at hi2
  · rename_i hlt
    rw [get_list d _ (by omega)] at hi2
    exact hno (s + i) (by omega) hlt (Option.some.inj hi2)
  · cases hi2

theorem cut_first (name d : ByteArray) (e : Nat) (he : e ≤ d.size) (hno : ∀ j, 0 ≤ j → j < e → ¬ d.get! j = 10) : lastL name (d.data.toList.take e) = upd1 name none (d.extract 0 e) := by
  have h := no_nl d 0 e he hno
  rw [List.drop_zero] at h
  rw [lastL_one name _ h, ← ext_take, toB_list]
theorem cut_line (name d : ByteArray) (s e : Nat) (hs : s + 1 ≤ e) (he : e ≤ d.size) (hno : ∀ j, s + 1 ≤ j → j < e → ¬ d.get! j = 10) (h10 : d.get! s = 10) : lastL name (d.data.toList.take e) = upd1 name (lastL name (d.data.toList.take s)) (d.extract (s + 1) e) := by
  have h := no_nl d (s + 1) e he hno
  have hsplit : d.data.toList.take e = d.data.toList.take s ++ 10 :: (d.data.toList.take e).drop (s + 1) := by
    have h1 : (d.data.toList.take e).take s = d.data.toList.take s := by rw [List.take_take, Nat.min_eq_left (by omega)]
    have hlt : s < (d.data.toList.take e).length := by rw [List.length_take, len_list]; omega
    have h2 : (d.data.toList.take e)[s] = 10 := by
      have h3 : (d.data.toList.take e)[s]? = some 10 := by
        rw [List.getElem?_take, if_pos (by omega), get_list d s (by omega), h10]
      exact (List.getElem?_eq_some_iff.1 h3).2
    rw [← h1]
    conv => lhs; rw [← List.take_append_drop s (d.data.toList.take e)]
    rw [List.drop_eq_getElem_cons hlt, h2]
  rw [hsplit, lastL_cut name _ _ h, ← ext_list, toB_list]

theorem upd_some {name : ByteArray} {acc : Option ByteArray} {x v : ByteArray} (h : give name x = some v) : upd1 name acc x = some v := by unfold upd1; rw [h]
theorem upd_none {name : ByteArray} {acc : Option ByteArray} {x : ByteArray} (h : give name x = none) : upd1 name acc x = acc := by unfold upd1; rw [h]

/-- No space and no tab among the first k. -/
def NoSp (l : ByteArray) (k : Nat) : Prop := ∀ j, j < k → ¬ l.get! j = 32 ∧ ¬ l.get! j = 9
theorem noSp_any {l : ByteArray} {k : Nat} (h : NoSp l k) (hk : k ≤ l.size) : Lib.NoAny l.data.toList [32, 9] k := fun j b hj hb => by
  rw [get_list l j (by omega)] at hb
  cases hb
  have := h j hj
  simp [this.1, this.2]
theorem key_hit {l : ByteArray} {k : Nat} (h : NoSp l k) (hk : k < l.size) (hh : l.get! k = 32 ∨ l.get! k = 9) : keyOf l = l.extract 0 k ∧ restOf l = l.extract (k + 1) l.size := by
  have hi : Lib.indexAny l.data.toList [32, 9] = (k : Int) := Lib.indexAny_hit (noSp_any h (Nat.le_of_lt hk)) (get_list l k hk) (by rcases hh with e | e <;> rw [e] <;> rfl)
  unfold keyOf restOf
  rw [hi, if_pos (by omega), if_pos (by omega)]
  exact ⟨rfl, rfl⟩
theorem ext_all (l : ByteArray) : l.extract 0 l.size = l := by
  rw [← toB_list (l.extract 0 l.size), ext_take, List.take_of_length_le (by rw [len_list]; exact Nat.le_refl _), toB_list]
theorem key_none {l : ByteArray} (h : NoSp l l.size) : keyOf l = l.extract 0 l.size ∧ restOf l = ⟨#[]⟩ := by
  have hi : Lib.indexAny l.data.toList [32, 9] = -1 := Lib.indexAny_none (by rw [len_list]; exact noSp_any h (Nat.le_refl _))
  unfold keyOf restOf
  rw [hi, if_neg (by omega), if_neg (by omega), ext_all]
  exact ⟨rfl, rfl⟩

/-- Does it stand in quotes? -/
def quo (v : ByteArray) : Bool := decide (2 ≤ v.size ∧ v.get! 0 = 34 ∧ v.get! (v.size - 1) = 34)
theorem unq_quo (v : ByteArray) : unq v = if quo v = true then v.extract 1 (v.size - 1) else v := by
  unfold unq quo
  by_cases h : 2 ≤ v.size ∧ v.get! 0 = 34 ∧ v.get! (v.size - 1) = 34
  · rw [if_pos h, if_pos (decide_eq_true h)]
  · rw [if_neg h, if_neg (by simpa using h)]
end Go.Proofs.Qxb6600570aDoor
