/-
  The pieces of a glob between its stars; two globs lead to one path just where prefix, suffix and the middles that are not empty are the same. No Go text here.
-/
import Derived.Test.Qxb6606410aDoorW8
namespace Go.Proofs.Qxb6606410aDoor
open Go.RowKit

/-- One byte read: the pieces that are closed by a star, and the piece that is open. -/
def spl (st : List (List UInt8) × List UInt8) (c : UInt8) : List (List UInt8) × List UInt8 := if c = 42 then (st.1 ++ [st.2], []) else (st.1, st.2 ++ [c])
def dn (l : List UInt8) : List (List UInt8) := (l.foldl spl ([], [])).1
def cu (l : List UInt8) : List UInt8 := (l.foldl spl ([], [])).2

theorem dn_star (l : List UInt8) : dn (l ++ [42]) = dn l ++ [cu l] := by simp [dn, cu, spl, List.foldl_append]
theorem cu_star (l : List UInt8) : cu (l ++ [42]) = [] := by simp [cu, spl, List.foldl_append]
theorem dn_other (l : List UInt8) (c : UInt8) (h : c ≠ 42) : dn (l ++ [c]) = dn l := by simp [dn, spl, List.foldl_append, h]
theorem cu_other (l : List UInt8) (c : UInt8) (h : c ≠ 42) : cu (l ++ [c]) = cu l ++ [c] := by simp [cu, spl, List.foldl_append, h]

theorem spl_acc : ∀ (l : List UInt8) (acc : List (List UInt8)) (c0 : List UInt8), l.foldl spl (acc, c0) = (acc ++ (l.foldl spl ([], c0)).1, (l.foldl spl ([], c0)).2)
  | [], acc, c0 => by simp
  | c :: l, acc, c0 => by
    rw [List.foldl_cons, List.foldl_cons]
    by_cases h : c = 42
    · simp only [spl, h, if_true]
      rw [spl_acc l (acc ++ [c0]) [], spl_acc l ([] ++ [c0]) []]
      simp
    · simp only [spl, h, if_false]
      exact spl_acc l acc (c0 ++ [c])

theorem spl_free : ∀ (l : List UInt8) (c0 : List UInt8), (∀ c ∈ l, c ≠ 42) → l.foldl spl ([], c0) = ([], c0 ++ l)
  | [], c0, _ => by simp
  | c :: l, c0, h => by
    rw [List.foldl_cons]
    have hc : c ≠ 42 := h c (by simp)
    simp only [spl, hc, if_false]
    rw [spl_free l (c0 ++ [c]) fun d hd => h d (List.mem_cons_of_mem _ hd)]
    simp

theorem dn_free (l : List UInt8) (h : ∀ c ∈ l, c ≠ 42) : dn l = [] := by simp [dn, spl_free l [] h]
theorem cu_free (l : List UInt8) (h : ∀ c ∈ l, c ≠ 42) : cu l = l := by simp [cu, spl_free l [] h]

theorem spl_cut (a b : List UInt8) (h : ∀ c ∈ a, c ≠ 42) : (a ++ 42 :: b).foldl spl ([], []) = (a :: dn b, cu b) := by
  rw [List.foldl_append, spl_free a [] h, List.foldl_cons]
  simp only [spl, if_true, List.nil_append]
  rw [spl_acc b [a] []]
  rfl
theorem dn_cut (a b : List UInt8) (h : ∀ c ∈ a, c ≠ 42) : dn (a ++ 42 :: b) = a :: dn b := by unfold dn; rw [spl_cut a b h]; rfl
theorem cu_cut (a b : List UInt8) (h : ∀ c ∈ a, c ≠ 42) : cu (a ++ 42 :: b) = cu b := by unfold cu; rw [spl_cut a b h]; rfl

/-- The index of the first star, in words of lists. -/
theorem index_star (l : List UInt8) : (Lib.index l [42] = -1 ∧ ∀ c ∈ l, c ≠ 42) ∨ (∃ a b, l = a ++ 42 :: b ∧ (∀ c ∈ a, c ≠ 42) ∧ Lib.index l [42] = (a.length : Int)) := by
  induction l with
  | nil => exact .inl ⟨rfl, by simp⟩
  | cons c l ih =>
    by_cases e : c = 42
    · subst e
      exact .inr ⟨[], l, rfl, by simp, by simp [Lib.index]⟩
    · have e1 : List.isPrefixOf [42] (c :: l) = false := by
        simp only [List.isPrefixOf, Bool.and_true]
        rw [beq_eq_false_iff_ne]
        exact fun h => e h.symm
      rcases ih with ⟨h1, h2⟩ | ⟨a, b, h1, h2, h3⟩
      · refine .inl ⟨by simp [Lib.index, e1, h1], fun d hd => ?_⟩
        rcases List.mem_cons.1 hd with h | h
        · rw [h]; exact e
        · exact h2 d h
      · refine .inr ⟨c :: a, b, by rw [h1]; rfl, fun d hd => ?_, ?_⟩
        · rcases List.mem_cons.1 hd with h | h
          · rw [h]; exact e
          · exact h2 d h
        · have h4 : ((a.length : Int) == -1) = false := by rw [beq_eq_false_iff_ne]; omega
          rw [Lib.index, e1, h3, h4]
          simp

theorem split_pieces : ∀ (k : Nat) (l : List UInt8), Lib.count l [42] = k → Lib.splitK [42] 0 k l = dn l ++ [cu l]
  | 0, l, h => by
    rcases index_star l with ⟨_, h2⟩ | ⟨a, b, h1, h2, h3⟩
    · rw [dn_free l h2, cu_free l h2]; rfl
    · have := Lib.count_hit (by simp) h3
      omega
  | k + 1, l, h => by
    rcases index_star l with ⟨h1, _⟩ | ⟨a, b, h1, h2, h3⟩
    · rw [Lib.count_miss h1] at h; omega
    · have hc := Lib.count_hit (by simp) h3
      have hm : ¬ (Lib.index l [42] == -1) = true := by
        rw [h3, beq_iff_eq]; omega
      have hd : l.drop (a.length + [(42 : UInt8)].length) = b := by
        rw [h1, List.drop_append, List.drop_of_length_le (by simp)]
        simp
      have ht : l.take (a.length + 0) = a := by rw [h1]; simp
      rw [hd] at hc
      rw [Lib.splitK, if_neg hm, h3, Int.toNat_natCast, hd, ht, split_pieces k b (by omega)]
      rw [h1, dn_cut a b h2, cu_cut a b h2]
      rfl

theorem parts_pieces (s : ByteArray) : (parts s).map (·.data.toList) = dn s.data.toList ++ [cu s.data.toList] := by
  unfold parts
  rw [Lib.splitB_data]
  exact split_pieces _ _ rfl

/-! ### The path as a list of steps, first step first -/
def seg (l : List UInt8) : Path := l.map some ++ [none]
def mids (l : List UInt8) : List (List UInt8) := (dn l).tail.filter fun m => !m.isEmpty
def steps (pre suf : List UInt8) (ms : List (List UInt8)) : Path := seg pre ++ seg suf.reverse ++ (ms.map seg).flatten

theorem walk_rev (p : Path) (l : List UInt8) : (none :: walk p l).reverse = p.reverse ++ seg l := by simp [walk, seg]

theorem fold_rev : ∀ (ms : List ByteArray) (q : Path), (ms.foldl midStep q).reverse = q.reverse ++ (((ms.map (·.data.toList)).filter fun m => !m.isEmpty).map seg).flatten
  | [], q => by simp
  | m :: ms, q => by
    rw [List.foldl_cons, fold_rev ms]
    by_cases h : m.size = 0
    · have e : m.data.toList.isEmpty = true := by
        rw [List.isEmpty_iff, ← List.length_eq_zero_iff]; simpa using h
      rw [midStep, if_pos h, List.map_cons, List.filter_cons, e]
      simp
    · have e : m.data.toList.isEmpty = false := by
        rw [Bool.eq_false_iff]
        intro h2
        rw [List.isEmpty_iff, ← List.length_eq_zero_iff] at h2
        exact h (by simpa using h2)
      rw [midStep, if_neg h, walk_rev, List.map_cons, List.filter_cons, e]
      simp

theorem star_dn (s : ByteArray) (h : hasStar s.data.toList = true) : dn s.data.toList ≠ [] := by
  intro e
  have hl := congrArg List.length (parts_pieces s)
  rw [e, List.length_map, parts_length, countB_star] at hl
  unfold hasStar at h
  obtain ⟨c, hc, he⟩ := List.any_eq_true.1 h
  obtain rfl : c = 42 := by simpa using he
  have := List.count_pos_iff.2 hc
  have hl : List.count 42 s.data.toList + 1 = 0 + 1 := hl
  omega

theorem nth_data (ps : List ByteArray) (i : Nat) : (nth ps i).data.toList = (ps.map (·.data.toList)).getD i [] := by
  unfold nth
  by_cases h : i < ps.length
  · simp [List.getD, h]
  · rw [List.getD, List.getD, List.getElem?_eq_none (by omega), List.getElem?_eq_none (by simp; omega)]
    rfl

theorem kp_steps (s : ByteArray) (h : hasStar s.data.toList = true) : (kp s).reverse = steps ((dn s.data.toList).headD []) (cu s.data.toList) (mids s.data.toList) := by
  have hP := parts_pieces s
  have hne := star_dn s h
  obtain ⟨d0, ds, hd⟩ : ∃ d0 ds, dn s.data.toList = d0 :: ds := by
    cases hd : dn s.data.toList with
    | nil => exact absurd hd hne
    | cons a b => exact ⟨a, b, rfl⟩
  unfold kp keyPath midPath
  rw [fold_rev]
  have hlen : (parts s).length = ds.length + 2 := by
    have := congrArg List.length hP
    rw [hd] at this
    simpa using this
  have h0 : (nth (parts s) 0).data.toList = d0 := by rw [nth_data, hP, hd]; rfl
  have h1 : (nth (parts s) ((parts s).length - 1)).data.toList = cu s.data.toList := by
    rw [nth_data, hP, hd, hlen]
    simp [List.getD]
  have h2 : (((parts s).drop 1).take ((parts s).length - 2)).map (·.data.toList) = ds := by
    rw [List.map_take, List.map_drop, hP, hd, hlen]
    simp
  rw [h2]
  unfold sufPath
  rw [walk_rev, walk_rev, h0, h1, hd]
  unfold steps mids
  rw [hd]
  simp

theorem seg_inj : ∀ (a b : List UInt8) (x y : Path), seg a ++ x = seg b ++ y → a = b ∧ x = y
  | [], [], x, y, h => ⟨rfl, by simpa [seg] using h⟩
  | [], c :: b, x, y, h => by simp [seg] at h
  | c :: a, [], x, y, h => by simp [seg] at h
  | c :: a, d :: b, x, y, h => by
    have h1 : c = d ∧ seg a ++ x = seg b ++ y := by simpa [seg] using h
    obtain ⟨e1, e2⟩ := seg_inj a b x y h1.2
    exact ⟨by rw [h1.1, e1], e2⟩

theorem segs_inj : ∀ (a b : List (List UInt8)), (a.map seg).flatten = (b.map seg).flatten → a = b
  | [], [], _ => rfl
  | [], c :: b, h => by simp [seg] at h
  | c :: a, [], h => by simp [seg] at h
  | c :: a, d :: b, h => by
    rw [List.map_cons, List.flatten_cons, List.map_cons, List.flatten_cons] at h
    obtain ⟨e1, e2⟩ := seg_inj c d _ _ h
    rw [e1, segs_inj a b e2]

/-- Two globs lead to one path just where the keys are one. -/
theorem kp_eq (s t : ByteArray) (hs : hasStar s.data.toList = true) (ht : hasStar t.data.toList = true) :
    kp s = kp t ↔ (dn s.data.toList).headD [] = (dn t.data.toList).headD [] ∧ cu s.data.toList = cu t.data.toList ∧ mids s.data.toList = mids t.data.toList := by
  constructor
  · intro e
    have e1 := congrArg List.reverse e
    rw [kp_steps s hs, kp_steps t ht] at e1
    unfold steps at e1
    rw [List.append_assoc, List.append_assoc] at e1
    obtain ⟨a1, a2⟩ := seg_inj _ _ _ _ e1
    obtain ⟨b1, b2⟩ := seg_inj _ _ _ _ a2
    exact ⟨a1, by simpa using congrArg List.reverse b1, segs_inj _ _ b2⟩
  · rintro ⟨h1, h2, h3⟩
    have e1 : (kp s).reverse = (kp t).reverse := by rw [kp_steps s hs, kp_steps t ht, h1, h2, h3]
    simpa using congrArg List.reverse e1
end Go.Proofs.Qxb6606410aDoor
