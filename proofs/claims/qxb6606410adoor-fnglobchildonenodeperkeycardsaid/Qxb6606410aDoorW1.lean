/-
  Walks of the plain helpers: zzBytes (5, 12), zzHasStar (6), zzCloneStrings (7), ZZnewGlobSet (8).
-/
import Derived.Test.Qxb6606410aDoorRows
import Derived.WalkKit
import Derived.WalkSpells
import Derived.WalkLawsBesides
namespace Go.Proofs.Qxb6606410aDoor
open Go.RowKit

theorem ret_bool {a b : Bool} (h : a = b) : Ending.returned (.bool a) = .returned (.bool b) := by rw [h]

/-- Does the list hold a star? -/
def hasStar (l : List UInt8) : Bool := l.any (· == 42)

theorem take_snoc (s : ByteArray) (k : Nat) (h : k < s.size) : s.data.toList.take (k + 1) = s.data.toList.take k ++ [s[k]] := by
  rw [List.take_succ_eq_append_getElem (by simpa using h)]; rfl

theorem hasStar_at (s : ByteArray) (k : Nat) (h : k < s.size) (e : ((s[k].toNat : Int) == 42) = true) : hasStar s.data.toList = true := by
  have e1 : s[k].toNat = 42 := by simp at e; omega
  have e2 : s[k] = 42 := UInt8.toNat_inj.1 e1
  unfold hasStar
  rw [List.any_eq_true]
  exact ⟨s[k], by show s.data[k] ∈ _; simp, by simp [e2]⟩

theorem hasStar_snoc (l : List UInt8) (c : UInt8) (h : hasStar l = false) (e : ((c.toNat : Int) == 42) = false) : hasStar (l ++ [c]) = false := by
  have e2 : (c == 42) = false := by
    rw [beq_eq_false_iff_ne]; intro hc; subst hc; simp at e
  unfold hasStar at *
  rw [List.any_append, h]; simpa using e2

set_option maxHeartbeats 400000 in
theorem hasStar_any (s : ByteArray) (w : World) (hs : s.size ≤ maxLen) :
    Calls Tryd.prog 6 #[.string s] w fun e w' => e = .returned (.bool (hasStar s.data.toList)) ∧ w' = w := by
  unfold maxLen at hs
  go_enter Tryd.func6, Tryd.ntmps6
  go_wp2
  go_loop [3] (fun i => ∃ k : Nat, k ≤ s.size ∧ i = .int .i64 k ∧ hasStar (s.data.toList.take k) = false) (fun i => s.size - (intOf i).toNat)
  case atStart => exact ⟨0, Nat.zero_le _, rfl, rfl⟩
  case round =>
    obtain ⟨k, hk, rfl, hn⟩ := hrel
    have HN : Hid (hasStar (s.data.toList.take k) = false) := hn
    clear hn
    by_cases hlt : k < s.size
    · have HT : Hid (s.data.toList.take (k + 1) = s.data.toList.take k ++ [s[k]]) := take_snoc s k hlt
      go_wp2
      · go_ret
        exact ⟨ret_bool (hasStar_at s k hlt (by assumption)).symm, rfl⟩
      · go_round
        case rel => exact ⟨k + 1, by omega, by go_num, by rw [HT.out]; exact hasStar_snoc _ _ HN.out (by assumption)⟩
        case measure => simp [intOf]; omega
    · go_wp2
      go_ret
      exact ⟨ret_bool (by rw [← HN.out, List.take_of_length_le (by simp; omega)]), rfl⟩

/-- Every string so far is short. -/
def Short (ss : List ByteArray) (k : Nat) : Prop := ∀ i, i < k → (ss.getD i ByteArray.empty).size ≤ 1048576
theorem Short.succ {ss : List ByteArray} {k : Nat} (h : Short ss k) (h2 : (ss.getD k ByteArray.empty).size ≤ 1048576) : Short ss (k + 1) := fun i hi => by
  by_cases e : i = k
  · rw [e]; exact h2
  · exact h i (by omega)

/-- It returns a bool: true only where each string is short. -/
def BoolEnd (ss : List ByteArray) (n : Nat) (e : Ending) : Prop := ∃ r : Bool, e = .returned (.bool r) ∧ (r = true → Short ss n)

/-- The first n cells from the address on hold the strings. -/
def StrsAt (w : World) (a : Option Addr) (n : Nat) (ss : List ByteArray) : Prop :=
  ∀ i, i < n → ∃ b off, a = some ⟨b, off, none⟩ ∧ w.cell? ⟨b, off + i, none⟩ = some (.string (ss.getD i ByteArray.empty))

set_option maxHeartbeats 400000 in
theorem bytes5_any (a : Option Addr) (n c : Nat) (ss : List ByteArray) (w : World) (hn : n ≤ maxLen) (hz : ∀ i, (ss.getD i ByteArray.empty).size ≤ maxLen) (hc : StrsAt w a n ss) :
    Calls Tryd.prog 5 #[.slice a n c] w fun e w' => BoolEnd ss n e ∧ w' = w := by
  unfold maxLen at hn
  go_enter Tryd.func5, Tryd.ntmps5
  go_wp2
  · go_ret
    exact ⟨⟨false, rfl, fun h => by cases h⟩, rfl⟩
  go_loop [3, 4] (fun z i => ∃ (k : Nat) (t : Int), k ≤ n ∧ 0 ≤ t ∧ t ≤ 1048576 ∧ i = .int .i64 k ∧ z = .int .i64 t ∧ Short ss k) (fun _ i => n - (intOf i).toNat)
  case atStart => exact ⟨0, n, Nat.zero_le _, by omega, by omega, rfl, rfl, fun i hi => by omega⟩
  case round =>
    obtain ⟨k, t, hk, ht0, ht1, rfl, rfl, hsh⟩ := hrel
    have HSH : Hid (Short ss k) := hsh
    clear hsh
    by_cases hlt : k < n
    · obtain ⟨b, off, rfl, hck⟩ := hc k hlt
      have hzk := hz k
      unfold maxLen at hzk
      have HS1 : Hid ((ss.getD k ByteArray.empty).size ≤ 1048576 → Short ss (k + 1)) := fun h => HSH.out.succ h
      generalize ss.getD k ByteArray.empty = s at hck hzk HS1
      clear hc hz
      go_wp2
      · go_ret
        exact ⟨⟨false, rfl, fun h => by cases h⟩, rfl⟩
      · go_ret
        exact ⟨⟨false, rfl, fun h => by cases h⟩, rfl⟩
      · go_round
        case rel => exact ⟨k + 1, _, by omega, by omega, by omega, by go_num, rfl, HS1.out (by omega)⟩
        case measure => simp [intOf]; omega
    · go_wp2
      go_ret
      exact ⟨⟨true, rfl, fun _ i hi => HSH.out i (by omega)⟩, rfl⟩

set_option maxHeartbeats 400000 in
theorem bytes12_any (a : Option Addr) (n c : Nat) (ss : List ByteArray) (w : World) (hn : n ≤ maxLen) (hz : ∀ i, (ss.getD i ByteArray.empty).size ≤ maxLen) (hc : StrsAt w a n ss) :
    Calls Tryd.prog 12 #[.slice a n c] w fun e w' => BoolEnd ss n e ∧ w' = w := by
  unfold maxLen at hn
  go_enter Tryd.func12, Tryd.ntmps12
  go_wp2
  · go_ret
    exact ⟨⟨false, rfl, fun h => by cases h⟩, rfl⟩
  go_loop [3, 4] (fun z i => ∃ (k : Nat) (t : Int), k ≤ n ∧ 0 ≤ t ∧ t ≤ 1048576 ∧ i = .int .i64 k ∧ z = .int .i64 t ∧ Short ss k) (fun _ i => n - (intOf i).toNat)
  case atStart => exact ⟨0, n, Nat.zero_le _, by omega, by omega, rfl, rfl, fun i hi => by omega⟩
  case round =>
    obtain ⟨k, t, hk, ht0, ht1, rfl, rfl, hsh⟩ := hrel
    have HSH : Hid (Short ss k) := hsh
    clear hsh
    by_cases hlt : k < n
    · obtain ⟨b, off, rfl, hck⟩ := hc k hlt
      have hzk := hz k
      unfold maxLen at hzk
      have HS1 : Hid ((ss.getD k ByteArray.empty).size ≤ 1048576 → Short ss (k + 1)) := fun h => HSH.out.succ h
      generalize ss.getD k ByteArray.empty = s at hck hzk HS1
      clear hc hz
      go_wp2
      · go_ret
        exact ⟨⟨false, rfl, fun h => by cases h⟩, rfl⟩
      · go_ret
        exact ⟨⟨false, rfl, fun h => by cases h⟩, rfl⟩
      · go_round
        case rel => exact ⟨k + 1, _, by omega, by omega, by omega, by go_num, rfl, HS1.out (by omega)⟩
        case measure => simp [intOf]; omega
    · go_wp2
      go_ret
      exact ⟨⟨true, rfl, fun _ i hi => HSH.out i (by omega)⟩, rfl⟩

set_option maxHeartbeats 400000 in
theorem newSet_any (w : World) :
    Calls Tryd.prog 8 #[] w fun e w' => e = .returned (.pointer (some ⟨w.heap.size, 0, none⟩)) ∧ w' = w.alloc (.cells #[.pointer none, .slice none 0 0, .slice none 0 0] 42) := by
  go_enter Tryd.func8, Tryd.ntmps8
  go_wp2
  go_ret
  exact ⟨rfl, rfl⟩
end Go.Proofs.Qxb6606410aDoor
