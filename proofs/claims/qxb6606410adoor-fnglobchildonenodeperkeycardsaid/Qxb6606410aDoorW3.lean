/-
  forward (20), backward (22), their closures (27, 29), bytes.IndexByte (34), trie.child (26, 28).
-/
import Derived.Test.Qxb6606410aDoorW2
import Derived.Test.Qxb6606410aDoorHeap2
import Derived.Test.Qxb6606410aDoorShelf
import Derived.Maps.AppendAt
namespace Go.Proofs.Qxb6606410aDoor
open Go.RowKit

set_option maxHeartbeats 400000 in
theorem forward_any (s : ByteArray) (w : World) :
    Calls Tryd.prog 20 #[.string s] w fun e w' => e = .returned (.func (.func 27) #[] #[.pointer (some ⟨w.heap.size, 0, none⟩)]) ∧ w' = w.alloc (.cells #[.string s] 9) := by
  go_enter Tryd.func20, Tryd.ntmps20
  go_wp2
  go_ret
  exact ⟨rfl, rfl⟩

set_option maxHeartbeats 400000 in
theorem backward_any (s : ByteArray) (w : World) :
    Calls Tryd.prog 22 #[.string s] w fun e w' => e = .returned (.func (.func 29) #[] #[.pointer (some ⟨w.heap.size, 0, none⟩)]) ∧ w' = w.alloc (.cells #[.string s] 9) := by
  go_enter Tryd.func22, Tryd.ntmps22
  go_wp2
  go_ret
  exact ⟨rfl, rfl⟩

set_option maxHeartbeats 400000 in
theorem fwd_any (s : ByteArray) (bx k : Nat) (w : World) (hk : k < s.size) (hc : w.cell? ⟨bx, 0, none⟩ = some (.string s)) :
    Calls Tryd.prog 27 #[.int .i64 k, .pointer (some ⟨bx, 0, none⟩)] w fun e w' => e = .returned (bv s[k]) ∧ w' = w := by
  go_enter Tryd.func27, Tryd.ntmps27
  go_wp2
  go_ret
  exact ⟨rfl, rfl⟩

set_option maxHeartbeats 400000 in
theorem bwd_any (s : ByteArray) (bx k : Nat) (w : World) (hs : s.size ≤ maxLen) (hk : k < s.size) (hc : w.cell? ⟨bx, 0, none⟩ = some (.string s)) :
    Calls Tryd.prog 29 #[.int .i64 k, .pointer (some ⟨bx, 0, none⟩)] w fun e w' => e = .returned (bv (s[s.size - 1 - k]'(by omega))) ∧ w' = w := by
  unfold maxLen at hs
  go_enter Tryd.func29, Tryd.ntmps29
  go_wp2
  go_ret
  exact ⟨rfl, rfl⟩

theorem index_any (b n c : Nat) (l : List UInt8) (x : UInt8) (w : World) (hl : l.length = n) (hc : ∀ i, i < n → w.cell? ⟨b, 0 + i, none⟩ = some (bv (l.getD i 0))) :
    Calls Tryd.prog 34 #[.slice (some ⟨b, 0, none⟩) n c, bv x] w fun e w' => e = .returned (.int .i64 (Lib.indexByte l x)) ∧ w' = w := by
  have hx : (l.map fun y => (y.toNat : Int)).length = n := by simpa using hl
  have hc' : ∀ i, i < n → w.cell? ⟨b, 0 + i, none⟩ = some (.int .u8 ((l.map fun y => (y.toNat : Int)).getD i 0)) := fun i hi => by
    rw [hc i hi]; simp [bv, List.getD, show i < l.length by omega]
  have e1 : Lib.bytesOf (l.map fun y => (y.toNat : Int)) = l := by
    unfold Lib.bytesOf
    rw [List.map_map]
    have h : ((fun n : Int => UInt8.ofNat n.toNat) ∘ fun y : UInt8 => (y.toNat : Int)) = id := by funext y; simp
    rw [h, List.map_id]
  have e2 : (x.toNat : Int).toNat.toUInt8 = x := by simp
  have h := Tryd.bytes_IndexByte b 0 n c _ (x.toNat : Int) w hx hc'
  rw [e1, e2] at h
  exact h

theorem index_nil (x : UInt8) (w : World) :
    Calls Tryd.prog 34 #[.slice none 0 0, bv x] w fun e w' => e = .returned (.int .i64 (-1)) ∧ w' = w :=
  Tryd.bytes_IndexByte_nil (x.toNat : Int) w

theorem index_lead {w : World} {p : Path} {r : Node} (hN : NodeOk w p r) (x : UInt8) :
    (Hid (Calls Tryd.prog 34 #[.slice r.la r.lead.length r.lc, bv x] w fun e w' => e = .returned (.int .i64 (-1)) ∧ w' = w) ∧ x ∉ r.lead) ∨
    (∃ i g2 k : Nat, Hid (Calls Tryd.prog 34 #[.slice r.la r.lead.length r.lc, bv x] w fun e w' => e = .returned (.int .i64 (i : Int)) ∧ w' = w) ∧ i < r.kids.length ∧ r.na = some ⟨g2, 0, none⟩ ∧
      w.cell? ⟨g2, i, none⟩ = some (.pointer (some ⟨k, 0, none⟩)) ∧ r.edge (some x) = some k) := by
  have hC : Calls Tryd.prog 34 #[.slice r.la r.lead.length r.lc, bv x] w fun e w' => e = .returned (.int .i64 (Lib.indexByte r.lead x)) ∧ w' = w := by
    have hrow := hN.leadRow
    generalize r.la = la at hrow
    generalize r.lc = lc at hrow
    rcases hrow.2 with ⟨e, h0⟩ | ⟨g, cap, cur, e, _, _, _⟩
    · rw [e, List.eq_nil_of_length_eq_zero h0]
      exact index_nil x w
    · simp only [Value.slice.injEq, true_and] at e
      obtain ⟨rfl, rfl⟩ := e
      refine index_any g _ _ _ x w rfl fun i hi => ?_
      rw [Nat.zero_add, hrow.cellAt i (by simpa using hi)]
      simp [hi]
  rcases index_cases r.lead x with ⟨h1, h2⟩ | ⟨i, h1, h2, h3⟩
  · rw [h1] at hC
    exact .inl ⟨hC, h2⟩
  · rw [h1] at hC
    have hik : i < r.kids.length := by rw [hN.len]; exact h2
    have he : r.edge (some x) = some r.kids[i] := by
      show (r.lead.zip r.kids).lookup x = _
      rw [h3 r.kids hN.len]; simp [hik]
    have hrow := hN.nextRow
    rcases hrow.2 with ⟨e, h0⟩ | ⟨g, cap, cur, e, _, _, _⟩
    · omega
    · simp only [Value.slice.injEq, true_and] at e
      obtain ⟨ena, enc⟩ := e
      rw [ena, enc] at hrow
      refine .inr ⟨i, g, r.kids[i], hC, hik, ena, ?_, he⟩
      rw [hrow.cellAt i (by simpa using hik)]
      simp [hik, pv]

set_option maxHeartbeats 400000 in
theorem child26_yes (b off n lc m nc i g2 k : Nat) (la : Option Addr) (x : UInt8) (w : World) (hl : w.cell? ⟨b, off + 1, none⟩ = some (.slice la n lc)) (hx : Hid (Calls Tryd.prog 34 #[.slice la n lc, bv x] w fun e w' => e = .returned (.int .i64 (i : Int)) ∧ w' = w))
    (hn : w.cell? ⟨b, off + 2, none⟩ = some (.slice (some ⟨g2, 0, none⟩) m nc)) (hi : i < m) (_hm : m ≤ 256) (hk : w.cell? ⟨g2, i, none⟩ = some (.pointer (some ⟨k, 0, none⟩))) :
    Calls Tryd.prog 26 #[.pointer (some ⟨b, off, none⟩), bv x] w fun e w' => e = .returned (.pointer (some ⟨k, 0, none⟩)) ∧ w' = w := by
  go_enter Tryd.func26, Tryd.ntmps26
  go_wp2_with (go_at_call 34; refine (hx.out).mono ?_; rintro e w' ⟨rfl, rfl⟩)
  go_ret
  exact ⟨rfl, rfl⟩

set_option maxHeartbeats 400000 in
theorem child26_no (b off n lc : Nat) (la : Option Addr) (x : UInt8) (w : World) (hl : w.cell? ⟨b, off + 1, none⟩ = some (.slice la n lc)) (hx : Hid (Calls Tryd.prog 34 #[.slice la n lc, bv x] w fun e w' => e = .returned (.int .i64 (-1)) ∧ w' = w)) :
    Calls Tryd.prog 26 #[.pointer (some ⟨b, off, none⟩), bv x] w fun e w' => e = .returned (.pointer none) ∧ w' = w := by
  go_enter Tryd.func26, Tryd.ntmps26
  go_wp2_with (go_at_call 34; refine (hx.out).mono ?_; rintro e w' ⟨rfl, rfl⟩)
  go_ret
  exact ⟨rfl, rfl⟩

theorem child26_any {w : World} {p : Path} {r : Node} (hN : NodeOk w p r) (x : UInt8) :
    Calls Tryd.prog 26 #[.pointer (some ⟨r.b, offOf p, none⟩), bv x] w fun e w' => e = .returned (ptr (r.edge (some x))) ∧ w' = w := by
  rcases index_lead hN x with ⟨hx, hnot⟩ | ⟨i, g2, k, hx, hi, hna, hk, he⟩
  · rw [show r.edge (some x) = none from lookup_none hnot]
    exact child26_no _ _ _ _ _ _ _ hN.lead hx
  · rw [he]
    have hnx := hN.next
    rw [hna] at hnx
    exact child26_yes _ _ _ _ _ _ _ _ _ _ _ _ hN.lead hx hnx hi (by rw [hN.len]; exact nodup_len _ hN.nodup) hk

set_option maxHeartbeats 400000 in
theorem child28_yes (b off n lc m nc i g2 k : Nat) (la : Option Addr) (x : UInt8) (w : World) (hl : w.cell? ⟨b, off + 1, none⟩ = some (.slice la n lc)) (hx : Hid (Calls Tryd.prog 34 #[.slice la n lc, bv x] w fun e w' => e = .returned (.int .i64 (i : Int)) ∧ w' = w))
    (hn : w.cell? ⟨b, off + 2, none⟩ = some (.slice (some ⟨g2, 0, none⟩) m nc)) (hi : i < m) (_hm : m ≤ 256) (hk : w.cell? ⟨g2, i, none⟩ = some (.pointer (some ⟨k, 0, none⟩))) :
    Calls Tryd.prog 28 #[.pointer (some ⟨b, off, none⟩), bv x] w fun e w' => e = .returned (.pointer (some ⟨k, 0, none⟩)) ∧ w' = w := by
  go_enter Tryd.func28, Tryd.ntmps28
  go_wp2_with (go_at_call 34; refine (hx.out).mono ?_; rintro e w' ⟨rfl, rfl⟩)
  go_ret
  exact ⟨rfl, rfl⟩

set_option maxHeartbeats 400000 in
theorem child28_no (b off n lc : Nat) (la : Option Addr) (x : UInt8) (w : World) (hl : w.cell? ⟨b, off + 1, none⟩ = some (.slice la n lc)) (hx : Hid (Calls Tryd.prog 34 #[.slice la n lc, bv x] w fun e w' => e = .returned (.int .i64 (-1)) ∧ w' = w)) :
    Calls Tryd.prog 28 #[.pointer (some ⟨b, off, none⟩), bv x] w fun e w' => e = .returned (.pointer none) ∧ w' = w := by
  go_enter Tryd.func28, Tryd.ntmps28
  go_wp2_with (go_at_call 34; refine (hx.out).mono ?_; rintro e w' ⟨rfl, rfl⟩)
  go_ret
  exact ⟨rfl, rfl⟩

theorem child28_any {w : World} {p : Path} {r : Node} (hN : NodeOk w p r) (x : UInt8) :
    Calls Tryd.prog 28 #[.pointer (some ⟨r.b, offOf p, none⟩), bv x] w fun e w' => e = .returned (ptr (r.edge (some x))) ∧ w' = w := by
  rcases index_lead hN x with ⟨hx, hnot⟩ | ⟨i, g2, k, hx, hi, hna, hk, he⟩
  · rw [show r.edge (some x) = none from lookup_none hnot]
    exact child28_no _ _ _ _ _ _ _ hN.lead hx
  · rw [he]
    have hnx := hN.next
    rw [hna] at hnx
    exact child28_yes _ _ _ _ _ _ _ _ _ _ _ _ hN.lead hx hnx hi (by rw [hN.len]; exact nodup_len _ hN.nodup) hk
end Go.Proofs.Qxb6606410aDoor
