/-
  trie.put (15, 17), trie.putSuffix (16).
-/
import Derived.Test.Qxb6606410aDoorW5
namespace Go.Proofs.Qxb6606410aDoor
open Go.RowKit

/-- What 'put' leaves: the value's block under 'none :: the key's path'. -/
def Put (w : World) (g B : Nat) (T : Tri) (q : Path) (e : Ending) (w' : World) : Prop :=
  ∃ T' r' k, e = .returned (.pointer (some ⟨k, 0, none⟩)) ∧ Inv w' g B T' ∧ Fr w w' T T' ∧ T' (none :: q) = some r' ∧ r'.b = k

theorem put_of {w w1 w' : World} {g B : Nat} {T : Tri} {q : Path} {e : Ending} (hb : Below w.heap.size w w1)
    (h : ∃ T' r' k, e = .returned (.pointer (some ⟨k, 0, none⟩)) ∧ Inv w' g B T' ∧ Fr w1 w' T T' ∧ T' q = some r' ∧ r'.val = some k) : Put w g B T q e w' := by
  obtain ⟨T', r', k, he, hI, hF, hT, hv⟩ := h
  have := hI.edge q r' none hT
  rw [show r'.edge none = some k from hv] at this
  obtain ⟨r2, h2, hb2⟩ := Option.map_eq_some_iff.1 this
  exact ⟨T', r2, k, he, hI, (Fr.below T hb).trans hF, h2, hb2⟩

set_option maxHeartbeats 400000 in
theorem put15_any (w : World) (g B : Nat) (T : Tri) (p : Path) (r : Node) (s : ByteArray) (hI : Inv w g B T) (hB : B ≤ w.heap.size) (hp : T p = some r) (ht : top p = true) (hs : s.size ≤ maxLen) :
    Calls Tryd.prog 15 #[.pointer (some ⟨r.b, offOf p, none⟩), .string s] w fun e w' => Put w g B T (walk p s.data.toList) e w' := by
  have hb : Below w.heap.size w (w.alloc (.cells #[.string s] 9)) := (Below.refl _ _).alloc (Nat.le_refl _) _
  have HA : Hid (Calls Tryd.prog 19 #[.pointer (some ⟨r.b, offOf p, none⟩), .int .i64 s.size, .func (.func 27) #[] #[.pointer (some ⟨w.heap.size, 0, none⟩)]] (w.alloc (.cells #[.string s] 9)) fun e w' => Put w g B T (walk p s.data.toList) e w') :=
    (add19_any (w.alloc (.cells #[.string s] 9)) g B w.heap.size T p r s (hI.below hb) (by simp; omega) hp ht hs s.data.toList rfl (by simp) (fun ⟨q, r2, h1, h2⟩ => by have := (hI.lo q r2 _ h1 h2).2; omega)).mono fun e w' h => put_of hb h
  clear hI hp ht hs hb hB
  go_enter Tryd.func15, Tryd.ntmps15
  go_wp2_with fail
  refine (forward_any s w).mono ?_
  rintro e w1 ⟨rfl, rfl⟩
  go_wp2_with fail
  refine HA.out.mono ?_
  rintro e w2 ⟨T', r', k, rfl, h⟩
  go_wp2_with fail
  go_ret
  exact ⟨T', r', k, rfl, h⟩

set_option maxHeartbeats 400000 in
theorem put17_any (w : World) (g B : Nat) (T : Tri) (p : Path) (r : Node) (s : ByteArray) (hI : Inv w g B T) (hB : B ≤ w.heap.size) (hp : T p = some r) (ht : top p = false) (hs : s.size ≤ maxLen) :
    Calls Tryd.prog 17 #[.pointer (some ⟨r.b, offOf p, none⟩), .string s] w fun e w' => Put w g B T (walk p s.data.toList) e w' := by
  have hb : Below w.heap.size w (w.alloc (.cells #[.string s] 9)) := (Below.refl _ _).alloc (Nat.le_refl _) _
  have HA : Hid (Calls Tryd.prog 21 #[.pointer (some ⟨r.b, offOf p, none⟩), .int .i64 s.size, .func (.func 27) #[] #[.pointer (some ⟨w.heap.size, 0, none⟩)]] (w.alloc (.cells #[.string s] 9)) fun e w' => Put w g B T (walk p s.data.toList) e w') :=
    (add21_fwd (w.alloc (.cells #[.string s] 9)) g B w.heap.size T p r s (hI.below hb) (by simp; omega) hp ht hs s.data.toList rfl (by simp) (fun ⟨q, r2, h1, h2⟩ => by have := (hI.lo q r2 _ h1 h2).2; omega)).mono fun e w' h => put_of hb h
  clear hI hp ht hs hb hB
  go_enter Tryd.func17, Tryd.ntmps17
  go_wp2_with fail
  refine (forward_any s w).mono ?_
  rintro e w1 ⟨rfl, rfl⟩
  go_wp2_with fail
  refine HA.out.mono ?_
  rintro e w2 ⟨T', r', k, rfl, h⟩
  go_wp2_with fail
  go_ret
  exact ⟨T', r', k, rfl, h⟩

set_option maxHeartbeats 400000 in
theorem put16_any (w : World) (g B : Nat) (T : Tri) (p : Path) (r : Node) (s : ByteArray) (hI : Inv w g B T) (hB : B ≤ w.heap.size) (hp : T p = some r) (ht : top p = false) (hs : s.size ≤ maxLen) :
    Calls Tryd.prog 16 #[.pointer (some ⟨r.b, offOf p, none⟩), .string s] w fun e w' => Put w g B T (walk p s.data.toList.reverse) e w' := by
  have hb : Below w.heap.size w (w.alloc (.cells #[.string s] 9)) := (Below.refl _ _).alloc (Nat.le_refl _) _
  have HA : Hid (Calls Tryd.prog 21 #[.pointer (some ⟨r.b, offOf p, none⟩), .int .i64 s.size, .func (.func 29) #[] #[.pointer (some ⟨w.heap.size, 0, none⟩)]] (w.alloc (.cells #[.string s] 9)) fun e w' => Put w g B T (walk p s.data.toList.reverse) e w') :=
    (add21_bwd (w.alloc (.cells #[.string s] 9)) g B w.heap.size T p r s (hI.below hb) (by simp; omega) hp ht hs s.data.toList.reverse rfl (by simp) (fun ⟨q, r2, h1, h2⟩ => by have := (hI.lo q r2 _ h1 h2).2; omega)).mono fun e w' h => put_of hb h
  clear hI hp ht hs hb hB
  go_enter Tryd.func16, Tryd.ntmps16
  go_wp2_with fail
  refine (backward_any s w).mono ?_
  rintro e w1 ⟨rfl, rfl⟩
  go_wp2_with fail
  refine HA.out.mono ?_
  rintro e w2 ⟨T', r', k, rfl, h⟩
  go_wp2_with fail
  go_ret
  exact ⟨T', r', k, rfl, h⟩

end Go.Proofs.Qxb6606410aDoor
