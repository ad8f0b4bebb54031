/-
  What the laws need: zzCloneStrings at every slice; ZZglobSetChild at a glob with a star; two sets side by side.
-/
import Derived.Test.Qxb6606410aDoorW7
import Derived.Test.Qxb6606410aDoorShelf
import Derived.Lib.SplitLaws
namespace Go.Proofs.Qxb6606410aDoor
open Go.RowKit

def CloneEnd (n : Nat) (ss : List ByteArray) (w : World) (e : Ending) (w' : World) : Prop :=
  ∃ a' c', e = .returned (.slice a' n c') ∧ StrsAt w' a' n ss ∧ Below w.heap.size w w'

theorem clone_all (a : Option Addr) (n c : Nat) (ss : List ByteArray) (w : World) (ha : a = none → n = 0) (hn : n ≤ 1048576) (hc : StrsAt w a n ss) :
    Calls Tryd.prog 7 #[.slice a n c] w fun e w' => CloneEnd n ss w e w' := by
  cases a with
  | none =>
    obtain rfl := ha rfl
    exact (clone_nil c w).mono fun e w' ⟨h1, h2⟩ => by subst h2; exact ⟨none, 0, h1, fun i hi => by omega, Below.refl _ _⟩
  | some ad => exact (clone_some ad n c ss w hn hc).mono fun e w' ⟨h1, h2, h3⟩ => ⟨_, _, h1, h2, h3⟩

/-! ### The parts of a glob -/
def star : ByteArray := ⟨#[42]⟩
def parts (s : ByteArray) : List ByteArray := Lib.splitB star 0 (Lib.countB s star) s
def kp (s : ByteArray) : Path := keyPath (parts s)

theorem countB_star (s : ByteArray) : Lib.countB s star = s.data.toList.count 42 := Lib.count_one 42 s.data.toList

theorem parts_length (s : ByteArray) : (parts s).length = Lib.countB s star + 1 := Lib.splitB_all star (by decide) 0 _ s rfl

theorem splitB_size (sep : ByteArray) : ∀ (k : Nat) (s p : ByteArray), p ∈ Lib.splitB sep 0 k s → p.size ≤ s.size
  | 0, s, p, h => by
    rw [Lib.splitB_zero, List.mem_singleton] at h
    rw [h]; exact Nat.le_refl _
  | k + 1, s, p, h => by
    rw [Lib.splitB] at h
    split at h
    · rw [List.mem_singleton] at h
      rw [h]; exact Nat.le_refl _
    · rcases List.mem_cons.1 h with h | h
      · rw [h, ByteArray.size_extract]; omega
      · have := splitB_size sep k _ p h
        rw [ByteArray.size_extract] at this
        omega

theorem parts_size (s : ByteArray) (i : Nat) : (nth (parts s) i).size ≤ s.size := by
  unfold nth
  by_cases h : i < (parts s).length
  · rw [List.getD, List.getElem?_eq_getElem h]
    exact splitB_size star _ s _ (List.getElem_mem h)
  · rw [List.getD, List.getElem?_eq_none (by omega)]
    exact Nat.zero_le _

theorem got_any (w : World) (g B : Nat) (T : Tri) (s : ByteArray) (m : Int) (hI : Inv w g B T) (hB : B ≤ w.heap.size) (hs : s.size ≤ 1048576) (hm : w.cell? ⟨0, 0, none⟩ = some (.int .i64 m)) (hst : hasStar s.data.toList = true) :
    Calls Tryd.prog 9 #[.pointer (some ⟨g, 0, none⟩), .string s] w fun e w' => Got w g B T (kp s) e w' := by
  have hc1 : 1 ≤ Lib.countB s star := by
    rw [countB_star]
    unfold hasStar at hst
    obtain ⟨c, hc, he⟩ := List.any_eq_true.1 hst
    obtain rfl : c = 42 := by simpa using he
    exact List.count_pos_iff.2 hc
  have hc2 : Lib.countB s star ≤ s.size := Lib.countB_le star (by decide) _ s (Nat.le_refl _)
  obtain ⟨k, hk⟩ : ∃ k, Lib.countB s star = k + 1 := ⟨Lib.countB s star - 1, by omega⟩
  refine child9_any w g B T s (kp s) (child13_any w g B T s (parts s) k hI hB (by rw [parts_length, hk]) (by omega) (fun i => by have := parts_size s i; unfold maxLen; omega) ?_)
  have := Tryd.strings_Split s star m w (by omega) hm (by decide)
  rw [hk] at this
  unfold parts
  rw [hk]
  exact this

/-! ### Nodes -/
def pnOf (T : Tri) (q : Path) : Option Nat := (T q).bind (·.pn)

theorem pnOf_some {T : Tri} {q : Path} {k : Nat} : pnOf T q = some k ↔ ∃ r, T q = some r ∧ r.pn = some k := by
  unfold pnOf
  rw [Option.bind_eq_some_iff]

theorem pnOf_own {T : Tri} {q : Path} {k : Nat} (h : pnOf T q = some k) : Own T k := by
  obtain ⟨r, h1, h2⟩ := pnOf_some.1 h
  exact ⟨q, r, h1, mem_blocks.2 (.inr (.inr (.inr (by rw [h2]; simp))))⟩

theorem Inv.pn_inj {w : World} {g B : Nat} {T : Tri} (hI : Inv w g B T) {q1 q2 : Path} {k1 k2 : Nat} (h1 : pnOf T q1 = some k1) (h2 : pnOf T q2 = some k2) : k1 = k2 ↔ q1 = q2 := by
  constructor
  · intro e
    subst e
    obtain ⟨r1, a1, b1⟩ := pnOf_some.1 h1
    obtain ⟨r2, a2, b2⟩ := pnOf_some.1 h2
    refine Classical.byContradiction fun hne => ?_
    exact hI.apart q1 q2 r1 r2 a1 a2 hne k1 (mem_blocks.2 (.inr (.inr (.inr (by rw [b1]; simp))))) (mem_blocks.2 (.inr (.inr (.inr (by rw [b2]; simp)))))
  · intro e
    subst e
    rw [h1] at h2
    exact Option.some.inj h2

theorem Fr.pn {w w' : World} {T T' : Tri} (h : Fr w w' T T') {q : Path} {k : Nat} (h1 : pnOf T q = some k) : pnOf T' q = some k := by
  obtain ⟨r, a, b⟩ := pnOf_some.1 h1
  obtain ⟨r', a', _, _, n'⟩ := h.ext q r a
  exact pnOf_some.2 ⟨r', a', n' k b⟩

/-- Two sets side by side, and two rows of nodes beside them. -/
structure Two (w : World) (ga gb B : Nat) (Ta Tb : Tri) (NA NB : Nat) : Prop where
  ia : Inv w ga B Ta
  ib : Inv w gb B Tb
  ab : ∀ k, Own Ta k → ¬ Own Tb k
  na : ¬ Own Ta NA ∧ ¬ Own Tb NA ∧ NA < w.heap.size
  nb : ¬ Own Ta NB ∧ ¬ Own Tb NB ∧ NB < w.heap.size
  lo : B ≤ w.heap.size

theorem Two.stepA {w w' : World} {ga gb B : Nat} {Ta Tb Ta' : Tri} {NA NB : Nat} (h : Two w ga gb B Ta Tb NA NB) (hI : Inv w' ga B Ta') (hF : Fr w w' Ta Ta') : Two w' ga gb B Ta' Tb NA NB where
  ia := hI
  ib := h.ib.same hF.size fun k ⟨q, r, a, b⟩ => hF.block k (h.ib.lo q r k a b).2 fun ho => h.ab k ho ⟨q, r, a, b⟩
  ab := fun k ho hb => by
    rcases hF.own k ho with h1 | h1
    · exact h.ab k h1 hb
    · obtain ⟨q, r, a, b⟩ := hb; have := (h.ib.lo q r k a b).2; omega
  na := ⟨fun ho => by rcases hF.own _ ho with h1 | h1; exact h.na.1 h1; have := h.na.2.2; omega, h.na.2.1, Nat.lt_of_lt_of_le h.na.2.2 hF.size⟩
  nb := ⟨fun ho => by rcases hF.own _ ho with h1 | h1; exact h.nb.1 h1; have := h.nb.2.2; omega, h.nb.2.1, Nat.lt_of_lt_of_le h.nb.2.2 hF.size⟩
  lo := Nat.le_trans h.lo hF.size

theorem Two.swap {w : World} {ga gb B : Nat} {Ta Tb : Tri} {NA NB : Nat} (h : Two w ga gb B Ta Tb NA NB) : Two w gb ga B Tb Ta NA NB :=
  ⟨h.ib, h.ia, fun k hb ha => h.ab k ha hb, ⟨h.na.2.1, h.na.1, h.na.2.2⟩, ⟨h.nb.2.1, h.nb.1, h.nb.2.2⟩, h.lo⟩

/-- The world turns outside both sets: a store into a row of nodes, a draw. -/
theorem Two.outside {w w' : World} {ga gb B : Nat} {Ta Tb : Tri} {NA NB : Nat} (h : Two w ga gb B Ta Tb NA NB) (hs : w.heap.size ≤ w'.heap.size) (hk : ∀ k, Own Ta k ∨ Own Tb k → w'.heap[k]? = w.heap[k]?) : Two w' ga gb B Ta Tb NA NB :=
  ⟨h.ia.same hs fun k o => hk k (.inl o), h.ib.same hs fun k o => hk k (.inr o), h.ab, ⟨h.na.1, h.na.2.1, Nat.lt_of_lt_of_le h.na.2.2 hs⟩, ⟨h.nb.1, h.nb.2.1, Nat.lt_of_lt_of_le h.nb.2.2 hs⟩, Nat.le_trans h.lo hs⟩

/-- The row's cell i holds the node of the i-th glob. -/
def Filled (T : Tri) (ss : List ByteArray) (xs : List Value) (i : Nat) : Prop :=
  ∃ k, xs[i]? = some (pv k) ∧ pnOf T (kp (ss.getD i ByteArray.empty)) = some k

theorem Filled.fr {w w' : World} {T T' : Tri} {ss : List ByteArray} {xs : List Value} {i : Nat} (h : Filled T ss xs i) (hF : Fr w w' T T') : Filled T' ss xs i := by
  obtain ⟨k, h1, h2⟩ := h
  exact ⟨k, h1, hF.pn h2⟩

theorem Filled.set {T : Tri} {ss : List ByteArray} {xs : List Value} {i j : Nat} {v : Value} (h : Filled T ss xs i) (hne : j ≠ i) : Filled T ss (xs.set j v) i := by
  obtain ⟨k, h1, h2⟩ := h
  exact ⟨k, by rw [List.getElem?_set_ne hne]; exact h1, h2⟩

theorem Filled.here {T : Tri} {ss : List ByteArray} {xs : List Value} {i k : Nat} (hi : i < xs.length) (h : pnOf T (kp (ss.getD i ByteArray.empty)) = some k) : Filled T ss (xs.set i (pv k)) i :=
  ⟨k, by rw [List.getElem?_set_self hi], h⟩
end Go.Proofs.Qxb6606410aDoor
