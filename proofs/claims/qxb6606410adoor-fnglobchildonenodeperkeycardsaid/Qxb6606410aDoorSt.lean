/-
  The state of the law on two sets: two sets, two rows of nodes. No Go text here.
-/
import Derived.Test.Qxb6606410aDoorW8
import Derived.LaidEqlPtr
namespace Go.Proofs.Qxb6606410aDoor
open Go.RowKit

theorem Inv.lower {w : World} {g B B' : Nat} {T : Tri} (h : Inv w g B T) (hB : B' ≤ B) : Inv w g B' T :=
  { h with lo := fun p r k a b => ⟨Nat.le_trans hB (h.lo p r k a b).1, (h.lo p r k a b).2⟩ }

structure St (w2 wr : World) (n ga gb B NA NB : Nat) (Ta Tb : Tri) (xs ys : List Value) : Prop where
  two : Two wr ga gb B Ta Tb NA NB
  ne : NA ≠ NB
  xa : wr.ownsRow B 30 1 (.slice (some ⟨NA, 0, none⟩) n n) n xs
  yb : wr.ownsRow B 30 1 (.slice (some ⟨NB, 0, none⟩) n n) n ys
  bl : Below B w2 wr

theorem Two.flip {w : World} {ga gb B : Nat} {Ta Tb : Tri} {NA NB : Nat} (h : Two w ga gb B Ta Tb NA NB) : Two w gb ga B Tb Ta NB NA :=
  ⟨h.ib, h.ia, fun k hb ha => h.ab k ha hb, ⟨h.nb.2.1, h.nb.1, h.nb.2.2⟩, ⟨h.na.2.1, h.na.1, h.na.2.2⟩, h.lo⟩

theorem St.flip {w2 wr : World} {n ga gb B NA NB : Nat} {Ta Tb : Tri} {xs ys : List Value} (h : St w2 wr n ga gb B NA NB Ta Tb xs ys) : St w2 wr n gb ga B NB NA Tb Ta ys xs :=
  ⟨h.two.flip, Ne.symm h.ne, h.yb, h.xa, h.bl⟩

theorem St.got {w2 wr w' : World} {n ga gb B NA NB : Nat} {Ta Tb Ta' : Tri} {xs ys : List Value} (h : St w2 wr n ga gb B NA NB Ta Tb xs ys) (hI : Inv w' ga B Ta') (hF : Fr wr w' Ta Ta') : St w2 w' n ga gb B NA NB Ta' Tb xs ys where
  two := h.two.stepA hI hF
  ne := h.ne
  xa := ownsRow_of_block h.xa fun k e => by cases e; exact hF.block NA h.two.na.2.2 h.two.na.1
  yb := ownsRow_of_block h.yb fun k e => by cases e; exact hF.block NB h.two.nb.2.2 h.two.nb.1
  bl := h.bl.trans (hF.to_below h.two.ia h.two.lo)

theorem St.store {w2 wr : World} {n ga gb B NA NB : Nat} {Ta Tb : Tri} {xs ys : List Value} (h : St w2 wr n ga gb B NA NB Ta Tb xs ys) (i : Nat) (v : Value) :
    St w2 (wr.setCell ⟨NA, i, none⟩ v) n ga gb B NA NB Ta Tb (xs.set i v) ys where
  two := h.two.outside (by simp) fun k ho => heap_setCell_other _ _ _ _ fun e => by
    have e : k = NA := e
    rcases ho with o | o
    · exact h.two.na.1 (e ▸ o)
    · exact h.two.na.2.1 (e ▸ o)
  ne := h.ne
  xa := (h.xa.stored i v).1
  yb := ownsRow_of_block h.yb fun k e => by cases e; exact heap_setCell_other _ _ _ _ (Ne.symm h.ne)
  bl := h.bl.setCell (by show B ≤ NA; exact (h.xa.lt NA rfl).1) v

theorem St.drew {w2 wr : World} {n ga gb B NA NB : Nat} {Ta Tb : Tri} {xs ys : List Value} (h : St w2 wr n ga gb B NA NB Ta Tb xs ys) : St w2 wr.drew n ga gb B NA NB Ta Tb xs ys where
  two := h.two.outside (Nat.le_refl _) fun _ _ => rfl
  ne := h.ne
  xa := h.xa.drew
  yb := h.yb.drew
  bl := h.bl.drew

theorem St.drewN {w2 wr : World} {n ga gb B NA NB : Nat} {Ta Tb : Tri} {xs ys : List Value} (h : St w2 wr n ga gb B NA NB Ta Tb xs ys) (q : Nat) : St w2 (wr.drewN q) n ga gb B NA NB Ta Tb xs ys where
  two := h.two.outside (Nat.le_refl _) fun _ _ => rfl
  ne := h.ne
  xa := h.xa
  yb := h.yb
  bl := h.bl.trans ⟨rfl, rfl, rfl, Nat.le_refl _, fun _ _ => rfl⟩

theorem St.len {w2 wr : World} {n ga gb B NA NB : Nat} {Ta Tb : Tri} {xs ys : List Value} (h : St w2 wr n ga gb B NA NB Ta Tb xs ys) : xs.length = n := by have := h.xa.1; omega

theorem St.cell {w2 wr : World} {n ga gb B NA NB : Nat} {Ta Tb : Tri} {xs ys : List Value} (h : St w2 wr n ga gb B NA NB Ta Tb xs ys) (i : Nat) (hi : i < n) : wr.cell? ⟨NA, i, none⟩ = xs[i]? := h.xa.cellAt i (by omega)
theorem St.fz {w2 wr : World} {n ga gb B NA NB : Nat} {Ta Tb : Tri} {xs ys : List Value} (h : St w2 wr n ga gb B NA NB Ta Tb xs ys) (i : Nat) : wr.frozen? ⟨NA, i, none⟩ = false := h.xa.frozenAt i

abbrev T0 (g : Nat) : Tri := fun q => if q = [] then some (leaf g) else none
abbrev setObj : Obj := .cells #[.pointer none, .slice none 0 0, .slice none 0 0] 42

theorem own_T0 {g k : Nat} (h : Own (T0 g) k) : k = g := by
  obtain ⟨q, r, h1, h2⟩ := h
  by_cases e : q = []
  · simp only [T0, e, if_true, Option.some.injEq] at h1
    subst h1
    exact List.mem_singleton.1 h2
  · simp [T0, e] at h1

/-- Behind the two new sets and the two 'make's. -/
theorem St.start {w2 w5 w6 : World} {n : Nat} {xs ys : List Value} (h1 : ((w2.alloc setObj).alloc setObj).grownBy w5 none) (h2 : w5.grownBy w6 none) (s1 : w2.heap.size + 2 < w5.heap.size) (s2 : w5.heap.size < w6.heap.size)
    (o1 : w5.ownsRow w2.heap.size 30 1 (.slice (some ⟨w2.heap.size + 2, 0, none⟩) n n) n xs) (o2 : w6.ownsRow w2.heap.size 30 1 (.slice (some ⟨w5.heap.size, 0, none⟩) n n) n ys) :
    St w2 w6 n w2.heap.size (w2.heap.size + 1) w2.heap.size (w2.heap.size + 2) w5.heap.size (T0 w2.heap.size) (T0 (w2.heap.size + 1)) xs ys := by
  have k1 : ∀ k, k < w2.heap.size + 2 → w6.heap[k]? = ((w2.alloc setObj).alloc setObj).heap[k]? := fun k hk => by
    rw [h2.block k (by omega) (by simp), h1.block k (by simp; omega) (by simp)]
  have ia0 := new_set w2 42
  have ib0 := new_set (w2.alloc setObj) 42
  have sz : (w2.alloc setObj).heap.size = w2.heap.size + 1 := by simp
  rw [sz] at ib0
  have ia : Inv w6 w2.heap.size w2.heap.size (T0 w2.heap.size) := ia0.same (by simp; omega) fun k ho => by
    have := own_T0 ho
    rw [k1 k (by omega), hOld _ _ _ (by rw [sz]; omega)]
  have ib : Inv w6 (w2.heap.size + 1) (w2.heap.size + 1) (T0 (w2.heap.size + 1)) := ib0.same (by simp; omega) fun k ho => by
    have := own_T0 ho
    rw [k1 k (by omega)]
  refine ⟨⟨ia, ib.lower (by omega), fun k a b => by have := own_T0 a; have := own_T0 b; omega, ⟨fun a => by have := own_T0 a; omega, fun a => by have := own_T0 a; omega, by omega⟩, ⟨fun a => by have := own_T0 a; omega, fun a => by have := own_T0 a; omega, by omega⟩, by omega⟩, by omega, ?_, o2, ?_⟩
  · exact ownsRow_of_block o1 fun k e => by cases e; exact h2.block _ (by omega) (by simp)
  · refine ⟨h2.os.trans h1.os, h2.tape.trans h1.tape, h2.output.trans h1.output, by omega, fun k hk => ?_⟩
    rw [k1 k (by omega), hOld _ _ _ (by rw [sz]; omega), hOld _ _ _ hk]

/-- One round of filling. -/
theorem St.fill {w2 wr w' : World} {n ga gb B NA NB : Nat} {Ta Tb : Tri} {xs ys : List Value} {ss : List ByteArray} {e : Ending} {i : Nat} (h : St w2 wr n ga gb B NA NB Ta Tb xs ys) (hi : i < n)
    (hg : Got wr ga B Ta (kp (ss.getD i ByteArray.empty)) e w') :
    ∃ Ta' k, e = .returned (.pointer (some ⟨k, 0, none⟩)) ∧ St w2 (w'.setCell ⟨NA, i, none⟩ (pv k)) n ga gb B NA NB Ta' Tb (xs.set i (pv k)) ys ∧ Filled Ta' ss (xs.set i (pv k)) i ∧ (∀ j, j ≠ i → Filled Ta ss xs j → Filled Ta' ss (xs.set i (pv k)) j) ∧
      (∃ u, w'.cell? ⟨NA, i, none⟩ = some u) ∧ w'.frozen? ⟨NA, i, none⟩ = false := by
  obtain ⟨Ta', r', k, he, hI, hF, hT, hp⟩ := hg
  have hs := h.got hI hF
  refine ⟨Ta', k, he, hs.store i (pv k), Filled.here (by rw [h.len]; exact hi) (pnOf_some.2 ⟨r', hT, hp⟩), fun j hj hf => (hf.fr hF).set (Ne.symm hj), ⟨xs[i]'(by rw [h.len]; exact hi), by rw [hs.cell i hi]; exact List.getElem?_eq_getElem _⟩, hs.fz i⟩

/-- All is filled: what the last loop reads. -/
theorem St.read {w2 wr : World} {n ga gb B NA NB : Nat} {Ta Tb : Tri} {xs ys : List Value} {ss : List ByteArray} (h : St w2 wr n ga gb B NA NB Ta Tb xs ys) (hf : ∀ i, i < n → Filled Ta ss xs i) (i : Nat) (hi : i < n) :
    ∃ k, wr.cell? ⟨NA, i, none⟩ = some (.pointer (some ⟨k, 0, none⟩)) ∧ pnOf Ta (kp (ss.getD i ByteArray.empty)) = some k := by
  obtain ⟨k, h1, h2⟩ := hf i hi
  exact ⟨k, (h.cell i hi).trans h1, h2⟩

/-! ### '==' and '!=' between two nodes -/
def IsNode (w : World) (k : Nat) : Prop := ∃ cs t, w.heap[k]? = some (.cells cs t)

theorem Inv.isNode {w : World} {g B : Nat} {T : Tri} (hI : Inv w g B T) {q : Path} {k : Nat} (h : pnOf T q = some k) : IsNode w k := by
  obtain ⟨r, h1, h2⟩ := pnOf_some.1 h
  exact (hI.ok q r h1).node k h2

theorem Tryd.info58 : (Tryd.prog.info? 58).map (fun i => (i.size != 0)) = some true := by kernel_rfl

theorem equal_nodes (w : World) (k1 k2 : Nat) (h1 : IsNode w k1) (h2 : IsNode w k2) (d : Nat) : (Op.equalIn (d + 1) 30 (.pointer (some ⟨k1, 0, none⟩)) (.pointer (some ⟨k2, 0, none⟩))).run Tryd.prog w = .ok (k1 == k2) w := by
  obtain ⟨j, hj, hs⟩ := Option.map_eq_some_iff.1 Tryd.info58
  have hs : j.size ≠ 0 := by simpa using hs
  obtain ⟨c1, t1, e1⟩ := h1
  obtain ⟨c2, t2, e2⟩ := h2
  by_cases e : k1 = k2
  · subst e
    simp [Op.equalIn, run_underlying Tryd.underlying30, sizeOf, typeInfo, hj, run_sameAddr_same]
  · have hne : (⟨k1, 0, none⟩ : Addr) ≠ ⟨k2, 0, none⟩ := fun h => e (Addr.mk.inj h).1
    simp [Op.equalIn, run_underlying Tryd.underlying30, sizeOf, typeInfo, hj, hs, run_sameAddr_other w hne e1 e2, e]

theorem eql_nodes (w : World) (k1 k2 : Nat) (h1 : IsNode w k1) (h2 : IsNode w k2) : (binOp .eql 30 (.pointer (some ⟨k1, 0, none⟩)) (.pointer (some ⟨k2, 0, none⟩))).run Tryd.prog w = .ok (.bool (k1 == k2)) w := by
  simp only [binOp]
  simp [Op.equal, Op.maxDepth, equal_nodes w k1 k2 h1 h2 9999]

theorem neq_nodes (w : World) (k1 k2 : Nat) (h1 : IsNode w k1) (h2 : IsNode w k2) : (binOp .neq 30 (.pointer (some ⟨k1, 0, none⟩)) (.pointer (some ⟨k2, 0, none⟩))).run Tryd.prog w = .ok (.bool (k1 != k2)) w := by
  simp only [binOp]
  simp [Op.equal, Op.maxDepth, equal_nodes w k1 k2 h1 h2 9999, bne]

theorem neq_self (w : World) (k : Nat) : (binOp .neq 30 (.pointer (some ⟨k, 0, none⟩)) (.pointer (some ⟨k, 0, none⟩))).run Tryd.prog w = .ok (.bool false) w := by
  obtain ⟨j, hj, hs⟩ := Option.map_eq_some_iff.1 Tryd.info58
  have hs : j.size ≠ 0 := by simpa using hs
  have h : ∀ d : Nat, (Op.equalIn (d + 1) 30 (.pointer (some ⟨k, 0, none⟩)) (.pointer (some ⟨k, 0, none⟩))).run Tryd.prog w = .ok true w := fun d => by
    simp [Op.equalIn, run_underlying Tryd.underlying30, sizeOf, typeInfo, hj, run_sameAddr_same]
  simp only [binOp]
  simp [Op.equal, Op.maxDepth, h 9999]

theorem IsNode.drewN {w : World} {k : Nat} (h : IsNode w k) (q : Nat) : IsNode (w.drewN q) k := h

/-- A node of the one set is none of the other's. -/
theorem St.apart {w2 wr : World} {n ga gb B NA NB : Nat} {Ta Tb : Tri} {xs ys : List Value} (h : St w2 wr n ga gb B NA NB Ta Tb xs ys) {p q : Path} {ka kb : Nat} (h1 : pnOf Ta p = some ka) (h2 : pnOf Tb q = some kb) (nq : Nat) :
    (binOp .eql 30 (.pointer (some ⟨ka, 0, none⟩)) (.pointer (some ⟨kb, 0, none⟩))).run Tryd.prog (wr.drewN nq) = .ok (.bool false) (wr.drewN nq) := by
  rw [eql_nodes _ ka kb ((h.two.ia.isNode h1).drewN nq) ((h.two.ib.isNode h2).drewN nq)]
  have : (ka == kb) = false := by
    rw [beq_eq_false_iff_ne]
    intro e
    subst e
    exact h.two.ab ka (pnOf_own h1) (pnOf_own h2)
  rw [this]

/-- Two nodes of one set are one just where the keys are one. -/
theorem St.alike {w2 wr : World} {n ga gb B NA NB : Nat} {Ta Tb : Tri} {xs ys : List Value} (h : St w2 wr n ga gb B NA NB Ta Tb xs ys) {p q : Path} {k1 k2 : Nat} (h1 : pnOf Ta p = some k1) (h2 : pnOf Ta q = some k2) (nq : Nat) :
    (binOp .eql 30 (.pointer (some ⟨k1, 0, none⟩)) (.pointer (some ⟨k2, 0, none⟩))).run Tryd.prog (wr.drewN nq) = .ok (.bool (decide (p = q))) (wr.drewN nq) := by
  rw [eql_nodes _ k1 k2 ((h.two.ia.isNode h1).drewN nq) ((h.two.ia.isNode h2).drewN nq)]
  have : (k1 == k2) = decide (p = q) := by
    rw [Bool.eq_iff_iff]
    simp only [beq_iff_eq, decide_eq_true_eq]
    exact h.two.ia.pn_inj h1 h2
  rw [this]
end Go.Proofs.Qxb6606410aDoor
