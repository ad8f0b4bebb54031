/-
  The state of the law on one set: the set, the row of nodes, the row of keys. No Go text here.
-/
import Derived.Test.Qxb6606410aDoorK2
import Derived.Test.Qxb6606410aDoorSt
namespace Go.Proofs.Qxb6606410aDoor
open Go.RowKit

theorem mids_len (l : List UInt8) : (mids l).length ≤ l.length := by
  have h1 : ∀ l, (dn l).length ≤ l.length := fun l => snoc_ind (P := fun l => (dn l).length ≤ l.length) (Nat.le_refl _) (fun l c ih => by
    by_cases e : c = 42
    · subst e; rw [dn_star]; simp; exact ih
    · rw [dn_other l c e]; simp; omega) l
  have h2 : (mids l).length ≤ (dn l).tail.length := List.length_filter_le _ _
  have h3 := h1 l
  have h4 : (dn l).tail.length ≤ (dn l).length := by rw [List.length_tail]; omega
  omega

structure S3 (w2 wr : World) (n g B NN NK : Nat) (T : Tri) (xs : List Value) : Prop where
  inv : Inv wr g B T
  lo : B ≤ wr.heap.size
  nn : ¬ Own T NN ∧ NN < wr.heap.size
  nk : ¬ Own T NK ∧ B ≤ NK
  ne : NN ≠ NK
  xa : wr.ownsRow B 30 1 (.slice (some ⟨NN, 0, none⟩) n n) n xs
  kc : ∃ cur, wr.heap[NK]? = some (.cells cur 33) ∧ cur.size = n * 3
  bl : Below B w2 wr

/-- The key of s lies at place i of the row of keys. -/
structure KeyAt (wr : World) (NK i : Nat) (pre suf : ByteArray) (a : Option Addr) (m c : Nat) (ms : List ByteArray) (s : ByteArray) : Prop where
  c0 : wr.cell? ⟨NK, i * 3, none⟩ = some (.string pre)
  c1 : wr.cell? ⟨NK, i * 3 + 1, none⟩ = some (.string suf)
  c2 : wr.cell? ⟨NK, i * 3 + 2, none⟩ = some (.slice a m c)
  len : ms.length = m
  bd : m ≤ 1048576
  strs : StrsAt wr a m ms
  pre_ : pre.data.toList = (dn s.data.toList).headD []
  suf_ : suf.data.toList = cu s.data.toList
  mids_ : ms.map (·.data.toList) = mids s.data.toList

def KeyIn (wr : World) (T : Tri) (NN NK i : Nat) (s : ByteArray) : Prop :=
  ∃ pre suf a m c ms, KeyAt wr NK i pre suf a m c ms s ∧ (∀ ad, a = some ad → ad.block < wr.heap.size ∧ ¬ Own T ad.block ∧ ad.block ≠ NN ∧ ad.block ≠ NK)

theorem KeyAt.same {wr w' : World} {NK i : Nat} {pre suf : ByteArray} {a : Option Addr} {m c : Nat} {ms : List ByteArray} {s : ByteArray} (h : KeyAt wr NK i pre suf a m c ms s)
    (h1 : ∀ j, j < 3 → w'.cell? ⟨NK, i * 3 + j, none⟩ = wr.cell? ⟨NK, i * 3 + j, none⟩) (h2 : ∀ ad, a = some ad → w'.heap[ad.block]? = wr.heap[ad.block]?) : KeyAt w' NK i pre suf a m c ms s :=
  { h with
    c0 := (h1 0 (by omega)).trans h.c0
    c1 := (h1 1 (by omega)).trans h.c1
    c2 := (h1 2 (by omega)).trans h.c2
    strs := fun j hj => by
      obtain ⟨b, off, e, hc⟩ := h.strs j hj
      exact ⟨b, off, e, (cell_of (h2 ⟨b, off, none⟩ e) _).trans hc⟩ }

theorem KeyIn.fr {wr w' : World} {T T' : Tri} {NN NK i : Nat} {s : ByteArray} (h : KeyIn wr T NN NK i s) (hF : Fr wr w' T T') (hk : ¬ Own T NK) : KeyIn w' T' NN NK i s := by
  obtain ⟨pre, suf, a, m, c, ms, hK, hA⟩ := h
  have hkb : NK < wr.heap.size := World.block_lt_of_cell? _ _ hK.c0
  refine ⟨pre, suf, a, m, c, ms, hK.same (fun j _ => cell_of (hF.block NK hkb hk) _) (fun ad e => hF.block _ (hA ad e).1 (hA ad e).2.1), fun ad e => ⟨Nat.lt_of_lt_of_le (hA ad e).1 hF.size, fun ho => ?_, (hA ad e).2.2⟩⟩
  rcases hF.own _ ho with o | o
  · exact (hA ad e).2.1 o
  · have := (hA ad e).1; omega

/-- The world turns elsewhere. -/
theorem KeyIn.outside {wr w' : World} {T : Tri} {NN NK i : Nat} {s : ByteArray} (h : KeyIn wr T NN NK i s) (hs : wr.heap.size ≤ w'.heap.size) (hk : ∀ k, k < wr.heap.size → k ≠ NN → w'.heap[k]? = wr.heap[k]?) (hne : NN ≠ NK) : KeyIn w' T NN NK i s := by
  obtain ⟨pre, suf, a, m, c, ms, hK, hA⟩ := h
  have hkb : NK < wr.heap.size := World.block_lt_of_cell? _ _ hK.c0
  exact ⟨pre, suf, a, m, c, ms, hK.same (fun j _ => cell_of (hk NK hkb (Ne.symm hne)) _) (fun ad e => hk _ (hA ad e).1 (hA ad e).2.2.1), fun ad e => ⟨Nat.lt_of_lt_of_le (hA ad e).1 hs, (hA ad e).2⟩⟩

/-- Three cells are stored at another place of the row of keys. -/
abbrev put3 (w : World) (NK j : Nat) (x y z : Value) : World := ((w.setCell ⟨NK, j * 3, none⟩ x).setCell ⟨NK, j * 3 + 1, none⟩ y).setCell ⟨NK, j * 3 + 2, none⟩ z

theorem put3_other (w : World) (NK j k : Nat) (x y z : Value) (h : k ≠ NK) : (put3 w NK j x y z).heap[k]? = w.heap[k]? := by
  unfold put3
  rw [heap_setCell_other _ _ _ _ h, heap_setCell_other _ _ _ _ h, heap_setCell_other _ _ _ _ h]

theorem put3_cell (w : World) (NK j o : Nat) (x y z : Value) (h0 : o ≠ j * 3) (h1 : o ≠ j * 3 + 1) (h2 : o ≠ j * 3 + 2) : (put3 w NK j x y z).cell? ⟨NK, o, none⟩ = w.cell? ⟨NK, o, none⟩ := by
  unfold put3
  rw [cell_set_ne _ _ _ _ _ (Ne.symm h2), cell_set_ne _ _ _ _ _ (Ne.symm h1), cell_set_ne _ _ _ _ _ (Ne.symm h0)]

theorem put3_size (w : World) (NK j : Nat) (x y z : Value) : (put3 w NK j x y z).heap.size = w.heap.size := by unfold put3; simp

theorem KeyIn.put {wr : World} {T : Tri} {NN NK i j : Nat} {s : ByteArray} {x y z : Value} (h : KeyIn wr T NN NK i s) (hij : i ≠ j) : KeyIn (put3 wr NK j x y z) T NN NK i s := by
  obtain ⟨pre, suf, a, m, c, ms, hK, hA⟩ := h
  exact ⟨pre, suf, a, m, c, ms, hK.same (fun t ht => put3_cell _ _ _ _ _ _ _ (by omega) (by omega) (by omega)) (fun ad e => put3_other _ _ _ _ _ _ _ (hA ad e).2.2.2), fun ad e => ⟨by rw [put3_size]; exact (hA ad e).1, (hA ad e).2⟩⟩

theorem S3.got {w2 wr w' : World} {n g B NN NK : Nat} {T T' : Tri} {xs : List Value} (h : S3 w2 wr n g B NN NK T xs) (hI : Inv w' g B T') (hF : Fr wr w' T T') : S3 w2 w' n g B NN NK T' xs where
  inv := hI
  lo := Nat.le_trans h.lo hF.size
  nn := ⟨fun ho => by rcases hF.own _ ho with o | o; exact h.nn.1 o; have := h.nn.2; omega, Nat.lt_of_lt_of_le h.nn.2 hF.size⟩
  nk := ⟨fun ho => by
    obtain ⟨cur, hc, _⟩ := h.kc
    rcases hF.own _ ho with o | o
    · exact h.nk.1 o
    · have := (Array.getElem?_eq_some_iff.1 hc).1; omega, h.nk.2⟩
  ne := h.ne
  xa := ownsRow_of_block h.xa fun k e => by cases e; exact hF.block NN h.nn.2 h.nn.1
  kc := by
    obtain ⟨cur, hc, hs⟩ := h.kc
    exact ⟨cur, (hF.block NK (Array.getElem?_eq_some_iff.1 hc).1 h.nk.1).trans hc, hs⟩
  bl := h.bl.trans (hF.to_below h.inv h.lo)

theorem S3.store {w2 wr : World} {n g B NN NK : Nat} {T : Tri} {xs : List Value} (h : S3 w2 wr n g B NN NK T xs) (i : Nat) (v : Value) : S3 w2 (wr.setCell ⟨NN, i, none⟩ v) n g B NN NK T (xs.set i v) where
  inv := h.inv.same (by simp) fun k ho => heap_setCell_other _ _ _ _ fun e => h.nn.1 ((show k = NN from e) ▸ ho)
  lo := by simpa using h.lo
  nn := ⟨h.nn.1, by simpa using h.nn.2⟩
  nk := h.nk
  ne := h.ne
  xa := (h.xa.stored i v).1
  kc := by
    obtain ⟨cur, hc, hs⟩ := h.kc
    exact ⟨cur, (heap_setCell_other _ _ _ _ (Ne.symm h.ne)).trans hc, hs⟩
  bl := h.bl.setCell (by show B ≤ NN; exact (h.xa.lt NN rfl).1) v

/-- New memory alone (a callee's own blocks; draws). -/
theorem S3.below {w2 wr w' : World} {n g B NN NK : Nat} {T : Tri} {xs : List Value} (h : S3 w2 wr n g B NN NK T xs) (hb : Below wr.heap.size wr w') : S3 w2 w' n g B NN NK T xs where
  inv := h.inv.below hb
  lo := Nat.le_trans h.lo hb.size
  nn := ⟨h.nn.1, Nat.lt_of_lt_of_le h.nn.2 hb.size⟩
  nk := h.nk
  ne := h.ne
  xa := ownsRow_of_block h.xa fun k e => by cases e; exact hb.block NN h.nn.2
  kc := by
    obtain ⟨cur, hc, hs⟩ := h.kc
    exact ⟨cur, (hb.block NK (Array.getElem?_eq_some_iff.1 hc).1).trans hc, hs⟩
  bl := h.bl.trans (hb.mono h.lo)

theorem S3.put {w2 wr : World} {n g B NN NK : Nat} {T : Tri} {xs : List Value} (h : S3 w2 wr n g B NN NK T xs) (j : Nat) (x y z : Value) : S3 w2 (put3 wr NK j x y z) n g B NN NK T xs where
  inv := h.inv.same (Nat.le_of_eq (put3_size _ _ _ _ _ _).symm) fun k ho => put3_other _ _ _ _ _ _ _ fun e => h.nk.1 (e ▸ ho)
  lo := by rw [put3_size]; exact h.lo
  nn := ⟨h.nn.1, by rw [put3_size]; exact h.nn.2⟩
  nk := h.nk
  ne := h.ne
  xa := ownsRow_of_block h.xa fun k e => by cases e; exact put3_other _ _ _ _ _ _ _ h.ne
  kc := by
    obtain ⟨cur, hc, hs⟩ := h.kc
    unfold put3
    exact ⟨_, heap_setCell_same _ _ _ _ _ _ (heap_setCell_same _ _ _ _ _ _ (heap_setCell_same _ _ _ _ _ _ hc)), by simpa using hs⟩
  bl := ((h.bl.setCell (by exact h.nk.2) x).setCell (by exact h.nk.2) y).setCell (by exact h.nk.2) z

theorem S3.len {w2 wr : World} {n g B NN NK : Nat} {T : Tri} {xs : List Value} (h : S3 w2 wr n g B NN NK T xs) : xs.length = n := by have := h.xa.1; omega
theorem S3.cell {w2 wr : World} {n g B NN NK : Nat} {T : Tri} {xs : List Value} (h : S3 w2 wr n g B NN NK T xs) (i : Nat) (hi : i < n) : wr.cell? ⟨NN, i, none⟩ = xs[i]? := h.xa.cellAt i (by omega)

/-- The key's three cells are there. -/
theorem S3.keyCells {w2 wr : World} {n g B NN NK : Nat} {T : Tri} {xs : List Value} (h : S3 w2 wr n g B NN NK T xs) (i : Nat) (hi : i < n) (o : Nat) (ho : o < 3) : (∃ u, wr.cell? ⟨NK, i * 3 + o, none⟩ = some u) ∧ wr.frozen? ⟨NK, i * 3 + o, none⟩ = false := by
  obtain ⟨cur, hc, hs⟩ := h.kc
  refine ⟨⟨cur[i * 3 + o]'(by omega), by rw [cell_plain hc]; exact Array.getElem?_eq_getElem _⟩, frozen_plain hc _⟩

/-- One round: the node, then the key. -/
theorem S3.fill {w2 wr w' : World} {n g B NN NK : Nat} {T : Tri} {xs : List Value} {ss : List ByteArray} {e : Ending} {i : Nat} (h : S3 w2 wr n g B NN NK T xs) (hi : i < n) (hf : ∀ j, j < i → Filled T ss xs j ∧ KeyIn wr T NN NK j (ss.getD j ByteArray.empty))
    (hg : Got wr g B T (kp (ss.getD i ByteArray.empty)) e w') :
    ∃ T' k, e = .returned (.pointer (some ⟨k, 0, none⟩)) ∧ S3 w2 (w'.setCell ⟨NN, i, none⟩ (pv k)) n g B NN NK T' (xs.set i (pv k)) ∧ Filled T' ss (xs.set i (pv k)) i ∧
      (∀ j, j < i → Filled T' ss (xs.set i (pv k)) j ∧ KeyIn (w'.setCell ⟨NN, i, none⟩ (pv k)) T' NN NK j (ss.getD j ByteArray.empty)) ∧
      (∃ u, w'.cell? ⟨NN, i, none⟩ = some u) ∧ w'.frozen? ⟨NN, i, none⟩ = false := by
  obtain ⟨T', r', k, he, hI, hF, hT, hp⟩ := hg
  have hs := h.got hI hF
  refine ⟨T', k, he, hs.store i (pv k), Filled.here (by rw [h.len]; exact hi) (pnOf_some.2 ⟨r', hT, hp⟩), fun j hj => ⟨((hf j hj).1.fr hF).set (by omega), ?_⟩, ⟨xs[i]'(by rw [h.len]; exact hi), by rw [hs.cell i hi]; exact List.getElem?_eq_getElem _⟩, hs.xa.frozenAt i⟩
  exact ((hf j hj).2.fr hF h.nk.1).outside (by simp) (fun k _ hk => heap_setCell_other _ _ _ _ hk) h.ne

theorem S3.fillKey {w2 wr w' : World} {n g B NN NK : Nat} {T : Tri} {xs : List Value} {ss : List ByteArray} {e : Ending} {i : Nat} (h : S3 w2 wr n g B NN NK T xs) (hi : i < n) (hx : Filled T ss xs i) (hsz : (ss.getD i ByteArray.empty).size ≤ 1048576)
    (hf : ∀ j, j < i → Filled T ss xs j ∧ KeyIn wr T NN NK j (ss.getD j ByteArray.empty)) (hg : KeyEnd (ss.getD i ByteArray.empty) wr e w') :
    ∃ pre suf a m c, e = .returned (.agg #[.string pre, .string suf, .slice a m c]) ∧ S3 w2 (put3 w' NK i (.string pre) (.string suf) (.slice a m c)) n g B NN NK T xs ∧
      (∀ j, j < i + 1 → Filled T ss xs j ∧ KeyIn (put3 w' NK i (.string pre) (.string suf) (.slice a m c)) T NN NK j (ss.getD j ByteArray.empty)) ∧ S3 w2 w' n g B NN NK T xs := by
  obtain ⟨pre, suf, a, m, c, ms, he, hb, hl, h1, h2, h3, ho⟩ := hg
  have hs := h.below hb
  have hkl : NK < wr.heap.size := by obtain ⟨cur, hc, _⟩ := h.kc; exact (Array.getElem?_eq_some_iff.1 hc).1
  refine ⟨pre, suf, a, m, c, he, hs.put i _ _ _, fun j hj => ?_, hs⟩
  by_cases e : j = i
  · subst e
    refine ⟨hx, pre, suf, a, m, c, ms, ⟨?_, ?_, ?_, hl, ?_, ?_, h1, h2, h3⟩, ?_⟩
    · unfold put3
      rw [cell_set_ne _ _ _ _ _ (by omega), cell_set_ne _ _ _ _ _ (by omega)]
      obtain ⟨u, hu⟩ := (hs.keyCells j hi 0 (by omega)).1
      exact cell_set_eq hu
    · unfold put3
      rw [cell_set_ne _ _ _ _ _ (by omega)]
      obtain ⟨u, hu⟩ := (hs.keyCells j hi 1 (by omega)).1
      exact cell_set_eq (u := u) (by rw [cell_set_ne _ _ _ _ _ (by omega)]; exact hu)
    · unfold put3
      obtain ⟨u, hu⟩ := (hs.keyCells j hi 2 (by omega)).1
      exact cell_set_eq (u := u) (by rw [cell_set_ne _ _ _ _ _ (by omega), cell_set_ne _ _ _ _ _ (by omega)]; exact hu)
    · have h4 := congrArg List.length h3
      rw [List.length_map, hl] at h4
      have h5 := mids_len (ss.getD j ByteArray.empty).data.toList
      have h6 : (ss.getD j ByteArray.empty).data.toList.length = (ss.getD j ByteArray.empty).size := by simp
      omega
    · intro t ht
      rcases ho.2 with ⟨_, h0⟩ | ⟨gb, cap, cur, ev, hgb, hgc, _⟩
      · omega
      · simp only [Value.slice.injEq, true_and] at ev
        obtain ⟨rfl, rfl⟩ := ev
        refine ⟨gb, 0, rfl, ?_⟩
        rw [cell_of (put3_other _ _ _ _ _ _ _ (by omega)), Nat.zero_add, ho.cellAt t (by omega)]
        simp [List.getD, show t < ms.length by omega]
    · intro ad ea
      subst ea
      have hlt := ho.lt ad.block rfl
      refine ⟨by rw [put3_size]; exact hlt.2, fun hOw => ?_, by have := h.nn.2; omega, by omega⟩
      obtain ⟨q, r, x1, x2⟩ := hOw
      have := (h.inv.lo q r _ x1 x2).2
      omega
  · have hj2 := hf j (by omega)
    exact ⟨hj2.1, (hj2.2.outside hb.size (fun k hk _ => hb.block k hk) h.ne).put e⟩

abbrev keyZ : Value := .agg #[.string ByteArray.empty, .string ByteArray.empty, .slice none 0 0]

/-- Behind the new set and the two 'make's. -/
theorem S3.start {w2 w5 w6 : World} {n : Nat} {xs ys : List Value} (h1 : (w2.alloc setObj).grownBy w5 none) (h2 : w5.grownBy w6 none) (s1 : w2.heap.size + 1 < w5.heap.size) (s2 : w5.heap.size < w6.heap.size)
    (o1 : w5.ownsRow w2.heap.size 30 1 (.slice (some ⟨w2.heap.size + 1, 0, none⟩) n n) n xs) (o2 : w6.ownsRow w2.heap.size 33 3 (.slice (some ⟨w5.heap.size, 0, none⟩) n n) n ys) :
    S3 w2 w6 n w2.heap.size w2.heap.size (w2.heap.size + 1) w5.heap.size (T0 w2.heap.size) xs := by
  have k1 : ∀ k, k < w2.heap.size + 1 → w6.heap[k]? = (w2.alloc setObj).heap[k]? := fun k hk => by
    rw [h2.block k (by omega) (by simp), h1.block k (by simp; omega) (by simp)]
  have ia : Inv w6 w2.heap.size w2.heap.size (T0 w2.heap.size) := (new_set w2 42).same (by simp; omega) fun k ho => by
    have := own_T0 ho
    exact k1 k (by omega)
  refine ⟨ia, by omega, ⟨fun a => by have := own_T0 a; omega, by omega⟩, ⟨fun a => by have := own_T0 a; omega, by omega⟩, by omega, ?_, ?_, ?_⟩
  · exact ownsRow_of_block o1 fun k e => by cases e; exact h2.block _ (by omega) (by simp)
  · rcases o2.2 with ⟨ev, _⟩ | ⟨gb, cap, cur, ev, _, hgc, _, _, hcs, _⟩
    · cases ev
    · simp only [Value.slice.injEq, Option.some.injEq, Addr.mk.injEq, and_true, true_and] at ev
      obtain ⟨rfl, rfl⟩ := ev
      exact ⟨cur, hgc, hcs⟩
  · refine ⟨h2.os.trans h1.os, h2.tape.trans h1.tape, h2.output.trans h1.output, by omega, fun k hk => ?_⟩
    rw [k1 k (by omega), hOld _ _ _ hk]
end Go.Proofs.Qxb6606410aDoor
