import Derived.Test.Qxb6614461aFmtP3
import Derived.Maps.Views
namespace Go.Proofs.Qxb6614461aFmt
open Go.RowKit
open Go.Maps (Keyed)

/-- How an element of the marks' map reads: the slice value itself. -/
def Rs (v : Value) : Option (DataW Unit × List MemPlace) :=
  match v with
  | .slice none 0 0 => some (.nil, [])
  | .slice (some ⟨g, 0, none⟩) m c => some (.agg [.lit (.int .i64 (g : Nat)), .lit (.int .i64 (m : Nat)), .lit (.int .i64 (c : Nat))], [])
  | _ => none

theorem Rs_form {v : Value} {d : DataW Unit} {ps : List MemPlace} (h : Rs v = some (d, ps)) : (v = .slice none 0 0 ∧ d = .nil) ∨ ∃ g m c : Nat, v = .slice (some ⟨g, 0, none⟩) m c ∧ d = .agg [.lit (.int .i64 (g : Nat)), .lit (.int .i64 (m : Nat)), .lit (.int .i64 (c : Nat))] := by
  unfold Rs at h
  split at h
  · simp only [Option.some.injEq, Prod.mk.injEq] at h
    exact Or.inl ⟨rfl, h.1.symm⟩
  · simp only [Option.some.injEq, Prod.mk.injEq] at h
    exact Or.inr ⟨_, _, _, rfl, h.1.symm⟩
  · cases h

theorem Rs_inj {v v' : Value} {d : DataW Unit} {ps ps' : List MemPlace} (h : Rs v = some (d, ps)) (h' : Rs v' = some (d, ps')) : v = v' := by
  rcases Rs_form h with ⟨rfl, rfl⟩ | ⟨g, m, c, rfl, rfl⟩
  · rcases Rs_form h' with ⟨rfl, _⟩ | ⟨g', m', c', rfl, e⟩
    · rfl
    · cases e
  · rcases Rs_form h' with ⟨rfl, e⟩ | ⟨g', m', c', rfl, e⟩
    · cases e
    · simp only [DataW.agg.injEq, List.cons.injEq, DataW.lit.injEq, Lit.int.injEq, true_and, and_true] at e
      obtain ⟨e1, e2, e3⟩ := e
      rw [show g = g' by omega, show m = m' by omega, show c = c' by omega]

/-- Spots as they lie in memory. -/
def cells3 (l : List (Nat × Nat × Nat)) : List Value := l.flatMap fun s => [iv s.1, iv s.2.1, iv s.2.2]

/-- The marks: block mb a map, a slice a line (V), its spots (L). -/
structure MK (wr : World) (base mb nm : Nat) (D : DataW Unit) (V : Nat → Value) (L : Nat → List (Nat × Nat × Nat)) : Prop where
  own : wr.ownsMap Tryf.prog 3 Rs mb nm D
  im : Maps.IsMap D
  val : ∀ n : Nat, n < 2147483648 → ∃ ps, Rs (V n) = some (D.atKey (.int .i64 (n : Nat)) .nil, ps)
  row : ∀ n, wr.ownsRow base 47 3 (V n) (L n).length (cells3 (L n))
  ne : ∀ n n' k, n ≠ n' → (V n).ownBlock = some k → (V n').ownBlock ≠ some k
  lo : mb < base

theorem MK.made (w : World) : MK (w.alloc (.map #[] 0)) (w.heap.size + 1) w.heap.size 0 (.map []) (fun _ => .slice none 0 0) (fun _ => []) where
  own := World.ownsMap_made _ _ _ _
  im := Maps.isMap_empty
  val := fun n _ => ⟨[], rfl⟩
  row := fun n => World.ownsRow_nil _ _ _ _
  ne := fun n n' k _ e => by cases e
  lo := Nat.lt_succ_self _

theorem MK.step {wr w' : World} {base mb nm : Nat} {D : DataW Unit} {V : Nat → Value} {L : Nat → List (Nat × Nat × Nat)} (h : MK wr base mb nm D V L) (hb : ∀ k, mb ≤ k → k < wr.heap.size → w'.heap[k]? = wr.heap[k]?) : MK w' base mb nm D V L where
  own := by
    have hlt := h.own.lt
    obtain ⟨es, clock, h1, h2⟩ := h.own
    exact ⟨es, clock, (hb mb (Nat.le_refl _) hlt).trans h1, h2⟩
  im := h.im
  val := h.val
  row := fun n => ownsRow_of_block (h.row n) fun k e => hb k (by have := ((h.row n).lt k e).1; have := h.lo; omega) ((h.row n).lt k e).2
  ne := h.ne
  lo := h.lo

theorem i64_wf (n : Nat) (h : n < 2147483648) : (Lit.int .i64 (n : Nat)).wf = true := by
  have e1 : IntKind.i64.min = -9223372036854775808 := rfl
  have e2 : IntKind.i64.max = 9223372036854775807 := rfl
  simp [Lit.wf, e1, e2]
  omega

theorem zero57 (w : World) : (zeroValue 57).run Tryf.prog w = .ok (.slice none 0 0) w := by kernel_rfl

theorem MK.find {wr : World} {base mb nm : Nat} {D : DataW Unit} {V : Nat → Value} {L : Nat → List (Nat × Nat × Nat)} (h : MK wr base mb nm D V L) (n : Nat) (hn : n < 2147483648) :
    (Instr.lookup 54 (.map (some mb)) (.int .i64 n) false).run Tryf.prog wr = .ok (V n) wr := by
  obtain ⟨v, ps, hr, hv⟩ := h.own.lookup (t := 54) (Maps.int_keyed Tryf.underlying3) Tryf.underlying54 (zero57 wr) (zd := .nil) (zp := []) rfl (Maps.keyOf_int_mk Tryf.underlying3 (i64_wf n hn))
  obtain ⟨ps', hv'⟩ := h.val n hn
  rw [hr, Rs_inj hv hv']

def upd {α : Type} (f : Nat → α) (n : Nat) (a : α) : Nat → α := fun m => if m = n then a else f m

theorem MK.add {wr w4 : World} {base mb nm : Nat} {D : DataW Unit} {V : Nat → Value} {L : Nat → List (Nat × Nat × Nat)} {v' : Value} {s : Nat × Nat × Nat} {o : Obj} (h : MK wr base mb nm D V L) (n : Nat) (hn : n < 2147483648) (hnm : nm < maxLen)
    (own4 : w4.ownsRow base 47 3 v' ((L n).length + 1) (cells3 (L n) ++ [iv s.1, iv s.2.1, iv s.2.2])) (gr4 : (wr.alloc o).drew.grownBy w4 (V n).ownBlock) (at4 : v'.ownBlock = (V n).ownBlock ∨ v'.ownBlock = some (wr.heap.size + 1)) :
    ∃ w5 D', (Instr.mapUpdate 54 (.map (some mb)) (.int .i64 n) v').run Tryf.prog w4 = .ok () w5 ∧ MK w5 base mb (nm + 1) D' (upd V n v') (upd L n (L n ++ [s])) ∧ wr.heap.size ≤ w5.heap.size ∧ w5.os = wr.os ∧ w5.tape = wr.tape ∧ w5.output = wr.output ∧
      ∀ k, k < base → k < wr.heap.size → k ≠ mb → w5.heap[k]? = wr.heap[k]? := by
  have hmb := h.own.lt
  have hsz : (wr.alloc o).drew.heap.size = wr.heap.size + 1 := by show (wr.alloc o).heap.size = _; simp
  have hold : ∀ k, k < wr.heap.size → (V n).ownBlock ≠ some k → w4.heap[k]? = wr.heap[k]? := fun k hk hne => by
    rw [gr4.block k (by omega) (fun e => hne e.symm)]
    exact Below.heap_alloc wr o k hk
  have hmbn : (V n).ownBlock ≠ some mb := fun e => by have := ((h.row n).lt mb e).1; have := h.lo; omega
  have hown4 : w4.ownsMap Tryf.prog 3 Rs mb nm D := by
    obtain ⟨es, clock, h1, h2⟩ := h.own
    exact ⟨es, clock, (hold mb hmb hmbn).trans h1, h2⟩
  obtain ⟨g, cap, rfl, hg1, hg2⟩ := row_form own4 (Nat.succ_pos _)
  obtain ⟨w5, hrun, hown5, gr5⟩ := hown4.update (t := 54) (Maps.int_keyed Tryf.underlying3) Tryf.underlying54 hnm (Maps.keyOf_int_mk Tryf.underlying3 (i64_wf n hn)) (val := .slice (some ⟨g, 0, none⟩) ((L n).length + 1) cap) rfl
  have hlo := h.lo
  have h5 : ∀ k, k < w4.heap.size → k ≠ mb → w5.heap[k]? = w4.heap[k]? := fun k hk hne => gr5.block k hk (fun e => hne (Option.some.inj e))
  have hs4 : wr.heap.size ≤ w4.heap.size := by have := gr4.size; omega
  refine ⟨w5, _, hrun, ⟨hown5, h.im.put _ _, ?_, ?_, ?_, h.lo⟩, Nat.le_trans hs4 gr5.size, gr5.os.trans gr4.os, gr5.tape.trans gr4.tape, gr5.output.trans gr4.output, ?_⟩
  · intro m hm
    unfold upd
    by_cases e : m = n
    · subst e
      rw [if_pos rfl, Maps.atKey_put_same h.im (by trivial)]
      exact ⟨[], rfl⟩
    · rw [if_neg e, Maps.atKey_put_other (by intro e2; injection e2 with _ e3; omega)]
      exact h.val m hm
  · intro m
    unfold upd
    by_cases e : m = n
    · subst e
      rw [if_pos rfl, if_pos rfl]
      have hc : cells3 (L m ++ [s]) = cells3 (L m) ++ [iv s.1, iv s.2.1, iv s.2.2] := by simp [cells3]
      rw [hc, List.length_append]
      exact ownsRow_of_block own4 fun k e => h5 k (own4.lt k e).2 (by have := (own4.lt k e).1; omega)
    · rw [if_neg e, if_neg e]
      refine ownsRow_of_block (h.row m) fun k e2 => ?_
      have h1 := (h.row m).lt k e2
      rw [h5 k (by omega) (by omega), hold k h1.2 (fun e3 => h.ne m n k e e2 e3)]
  · intro m m' k hne e1 e2
    unfold upd at e1 e2
    by_cases a1 : m = n
    · rw [if_pos a1] at e1
      rw [if_neg (by omega)] at e2
      rcases at4 with h4 | h4
      · rw [h4] at e1
        exact h.ne n m' k (by omega) e1 e2
      · rw [h4] at e1
        have := ((h.row m').lt k e2).2
        cases e1
        omega
    · rw [if_neg a1] at e1
      by_cases a2 : m' = n
      · rw [if_pos a2] at e2
        rcases at4 with h4 | h4
        · rw [h4] at e2
          exact h.ne m n k a1 e1 e2
        · rw [h4] at e2
          have := ((h.row m).lt k e1).2
          cases e2
          omega
      · rw [if_neg a2] at e2
        exact h.ne m m' k hne e1 e2
  · intro k hk hk2 hne
    rw [h5 k (by omega) hne, hold k hk2 (fun e => by have := ((h.row n).lt k e).1; omega)]
end Go.Proofs.Qxb6614461aFmt
