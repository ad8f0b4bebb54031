import Derived.Test.Qxb6614461aFmtW2
import Derived.OwnWalk
import Derived.Maps.AppendAt
import Derived.RegionTactic
import Derived.Deep.RegionLaw
namespace Go.Proofs.Qxb6614461aFmt
open Go.RowKit

theorem ownsRow_of_block {w w' : World} {base : Nat} {e : TypeId} {size : Nat} {v : Value} {n : Nat} {xs : List Value} (h : w.ownsRow base e size v n xs)
    (hk : ∀ k, v.ownBlock = some k → w'.heap[k]? = w.heap[k]?) : w'.ownsRow base e size v n xs := by
  refine ⟨h.1, ?_⟩
  rcases h.2 with hn | ⟨g, cap, cur, rfl, hb, hg, rest⟩
  · exact .inl hn
  · refine .inr ⟨g, cap, cur, rfl, hb, ?_, rest⟩
    rw [hk g rfl]
    exact hg
theorem row_form {w : World} {b size : Nat} {e : TypeId} {v : Value} {n : Nat} {xs : List Value} (h : w.ownsRow b e size v n xs) (hn : 0 < n) : ∃ g cap, v = .slice (some ⟨g, 0, none⟩) n cap ∧ b ≤ g ∧ g < w.heap.size := by
  rcases h.2 with ⟨_, h0⟩ | ⟨g, cap, cur, e, _⟩
  · omega
  · exact ⟨g, cap, e, (h.lt g (by rw [e]; rfl)).1, (h.lt g (by rw [e]; rfl)).2⟩
theorem ownsRow_lower {w : World} {b b' : Nat} {e : TypeId} {size : Nat} {v : Value} {n : Nat} {xs : List Value} (h : w.ownsRow b e size v n xs) (hb : b' ≤ b) : w.ownsRow b' e size v n xs := by
  refine ⟨h.1, ?_⟩
  rcases h.2 with hn | ⟨g, cap, cur, rfl, h1, rest⟩
  · exact .inl hn
  · exact .inr ⟨g, cap, cur, rfl, Nat.le_trans hb h1, rest⟩
theorem cell_plain {w : World} {b : Nat} {cs : Array Value} {t : TypeId} (h : w.heap[b]? = some (.cells cs t)) (o : Nat) : w.cell? ⟨b, o, none⟩ = cs[o]? := by
  simp [World.cell?, h]
theorem frozen_plain {w : World} {b : Nat} {cs : Array Value} {t : TypeId} (h : w.heap[b]? = some (.cells cs t)) (o : Nat) : w.frozen? ⟨b, o, none⟩ = false := by
  simp [World.frozen?, h]
/-- An append to a row of the call's own, as one step of a region that draws its order. -/
theorem step_append_at {P : Program} {ops : Array Oper} {o : Oper} {a : Act} {w : World} {K : Act → World → Prop} {Q : Exit → Act → World → Prop} {E : Prop}
    (hg : o.guard = none) (s x : Operand) (t : TypeId) (hop : o.op = Op.call { callee := Callee.builtin Builtin.append, args := #[s, x], argTypes := #[t, t] })
    (base : Nat) (e : TypeId) (i : TypeInfo) (z : Value) (size bytes : Nat) (h1 : P.underlying t = some (.slice e)) (h2 : P.info? e = some i) (h3 : i.zero = some z) (h4 : i.size = size) (h5 : i.bytes = bytes) (h6 : z.cells.size = size) (h7 : 0 < size)
    (v : Value) (n : Nat) (xs : List Value) (hs : a.eval s = v) (hown : w.ownsRow base e size v n xs)
    (ad : Addr) (m c : Nat) (news : List Value) (hx : a.eval x = .slice (some ad) m c) (hn : news.length = m * size) (hc : ∀ j u, news[j]? = some u → w.cell? (ad.add j) = some u) (h1c : ∀ u ∈ news, u.oneCell' = true)
    (b1 : n + m ≤ maxLen) (b2 : (n + m) * bytes ≤ 140737488355328) (b3 : base ≤ w.heap.size)
    (hK : ∀ v' w', w'.ownsRow base e size v' (n + m) (xs ++ news) → w.grownBy w' v.ownBlock → (v'.ownBlock = v.ownBlock ∨ v'.ownBlock = some w.heap.size) → K (a.put o.dst v') w') :
    if Region.wanted o (yielded ops a.tmps) = true then Oper.wp P o a w K Q else E := by
  have hw : Region.wanted o (yielded ops a.tmps) = true := by simp [Region.wanted, hg]
  rw [if_pos hw]
  obtain ⟨v', w', hrun, r1, r2, _, r4⟩ := run_append_own_at (P := P) w base t o.type e i z size bytes h1 h2 h3 h4 h5 h6 h7 v n xs hown ad m c news hn hc h1c b1 b2 b3
  unfold Oper.wp
  simp [execOp, hop, resolve, invoke, builtin, hs, hx, hrun, Result.andThen]
  exact hK v' w' r1 r2 r4

/-- An int, as a value. -/
def iv (n : Nat) : Value := .int .i64 n
theorem one_iv (n : Nat) : ∀ u ∈ [iv n], u.oneCell' = true := fun u hu => by simp at hu; subst hu; rfl

/-- Two rows of numbers of the call's own, apart. -/
structure Two (w wr : World) (va vb : Value) (xs ys : List Nat) : Prop where
  bl : Below w.heap.size w wr
  oa : wr.ownsRow w.heap.size 3 1 va xs.length (xs.map iv)
  ob : wr.ownsRow w.heap.size 3 1 vb ys.length (ys.map iv)
  ne : ∀ k, va.ownBlock = some k → vb.ownBlock ≠ some k

theorem Two.flip {w wr : World} {va vb : Value} {xs ys : List Nat} (h : Two w wr va vb xs ys) : Two w wr vb va ys xs :=
  ⟨h.bl, h.ob, h.oa, fun k e1 e2 => h.ne k e2 e1⟩

theorem Two.add {w wr w2 : World} {va vb va' : Value} {xs ys : List Nat} {s : Nat} {o : Obj} (h : Two w wr va vb xs ys)
    (own : w2.ownsRow w.heap.size 3 1 va' (xs.length + 1) (xs.map iv ++ [iv s])) (gr : (wr.alloc o).grownBy w2 va.ownBlock) (at' : va'.ownBlock = va.ownBlock ∨ va'.ownBlock = some (wr.heap.size + 1)) : Two w w2 va' vb (xs ++ [s]) ys := by
  have hsz : (wr.alloc o).heap.size = wr.heap.size + 1 := by simp
  refine ⟨?_, by simpa using own, ?_, ?_⟩
  · have h1 := (h.bl.alloc h.bl.size o)
    refine ⟨gr.os.trans h1.os, gr.tape.trans h1.tape, gr.output.trans h1.output, Nat.le_trans h1.size gr.size, fun k hk => ?_⟩
    rw [gr.block k (Nat.lt_of_lt_of_le hk h1.size) (fun e => by have := (h.oa.lt k e.symm).1; omega)]
    exact h1.block k hk
  · refine ownsRow_of_block (h.ob.alloc o) fun k e => gr.block k (by have := (h.ob.lt k e).2; omega) (fun e2 => h.ne k e2.symm e)
  · intro k e1 e2
    rcases at' with h1 | h1
    · exact h.ne k (h1 ▸ e1) e2
    · rw [h1] at e1
      have := (h.ob.lt k e2).2
      cases e1
      omega

/-- The lines of the first i bytes that are closed, and where the next begins. -/
def scan (bs : ByteArray) : Nat → List (Nat × Nat) × Nat
  | 0 => ([], 0)
  | i + 1 => if bs.get! i = 10 then ((scan bs i).1 ++ [((scan bs i).2, i)], i + 1) else scan bs i
/-- All lines. -/
def lines (bs : ByteArray) : List (Nat × Nat) := (scan bs bs.size).1 ++ [((scan bs bs.size).2, bs.size)]

theorem scan_le (bs : ByteArray) (i : Nat) : (scan bs i).1.length ≤ i ∧ (scan bs i).2 ≤ i ∧ ∀ p ∈ (scan bs i).1, p.1 ≤ p.2 ∧ p.2 < i := by
  induction i with
  | zero => simp [scan]
  | succ i ih =>
    obtain ⟨h1, h2, h3⟩ := ih
    unfold scan
    split
    · refine ⟨by simp; omega, Nat.le_refl _, fun p hp => ?_⟩
      simp only [List.mem_append, List.mem_singleton] at hp
      rcases hp with hp | rfl
      · have := h3 p hp; omega
      · exact ⟨h2, Nat.lt_succ_self _⟩
    · exact ⟨by omega, by omega, fun p hp => by have := h3 p hp; omega⟩

theorem lines_ok (bs : ByteArray) : (lines bs).length ≤ bs.size + 1 ∧ 0 < (lines bs).length ∧ ∀ p ∈ lines bs, p.1 ≤ p.2 ∧ p.2 ≤ bs.size := by
  obtain ⟨h1, h2, h3⟩ := scan_le bs bs.size
  unfold lines
  refine ⟨by simp; omega, by simp, fun p hp => ?_⟩
  simp only [List.mem_append, List.mem_singleton] at hp
  rcases hp with hp | rfl
  · have := h3 p hp; omega
  · exact ⟨h2, Nat.le_refl _⟩
end Go.Proofs.Qxb6614461aFmt
