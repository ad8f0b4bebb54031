import Derived.Test.Qxb6614461aFmtW15
namespace Go.Proofs.Qxb6614461aFmt
open Go.RowKit

theorem Tryf.info47' : (Tryf.prog.info? 47).map (fun i => (i.zero, i.size, i.bytes)) = some (some (.agg #[.int .i64 0, .int .i64 0, .int .i64 0]), 3, 24) := by kernel_rfl

theorem three_iv (a b c : Nat) : ∀ u ∈ [iv a, iv b, iv c], u.oneCell' = true := fun u hu => by simp at hu; rcases hu with rfl | rfl | rfl <;> rfl
theorem cell_three_iv (w : World) (a b c : Nat) (t : TypeId) : ∀ j u, [iv a, iv b, iv c][j]? = some u → (w.alloc (.cells #[.int .i64 a, .int .i64 b, .int .i64 c] t)).cell? ((⟨w.heap.size, 0, none⟩ : Addr).add j) = some u := by
  intro j u hj
  match j, hj with
  | 0, hj => simp at hj; subst hj; simp [Addr.add, iv]
  | 1, hj => simp at hj; subst hj; simp [Addr.add, iv]
  | 2, hj => simp at hj; subst hj; simp [Addr.add, iv]

theorem sz1 (w : World) (o : Obj) : (w.alloc o).drew.heap.size = w.heap.size + 1 := by show (w.alloc o).heap.size = _; simp

theorem eq_some (mb : Nat) (W : World) : (binOp .eql 54 (.map (some mb)) (.map none)).run Tryf.prog W = .ok (.bool false) W := by kernel_rfl
theorem eq_none (W : World) : (binOp .eql 54 (.map none) (.map none)).run Tryf.prog W = .ok (.bool true) W := by kernel_rfl

/-- What ZZaddMark leaves. -/
def Marked (w : World) (base mb : Nat) (V : Nat → Value) (L : Nat → List (Nat × Nat × Nat)) (n off p u : Nat) (w' : World) : Prop :=
  ∃ nm' D' v', MK w' base mb nm' D' (upd V n v') (upd L n (L n ++ [(off, p, u)])) ∧ w.heap.size ≤ w'.heap.size ∧ w'.os = w.os ∧ w'.tape = w.tape ∧ w'.output = w.output ∧ ∀ k, k < base → k < w.heap.size → k ≠ mb → w'.heap[k]? = w.heap[k]?

set_option maxRecDepth 100000 in
set_option maxHeartbeats 3200000 in
theorem addMark_on (T base mb nm n off p u : Nat) (D : DataW Unit) (V : Nat → Value) (L : Nat → List (Nat × Nat × Nat)) (w : World) (hT : w.cell? ⟨T, 2, none⟩ = some (.map (some mb))) (h : MK w base mb nm D V L) (hn : n < 2147483648) (hnm : nm < 1099511627776) (hl : (L n).length < 1099511627776) (hbase : base ≤ w.heap.size) (hTb : T < base) :
    Calls Tryf.prog 13 #[.pointer (some ⟨T, 0, none⟩), .int .i64 n, .int .i64 off, .int .i64 p, .int .i64 u] w fun e w' => e = .returned (.tuple #[]) ∧ ∃ nm' D' v', nm' = nm + 1 ∧ MK w' base mb nm' D' (upd V n v') (upd L n (L n ++ [(off, p, u)])) ∧ w.heap.size ≤ w'.heap.size ∧ w'.os = w.os ∧ w'.tape = w.tape ∧ w'.output = w.output ∧ ∀ k, k < base → k < w.heap.size → k ≠ mb → w'.heap[k]? = w.heap[k]? := by
  have hlt : T < w.heap.size := World.block_lt_of_cell? _ _ hT
  have f0 : (Instr.lookup 54 (.map (some mb)) (.int .i64 n) false).run Tryf.prog w.drew = .ok (V n) w.drew := MK.find (h.step (w' := w.drew) (fun k _ _ => rfl)) n hn
  have f1 : ∀ o, (Instr.lookup 54 (.map (some mb)) (.int .i64 n) false).run Tryf.prog (w.alloc o).drew = .ok (V n) (w.alloc o).drew := fun o => MK.find (h.step (w' := (w.alloc o).drew) (fun k _ hk => Below.heap_alloc w o k hk)) n hn
  have f2 := eq_some mb
  have HT4 : Hid (∀ o w4, (w.alloc o).drew.grownBy w4 (V n).ownBlock → w4.cell? ⟨T, 2, none⟩ = some (.map (some mb))) := fun o w4 gr => by
    have e : w4.heap[T]? = w.heap[T]? := by
      rw [gr.block T (by rw [sz1]; omega) (fun e => by have := ((h.row n).lt T e.symm).1; omega)]
      exact Below.heap_alloc w o T hlt
    rw [World.cell?_of_block e]
    exact hT
  have HM : Hid _ := h
  obtain ⟨i47, hi47, hz47, hy47, hb47⟩ := info_parts Tryf.info47'
  clear h
  go_enter Tryf.func13, Tryf.ntmps13
  go_wp2_with fail
  go_region_law (refine step_append_at rfl (.tmp 29) (.tmp 34) 57 rfl base 47 i47 (.agg #[.int .i64 0, .int .i64 0, .int .i64 0]) 3 24 Tryf.underlying57 hi47 hz47 hy47 hb47 rfl (by decide) (V n) (L n).length (cells3 (L n)) (by simp [Act.eval]) (((HM.out.row n).alloc _).drew) ⟨w.heap.size, 0, none⟩ 1 1 [iv off, iv p, iv u] (by simp [Act.eval]) rfl (cell_three_iv w off p u 47) (three_iv _ _ _) (by unfold maxLen; omega) (by omega) (by simp; omega) ?_; intro v' w4 own4 gr4 at4; rw [sz1] at at4; have hT4 := HT4.out _ _ gr4; obtain ⟨w5, D', hrun, hmk, hs5⟩ := HM.out.add (s := (off, p, u)) n hn (by unfold maxLen; omega) own4 gr4 at4; have HMK := hide4 hmk; have HS5 := hide4 hs5; clear hmk hs5 own4 gr4 at4)
  all_goals
    go_end0
    exact ⟨rfl, _, _, _, rfl, HMK.out, HS5.out⟩
end Go.Proofs.Qxb6614461aFmt
