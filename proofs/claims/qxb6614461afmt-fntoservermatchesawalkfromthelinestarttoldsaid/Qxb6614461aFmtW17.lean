import Derived.Test.Qxb6614461aFmtW16
namespace Go.Proofs.Qxb6614461aFmt
open Go.RowKit

theorem mk_first (w : World) (T : Nat) (v : Value) : MK ((w.setCell ⟨T, 2, none⟩ v).alloc (.map #[] 0)) (w.heap.size + 1) w.heap.size 0 (.map []) (fun _ => .slice none 0 0) (fun _ => []) := by
  have h := MK.made (w.setCell ⟨T, 2, none⟩ v)
  rw [World.size_setCell] at h
  exact h

set_option maxRecDepth 100000 in
set_option maxHeartbeats 3200000 in
theorem addMark_first (T n off p u : Nat) (w : World) (hT : w.cell? ⟨T, 2, none⟩ = some (.map none)) (hz : w.frozen? ⟨T, 2, none⟩ = false) (hn : n < 2147483648) :
    Calls Tryf.prog 13 #[.pointer (some ⟨T, 0, none⟩), .int .i64 n, .int .i64 off, .int .i64 p, .int .i64 u] w fun e w' => e = .returned (.tuple #[]) ∧ ∃ D' v',
      MK w' (w.heap.size + 1) w.heap.size 1 D' (upd (fun _ => .slice none 0 0) n v') (upd (fun _ => []) n [(off, p, u)]) ∧ w.heap.size + 1 ≤ w'.heap.size ∧ w'.os = w.os ∧ w'.tape = w.tape ∧ w'.output = w.output ∧ ∀ k, k < w.heap.size → w'.heap[k]? = (w.setCell ⟨T, 2, none⟩ (.map (some w.heap.size))).heap[k]? := by
  have hlt : T < w.heap.size := World.block_lt_of_cell? _ _ hT
  have hM1 := mk_first w T (.map (some w.heap.size))
  have hT1 : ((w.setCell ⟨T, 2, none⟩ (.map (some w.heap.size))).alloc (.map #[] 0)).cell? ⟨T, 2, none⟩ = some (.map (some w.heap.size)) := by
    have := ((Below.refl (w.setCell ⟨T, 2, none⟩ (.map (some w.heap.size))).heap.size (w.setCell ⟨T, 2, none⟩ (.map (some w.heap.size)))).alloc (Nat.le_refl _) (.map #[] 0)).cell (p := ⟨T, 2, none⟩) (by rw [World.size_setCell]; exact hlt)
    rw [this]
    exact World.cell?_setCell_same' _ _ _ (by rw [hT]; rfl)
  have hs1 : ((w.setCell ⟨T, 2, none⟩ (.map (some w.heap.size))).alloc (.map #[] 0)).heap.size = w.heap.size + 1 := by simp
  have HO : Hid (((w.setCell ⟨T, 2, none⟩ (.map (some w.heap.size))).alloc (.map #[] 0)).os = w.os ∧ ((w.setCell ⟨T, 2, none⟩ (.map (some w.heap.size))).alloc (.map #[] 0)).tape = w.tape ∧ ((w.setCell ⟨T, 2, none⟩ (.map (some w.heap.size))).alloc (.map #[] 0)).output = w.output ∧
      ∀ k, k < w.heap.size → ((w.setCell ⟨T, 2, none⟩ (.map (some w.heap.size))).alloc (.map #[] 0)).heap[k]? = (w.setCell ⟨T, 2, none⟩ (.map (some w.heap.size))).heap[k]?) :=
    ⟨rfl, rfl, rfl, fun k hk => Below.heap_alloc _ _ k (by rw [World.size_setCell]; exact hk)⟩
  have f2 := eq_none
  have hmm := @run_makeMap Tryf.prog
  have HM : Hid _ := hM1
  have HT1 : Hid _ := hT1
  have HS1 : Hid _ := hs1
  clear hM1 hT1 hs1
  obtain ⟨i47, hi47, hz47, hy47, hb47⟩ := info_parts Tryf.info47'
  go_enter Tryf.func13, Tryf.ntmps13
  go_wp2_with fail
  generalize (w.setCell ⟨T, 2, none⟩ (.map (some w.heap.size))).alloc (.map #[] 0) = w1 at *
  clear hT hz f2 hmm
  have h1 := HT1.out
  have hlt1 : T < w1.heap.size := World.block_lt_of_cell? _ _ h1
  have f0 : (Instr.lookup 54 (.map (some w.heap.size)) (.int .i64 n) false).run Tryf.prog w1.drew = .ok (.slice none 0 0) w1.drew := MK.find (HM.out.step (w' := w1.drew) (fun k _ _ => rfl)) n hn
  have f1 : ∀ o, (Instr.lookup 54 (.map (some w.heap.size)) (.int .i64 n) false).run Tryf.prog (w1.alloc o).drew = .ok (.slice none 0 0) (w1.alloc o).drew := fun o => MK.find (HM.out.step (w' := (w1.alloc o).drew) (fun k _ hk => Below.heap_alloc w1 o k hk)) n hn
  have HT4 : Hid (∀ o w4, (w1.alloc o).drew.grownBy w4 (Value.slice none 0 0).ownBlock → w4.cell? ⟨T, 2, none⟩ = some (.map (some w.heap.size))) := fun o w4 gr => by
    have e : w4.heap[T]? = w1.heap[T]? := by
      rw [gr.block T (by rw [sz1]; omega) (fun e => by cases e)]
      exact Below.heap_alloc w1 o T hlt1
    rw [World.cell?_of_block e]
    exact HT1.out
  go_region_law (refine step_append_at rfl (.tmp 29) (.tmp 34) 57 rfl (w.heap.size + 1) 47 i47 (.agg #[.int .i64 0, .int .i64 0, .int .i64 0]) 3 24 Tryf.underlying57 hi47 hz47 hy47 hb47 rfl (by decide) (.slice none 0 0) 0 (cells3 []) (by simp [Act.eval]) (((HM.out.row n).alloc _).drew) ⟨w1.heap.size, 0, none⟩ 1 1 [iv off, iv p, iv u] (by simp [Act.eval]) rfl (cell_three_iv w1 off p u 47) (three_iv _ _ _) (by unfold maxLen; omega) (by omega) (by have := HS1.out; simp; omega) ?_; intro v' w4 own4 gr4 at4; rw [sz1] at at4; have hT4 := HT4.out _ _ gr4; obtain ⟨w5, D', hrun, hmk, hs5⟩ := HM.out.add (s := (off, p, u)) n hn (by unfold maxLen; omega) own4 gr4 at4; have HMK := hide4 hmk; have HS5 := hide4 hs5; clear hmk hs5 own4 gr4 at4)
  all_goals
    go_end0
    obtain ⟨q1, q2, q3, q4, q5⟩ := HS5.out
    obtain ⟨r1, r2, r3, r4⟩ := HO.out
    have hs := HS1.out
    exact ⟨rfl, _, _, HMK.out, by omega, q2.trans r1, q3.trans r2, q4.trans r3, fun k hk => (q5 k (by omega) (by omega) (by omega)).trans (r4 k hk)⟩
end Go.Proofs.Qxb6614461aFmt
