import Derived.Test.Qxb6614461aFmtW4
namespace Go.Proofs.Qxb6614461aFmt
open Go.RowKit

set_option maxRecDepth 100000 in
set_option maxHeartbeats 800000 in
theorem lineAt_no (T LB nl lc : Nat) (n : Int) (w : World) (h1 : w.cell? ⟨T, 1, none⟩ = some (.slice (some ⟨LB, 0, none⟩) nl lc)) (hn : (nl : Int) ≤ n) :
    Calls Tryf.prog 18 #[.pointer (some ⟨T, 0, none⟩), .int .i64 n] w fun e w' => e = .returned (.tuple #[.agg #[.int .i64 0, .int .i64 0], .bool false]) ∧ Below w.heap.size w w' := by
  have hlt : T < w.heap.size := World.block_lt_of_cell? _ _ h1
  have h11 : ∀ o, (w.alloc o).cell? ⟨T, 1, none⟩ = some (.slice (some ⟨LB, 0, none⟩) nl lc) := fun o => by rw [((Below.refl w.heap.size w).alloc (Nat.le_refl _) o).cell hlt]; exact h1
  go_enter Tryf.func18, Tryf.ntmps18
  go_wp2
  refine bodyPost_ret (v := .tuple #[.agg #[.int .i64 0, .int .i64 0], .bool false]) (by simp [results, Tryf.results18, go_sem, *]) rfl ⟨rfl, ?_⟩
  exact (Below.refl _ _).alloc (Nat.le_refl _) _

set_option maxRecDepth 100000 in
set_option maxHeartbeats 800000 in
theorem lineAt_ok (T LB nl lc : Nat) (n : Nat) (st en : Int) (w : World) (h1 : w.cell? ⟨T, 1, none⟩ = some (.slice (some ⟨LB, 0, none⟩) nl lc)) (hn : n < nl)
    (k0 : w.cell? ⟨LB, n * 2, none⟩ = some (.int .i64 st)) (k1 : w.cell? ⟨LB, n * 2 + 1, none⟩ = some (.int .i64 en)) :
    Calls Tryf.prog 18 #[.pointer (some ⟨T, 0, none⟩), .int .i64 n] w fun e w' => e = .returned (.tuple #[.agg #[.int .i64 st, .int .i64 en], .bool true]) ∧ Below w.heap.size w w' := by
  have hlt : T < w.heap.size := World.block_lt_of_cell? _ _ h1
  have hlL : LB < w.heap.size := World.block_lt_of_cell? _ _ k0
  have h11 : ∀ o, (w.alloc o).cell? ⟨T, 1, none⟩ = some (.slice (some ⟨LB, 0, none⟩) nl lc) := fun o => by rw [((Below.refl w.heap.size w).alloc (Nat.le_refl _) o).cell hlt]; exact h1
  have k01 : ∀ o, (w.alloc o).cell? ⟨LB, n * 2, none⟩ = some (.int .i64 st) := fun o => by rw [((Below.refl w.heap.size w).alloc (Nat.le_refl _) o).cell hlL]; exact k0
  have k11 : ∀ o, (w.alloc o).cell? ⟨LB, n * 2 + 1, none⟩ = some (.int .i64 en) := fun o => by rw [((Below.refl w.heap.size w).alloc (Nat.le_refl _) o).cell hlL]; exact k1
  have x1 : (n : Int) < (nl : Int) := by omega
  go_enter Tryf.func18, Tryf.ntmps18
  go_wp2
  refine bodyPost_ret (v := .tuple #[.agg #[.int .i64 st, .int .i64 en], .bool true]) (by simp [results, Tryf.results18, go_sem, *]) rfl ⟨rfl, ?_⟩
  exact (Below.refl _ _).alloc (Nat.le_refl _) _
end Go.Proofs.Qxb6614461aFmt
