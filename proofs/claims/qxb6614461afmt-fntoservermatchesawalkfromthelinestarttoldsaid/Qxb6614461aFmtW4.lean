import Derived.Test.Qxb6614461aFmtW3
namespace Go.Proofs.Qxb6614461aFmt
open Go.RowKit

theorem four_new {w w2 : World} {st en : Int} {f sl : Value} (hb2 : Below ((((w.alloc (.cells #[.int .i64 st, .int .i64 en] 49)).alloc (.cells #[f] 62)).alloc (.cells #[.int .i64 0, .int .i64 0, .int .i64 0] 47)).alloc (.cells #[sl] 57)).heap.size ((((w.alloc (.cells #[.int .i64 st, .int .i64 en] 49)).alloc (.cells #[f] 62)).alloc (.cells #[.int .i64 0, .int .i64 0, .int .i64 0] 47)).alloc (.cells #[sl] 57)) w2) :
    (w2.cell? ⟨w.heap.size, 0, none⟩ = some (.int .i64 st) ∧ w2.cell? ⟨w.heap.size + 1, 0, none⟩ = some f ∧ w2.cell? ⟨w.heap.size + 1 + 1 + 1, 0, none⟩ = some sl) ∧
    (w2.cell? ⟨w.heap.size + 1 + 1, 0, none⟩ = some (.int .i64 0) ∧ w2.cell? ⟨w.heap.size + 1 + 1, 1, none⟩ = some (.int .i64 0) ∧ w2.cell? ⟨w.heap.size + 1 + 1, 2, none⟩ = some (.int .i64 0)) ∧
    (w2.frozen? ⟨w.heap.size + 1 + 1, 0, none⟩ = false ∧ w2.frozen? ⟨w.heap.size + 1 + 1, 1, none⟩ = false ∧ w2.frozen? ⟨w.heap.size + 1 + 1, 2, none⟩ = false) ∧ Below w.heap.size w w2 := by
  refine ⟨⟨?_, ?_, ?_⟩, ⟨?_, ?_, ?_⟩, ⟨?_, ?_, ?_⟩, ?_⟩
  all_goals first
    | (rw [hb2.cell (by simp; omega)]; go_simp; done)
    | (rw [hb2.cell (by simp)]; go_simp; done)
    | (rw [hb2.frozen (by simp; omega)]; go_simp; done)
    | (rw [hb2.frozen (by simp)]; go_simp; done)
    | exact ((((((Below.refl _ _).alloc (Nat.le_refl _) _).alloc (by simp) _).alloc (by simp; omega) _).alloc (by simp; omega) _)).trans (hb2.mono (by simp; omega))

set_option maxRecDepth 100000 in
set_option maxHeartbeats 800000 in
theorem nearest_nil (T X : Nat) (n : Int) (st en : Int) (mv : Value) (w : World) (hm : w.cell? ⟨T, 2, none⟩ = some mv)
    (hl : ∀ w', Below w.heap.size w w' → (Instr.lookup 54 mv (.int .i64 n) false).run Tryf.prog w' = .ok (.slice none 0 0) w') :
    Calls Tryf.prog 19 #[.pointer (some ⟨T, 0, none⟩), .int .i64 n, .agg #[.int .i64 st, .int .i64 en], .func (.func 20) #[] #[.pointer (some ⟨X, 0, none⟩)]] w fun e w' => e = .returned (.agg #[.int .i64 st, .int .i64 0, .int .i64 0]) ∧ Below w.heap.size w w' := by
  have hlt : T < w.heap.size := World.block_lt_of_cell? _ _ hm
  have HB : Hid (∀ o1 o2 o3, Below w.heap.size w (((w.alloc o1).alloc o2).alloc o3)) := fun o1 o2 o3 => ((((Below.refl _ _).alloc (Nat.le_refl _) o1).alloc (by simp) o2).alloc (by simp; omega) o3)
  have hm3 : ∀ o1 o2 o3, (((w.alloc o1).alloc o2).alloc o3).cell? ⟨T, 2, none⟩ = some mv := fun o1 o2 o3 => by rw [(HB.out o1 o2 o3).cell hlt]; exact hm
  have hl3 : ∀ o1 o2 o3, (Instr.lookup 54 mv (.int .i64 n) false).run Tryf.prog (((w.alloc o1).alloc o2).alloc o3) = .ok (.slice none 0 0) (((w.alloc o1).alloc o2).alloc o3) := fun o1 o2 o3 => hl _ (HB.out o1 o2 o3)
  have HS : Hid (∀ w', Calls Tryf.prog 24 #[.int .i64 0, .func (.func 25) #[] #[.pointer (some ⟨w.heap.size + 1, 0, none⟩), .pointer (some ⟨w.heap.size + 1 + 1 + 1, 0, none⟩)]] w' fun e w2 => e = .returned (.int .i64 0) ∧ Below w'.heap.size w' w2) := fun w' =>
    (search_any (w.heap.size + 1) (w.heap.size + 1 + 1 + 1) 0 (fun _ => true) w' (by omega) (fun _ _ i hi => absurd hi (Nat.not_lt_zero _))).mono (by
      rintro e w2 ⟨i, h1, _, rfl, h2⟩
      obtain rfl : i = 0 := by omega
      exact ⟨rfl, h2⟩)
  clear hl
  go_enter Tryf.func19, Tryf.ntmps19
  go_wp2_with fail
  refine (HS.out _).mono ?_
  rintro e w2 ⟨rfl, hb2⟩
  obtain ⟨⟨k1, k2, k3⟩, ⟨k4, k5, k6⟩, ⟨k7, k8, k9⟩, hbb⟩ := four_new hb2
  have HBB : Hid _ := hbb
  clear hb2 hbb hm3 hl3 hm
  go_wp2_with fail
  refine bodyPost_ret (v := .agg #[.int .i64 st, .int .i64 0, .int .i64 0]) (by simp [results, Tryf.results19, go_sem, *]) rfl ⟨rfl, ?_⟩
  exact (((HBB.out.setCell (by show w.heap.size ≤ w.heap.size + 1 + 1; omega) _).setCell (by show w.heap.size ≤ w.heap.size + 1 + 1; omega) _).setCell (by show w.heap.size ≤ w.heap.size + 1 + 1; omega) _)

set_option maxRecDepth 100000 in
set_option maxHeartbeats 800000 in
theorem nearest_some (T X M m cp : Nat) (n : Int) (st en col : Int) (mv : Value) (mo mp mu : Nat → Int) (w : World) (hm : w.cell? ⟨T, 2, none⟩ = some mv) (hX : w.cell? ⟨X, 1, none⟩ = some (.int .i64 col)) (hmm : m < 4294967296)
    (hl : ∀ w', Below w.heap.size w w' → (Instr.lookup 54 mv (.int .i64 n) false).run Tryf.prog w' = .ok (.slice (some ⟨M, 0, none⟩) m cp) w')
    (hk : ∀ i, i < m → w.cell? ⟨M, i * 3, none⟩ = some (.int .i64 (mo i)) ∧ w.cell? ⟨M, i * 3 + 1, none⟩ = some (.int .i64 (mp i)) ∧ w.cell? ⟨M, i * 3 + 2, none⟩ = some (.int .i64 (mu i))) :
    Calls Tryf.prog 19 #[.pointer (some ⟨T, 0, none⟩), .int .i64 n, .agg #[.int .i64 st, .int .i64 en], .func (.func 20) #[] #[.pointer (some ⟨X, 0, none⟩)]] w fun e w' =>
      ∃ off p u, e = .returned (.agg #[.int .i64 off, .int .i64 p, .int .i64 u]) ∧ Below w.heap.size w w' ∧ ((off = st ∧ p = 0 ∧ u = 0) ∨ ∃ i, i < m ∧ off = mo i ∧ p = mp i ∧ u = mu i ∧ mp i < col) := by
  have hlt : T < w.heap.size := World.block_lt_of_cell? _ _ hm
  have hlX : X < w.heap.size := World.block_lt_of_cell? _ _ hX
  have HB : Hid (∀ o1 o2 o3, Below w.heap.size w (((w.alloc o1).alloc o2).alloc o3)) := fun o1 o2 o3 => ((((Below.refl _ _).alloc (Nat.le_refl _) o1).alloc (by simp) o2).alloc (by simp; omega) o3)
  have hm3 : ∀ o1 o2 o3, (((w.alloc o1).alloc o2).alloc o3).cell? ⟨T, 2, none⟩ = some mv := fun o1 o2 o3 => by rw [(HB.out o1 o2 o3).cell hlt]; exact hm
  have hl3 : ∀ o1 o2 o3, (Instr.lookup 54 mv (.int .i64 n) false).run Tryf.prog (((w.alloc o1).alloc o2).alloc o3) = .ok (.slice (some ⟨M, 0, none⟩) m cp) (((w.alloc o1).alloc o2).alloc o3) := fun o1 o2 o3 => hl _ (HB.out o1 o2 o3)
  have HK : Hid (∀ w', Below w.heap.size w w' → ∀ i, i < m → w'.cell? ⟨M, i * 3, none⟩ = some (.int .i64 (mo i)) ∧ w'.cell? ⟨M, i * 3 + 1, none⟩ = some (.int .i64 (mp i)) ∧ w'.cell? ⟨M, i * 3 + 2, none⟩ = some (.int .i64 (mu i))) := fun w' hb i hi => by
    have hM : M < w.heap.size := World.block_lt_of_cell? _ _ (hk i hi).1
    obtain ⟨e1, e2, e3⟩ := hk i hi
    exact ⟨(hb.cell hM).trans e1, (hb.cell hM).trans e2, (hb.cell hM).trans e3⟩
  have HS : Hid (Calls Tryf.prog 24 #[.int .i64 m, .func (.func 25) #[] #[.pointer (some ⟨w.heap.size + 1, 0, none⟩), .pointer (some ⟨w.heap.size + 1 + 1 + 1, 0, none⟩)]] ((((w.alloc (.cells #[.int .i64 st, .int .i64 en] 49)).alloc (.cells #[.func (.func 20) #[] #[.pointer (some ⟨X, 0, none⟩)]] 62)).alloc (.cells #[.int .i64 0, .int .i64 0, .int .i64 0] 47)).alloc (.cells #[.slice (some ⟨M, 0, none⟩) m cp] 57)) fun e w2 =>
      ∃ i : Nat, i ≤ m ∧ (i = 0 ∨ (!decide (mp (i - 1) < col)) = false) ∧ e = .returned (.int .i64 i) ∧ Below ((((w.alloc (.cells #[.int .i64 st, .int .i64 en] 49)).alloc (.cells #[.func (.func 20) #[] #[.pointer (some ⟨X, 0, none⟩)]] 62)).alloc (.cells #[.int .i64 0, .int .i64 0, .int .i64 0] 47)).alloc (.cells #[.slice (some ⟨M, 0, none⟩) m cp] 57)).heap.size ((((w.alloc (.cells #[.int .i64 st, .int .i64 en] 49)).alloc (.cells #[.func (.func 20) #[] #[.pointer (some ⟨X, 0, none⟩)]] 62)).alloc (.cells #[.int .i64 0, .int .i64 0, .int .i64 0] 47)).alloc (.cells #[.slice (some ⟨M, 0, none⟩) m cp] 57)) w2) := by
    refine search_any _ _ m (fun i => !decide (mp i < col)) _ hmm (fun w' hb i hi => ?_)
    obtain ⟨⟨k1, k2, k3⟩, _, _, hbb⟩ := four_new hb
    obtain ⟨e1, e2, e3⟩ := HK.out w' hbb i hi
    exact notBefore_any X _ _ M m cp i (mo i) (mp i) (mu i) col w' ((hbb.cell hlX).trans hX) k2 k3 hi e1 e2 e3
  clear hl hk
  go_enter Tryf.func19, Tryf.ntmps19
  go_wp2_with fail
  refine HS.out.mono ?_
  rintro e w2 ⟨i, hi, hpi, rfl, hb2⟩
  obtain ⟨⟨k1, k2, k3⟩, ⟨k4, k5, k6⟩, ⟨k7, k8, k9⟩, hbb⟩ := four_new hb2
  have HBB : Hid _ := hbb
  clear HS hb2 hm3 hl3 hm
  rcases Nat.eq_zero_or_pos i with rfl | h0
  · clear hbb hpi
    go_wp2_with fail
    refine bodyPost_ret (v := .agg #[.int .i64 st, .int .i64 0, .int .i64 0]) (by simp [results, Tryf.results19, go_sem, *]) rfl ⟨_, _, _, rfl, ?_, Or.inl ⟨rfl, rfl, rfl⟩⟩
    exact (((HBB.out.setCell (by show w.heap.size ≤ w.heap.size + 1 + 1; omega) _).setCell (by show w.heap.size ≤ w.heap.size + 1 + 1; omega) _).setCell (by show w.heap.size ≤ w.heap.size + 1 + 1; omega) _)
  · obtain ⟨j, rfl⟩ : ∃ j, i = j + 1 := ⟨i - 1, by omega⟩
    have hlj : mp j < col := by
      rcases hpi with h | h
      · omega
      · simpa using h
    obtain ⟨e1, e2, e3⟩ := HK.out w2 hbb j (by omega)
    have x1 : (j : Int) < (m : Int) := by omega
    have x2 : ((j + 1 : Nat) : Int) - 1 = (j : Int) := by omega
    have x3 : ((j : Int) + 1) - 1 = (j : Int) := by omega
    have x4 : ¬ ((j : Int) + 1) = 0 := by omega
    have HL : Hid (mp j < col) := hlj
    clear hbb hpi hlj
    go_wp2_with fail
    refine bodyPost_ret (v := .agg #[.int .i64 (mo j), .int .i64 (mp j), .int .i64 (mu j)]) (by simp [results, Tryf.results19, go_sem, *]) rfl ⟨_, _, _, rfl, ?_, Or.inr ⟨j, by omega, rfl, rfl, rfl, HL.out⟩⟩
    exact (((HBB.out.setCell (by show w.heap.size ≤ w.heap.size + 1 + 1; omega) _).setCell (by show w.heap.size ≤ w.heap.size + 1 + 1; omega) _).setCell (by show w.heap.size ≤ w.heap.size + 1 + 1; omega) _)
end Go.Proofs.Qxb6614461aFmt
