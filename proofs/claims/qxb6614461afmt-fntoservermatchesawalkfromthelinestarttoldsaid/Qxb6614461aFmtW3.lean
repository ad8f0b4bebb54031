import Derived.Test.Qxb6614461aFmtW2
namespace Go.Proofs.Qxb6614461aFmt
open Go.RowKit

set_option maxRecDepth 100000 in
set_option maxHeartbeats 800000 in
theorem before_any (X : Nat) (off p u col : Int) (w : World) (hX : w.cell? ⟨X, 1, none⟩ = some (.int .i64 col)) :
    Calls Tryf.prog 20 #[.agg #[.int .i64 off, .int .i64 p, .int .i64 u], .pointer (some ⟨X, 0, none⟩)] w fun e w' => e = .returned (.bool (decide (p < col))) ∧ Below w.heap.size w w' := by
  have hlt : X < w.heap.size := World.block_lt_of_cell? _ _ hX
  have h1 : ∀ o, (w.alloc o).cell? ⟨X, 1, none⟩ = some (.int .i64 col) := fun o => by rw [((Below.refl w.heap.size w).alloc (Nat.le_refl _) o).cell hlt]; exact hX
  go_enter Tryf.func20, Tryf.ntmps20
  go_wp2
  go_ret
  exact ⟨rfl, (Below.refl _ _).alloc (Nat.le_refl _) _⟩

set_option maxRecDepth 100000 in
set_option maxHeartbeats 800000 in
theorem notBefore_any (X A7 A9 M m cp i : Nat) (off p u col : Int) (w : World) (hX : w.cell? ⟨X, 1, none⟩ = some (.int .i64 col)) (h7 : w.cell? ⟨A7, 0, none⟩ = some (.func (.func 20) #[] #[.pointer (some ⟨X, 0, none⟩)]))
    (h9 : w.cell? ⟨A9, 0, none⟩ = some (.slice (some ⟨M, 0, none⟩) m cp)) (hi : i < m)
    (k0 : w.cell? ⟨M, i * 3, none⟩ = some (.int .i64 off)) (k1 : w.cell? ⟨M, i * 3 + 1, none⟩ = some (.int .i64 p)) (k2 : w.cell? ⟨M, i * 3 + 2, none⟩ = some (.int .i64 u)) :
    Calls Tryf.prog 25 #[.int .i64 i, .pointer (some ⟨A7, 0, none⟩), .pointer (some ⟨A9, 0, none⟩)] w fun e w' => e = .returned (.bool (!decide (p < col))) ∧ Below w.heap.size w w' := by
  have HC : Hid (Calls Tryf.prog 20 #[.agg #[.int .i64 off, .int .i64 p, .int .i64 u], .pointer (some ⟨X, 0, none⟩)] w.drew fun e w' => e = .returned (.bool (decide (p < col))) ∧ Below w.drew.heap.size w.drew w') := before_any X off p u col w.drew (by exact hX)
  have x1 : (0 : Int) ≤ (i : Int) := by omega
  have x2 : (i : Int) < (m : Int) := by omega
  have l7 := World.block_lt_of_cell? _ _ h7
  have l9 := World.block_lt_of_cell? _ _ h9
  have lM := World.block_lt_of_cell? _ _ k0
  generalize decide (p < col) = b at HC ⊢
  go_enter Tryf.func25, Tryf.ntmps25
  go_wp2_with fail
  go_region_held3 (fun w' => w'.cell? ⟨A7, 0, none⟩ = some (.func (.func 20) #[] #[.pointer (some ⟨X, 0, none⟩)]) ∧ w'.cell? ⟨A9, 0, none⟩ = some (.slice (some ⟨M, 0, none⟩) m cp) ∧ w'.cell? ⟨M, i * 3, none⟩ = some (.int .i64 off) ∧ w'.cell? ⟨M, i * 3 + 1, none⟩ = some (.int .i64 p) ∧ w'.cell? ⟨M, i * 3 + 2, none⟩ = some (.int .i64 u))
    (first | go_keep | assumption)
    (first | (go_at_call 20; refine HC.out.mono ?_; rintro e w2 ⟨rfl, hb2⟩; have j : w2.cell? ⟨A7, 0, none⟩ = some (.func (.func 20) #[] #[.pointer (some ⟨X, 0, none⟩)]) ∧ w2.cell? ⟨A9, 0, none⟩ = some (.slice (some ⟨M, 0, none⟩) m cp) ∧ w2.cell? ⟨M, i * 3, none⟩ = some (.int .i64 off) ∧ w2.cell? ⟨M, i * 3 + 1, none⟩ = some (.int .i64 p) ∧ w2.cell? ⟨M, i * 3 + 2, none⟩ = some (.int .i64 u) := ⟨(hb2.cell l7).trans h7, (hb2.cell l9).trans h9, (hb2.cell lM).trans k0, (hb2.cell lM).trans k1, (hb2.cell lM).trans k2⟩))
  go_wp2
  go_ret
  exact ⟨rfl, (Below.refl _ _).drew.trans hb2⟩

set_option maxRecDepth 100000 in
set_option maxHeartbeats 800000 in
theorem search_any (A7 A9 n : Nat) (p : Nat → Bool) (w : World) (hn : n < 4294967296)
    (hf : ∀ w', Below w.heap.size w w' → ∀ i, i < n → Calls Tryf.prog 25 #[.int .i64 i, .pointer (some ⟨A7, 0, none⟩), .pointer (some ⟨A9, 0, none⟩)] w' fun e w2 => e = .returned (.bool (p i)) ∧ Below w'.heap.size w' w2) :
    Calls Tryf.prog 24 #[.int .i64 n, .func (.func 25) #[] #[.pointer (some ⟨A7, 0, none⟩), .pointer (some ⟨A9, 0, none⟩)]] w fun e w' => ∃ i : Nat, i ≤ n ∧ (i = 0 ∨ p (i - 1) = false) ∧ e = .returned (.int .i64 i) ∧ Below w.heap.size w w' := by
  have HF : Hid (∀ w', Below w.heap.size w w' → ∀ i, i < n → Calls Tryf.prog 25 #[.int .i64 i, .pointer (some ⟨A7, 0, none⟩), .pointer (some ⟨A9, 0, none⟩)] w' fun e w2 => e = .returned (.bool (p i)) ∧ Below w'.heap.size w' w2) := hf
  clear hf
  go_enter Tryf.func24, Tryf.ntmps24
  go_wp2_with fail
  go_loopw [5, 6] (fun s5 s6 wr => ∃ (lo hi : Nat), s5 = .int .i64 lo ∧ s6 = .int .i64 hi ∧ lo ≤ hi ∧ hi ≤ n ∧ (lo = 0 ∨ p (lo - 1) = false) ∧ Below w.heap.size w wr) (fun s5 s6 _ => (intOf s6).toNat - (intOf s5).toNat)
  case atStart => exact ⟨0, n, rfl, rfl, Nat.zero_le _, Nat.le_refl _, Or.inl rfl, Below.refl _ _⟩
  case round =>
    obtain ⟨lo, hi, rfl, rfl, hlh, hin, hlo, hb⟩ := hrel
    have HLO : Hid _ := hlo
    have HB : Hid _ := hb
    clear hlo hb
    by_cases hlt : lo < hi
    · have hc := HF.out wr HB.out ((lo + hi) / 2) (by omega)
      rw [show (((lo + hi) / 2 : Nat) : Int) = ((lo : Int) + (hi : Int)) / 2 by omega] at hc
      have HC : Hid (Calls Tryf.prog 25 #[.int .i64 (((lo : Int) + (hi : Int)) / 2), .pointer (some ⟨A7, 0, none⟩), .pointer (some ⟨A9, 0, none⟩)] wr fun e w2 => e = .returned (.bool (p ((lo + hi) / 2))) ∧ Below wr.heap.size wr w2) := hc
      clear hc
      cases hp : p ((lo + hi) / 2) <;> rw [hp] at HC <;> have HP : Hid _ := hp <;> clear hp
      · go_wp2_with fail
        refine HC.out.mono ?_
        rintro e w2 ⟨rfl, hb2⟩
        go_wp2_with fail
        go_roundw
        case rel => exact ⟨(lo + hi) / 2 + 1, hi, by go_num, rfl, by omega, hin, Or.inr (by simpa using HP.out), HB.out.trans (hb2.mono HB.out.size)⟩
        case measure => simp [intOf]; omega
      · go_wp2_with fail
        refine HC.out.mono ?_
        rintro e w2 ⟨rfl, hb2⟩
        go_wp2_with fail
        go_roundw
        case rel => exact ⟨lo, (lo + hi) / 2, rfl, by go_num, by omega, by omega, HLO.out, HB.out.trans (hb2.mono HB.out.size)⟩
        case measure => simp [intOf]; omega
    · go_wp2_with fail
      go_ret
      exact ⟨lo, by omega, HLO.out, rfl, HB.out⟩
end Go.Proofs.Qxb6614461aFmt
