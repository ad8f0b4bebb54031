import Derived.Test.Qxb6614461aFmtW5
import Derived.Test.Qxb6614461aFmtP1
namespace Go.Proofs.Qxb6614461aFmt
open Go.RowKit Go.Extern.Stop Go.Stop Go.Extern

/-- The three blocks that locate makes at its beginning, in a later world. -/
structure Base (w wr : World) (ln col : Int) : Prop where
  bl : Below w.heap.size w wr
  lt : w.heap.size + 1 + 1 < wr.heap.size
  c0 : wr.cell? ⟨w.heap.size, 0, none⟩ = some (.int .i64 ln)
  c1 : wr.cell? ⟨w.heap.size, 1, none⟩ = some (.int .i64 col)
  a0 : wr.cell? ⟨w.heap.size + 1, 0, none⟩ = some (.int .i64 0)
  a1 : wr.cell? ⟨w.heap.size + 1, 1, none⟩ = some (.int .i64 0)
  a2 : wr.cell? ⟨w.heap.size + 1, 2, none⟩ = some (.int .i64 0)
  f0 : wr.frozen? ⟨w.heap.size + 1, 0, none⟩ = false
  f1 : wr.frozen? ⟨w.heap.size + 1, 1, none⟩ = false
  f2 : wr.frozen? ⟨w.heap.size + 1, 2, none⟩ = false
  b0 : wr.cell? ⟨w.heap.size + 1 + 1, 0, none⟩ = some (.int .i64 0)
  b1 : wr.cell? ⟨w.heap.size + 1 + 1, 1, none⟩ = some (.int .i64 0)
  g0 : wr.frozen? ⟨w.heap.size + 1 + 1, 0, none⟩ = false
  g1 : wr.frozen? ⟨w.heap.size + 1 + 1, 1, none⟩ = false

theorem Base.start (w : World) (ln col : Int) : Base w (((w.alloc (.cells #[.int .i64 ln, .int .i64 col] 27)).alloc (.cells #[.int .i64 0, .int .i64 0, .int .i64 0] 47)).alloc (.cells #[.int .i64 0, .int .i64 0] 49)) ln col where
  bl := (((Below.refl _ _).alloc (Nat.le_refl _) _).alloc (by simp) _).alloc (by simp; omega) _
  lt := by simp
  c0 := by go_simp
  c1 := by go_simp
  a0 := by go_simp
  a1 := by go_simp
  a2 := by go_simp
  f0 := by go_simp
  f1 := by go_simp
  f2 := by go_simp
  b0 := by go_simp
  b1 := by go_simp
  g0 := by go_simp
  g1 := by go_simp

theorem Base.step {w wr w' : World} {ln col : Int} (h : Base w wr ln col) (hb : Below wr.heap.size wr w') : Base w w' ln col where
  bl := h.bl.trans (hb.mono h.bl.size)
  lt := Nat.lt_of_lt_of_le h.lt hb.size
  c0 := (hb.cell (by have := h.lt; show w.heap.size < _; omega)).trans h.c0
  c1 := (hb.cell (by have := h.lt; show w.heap.size < _; omega)).trans h.c1
  a0 := (hb.cell (by have := h.lt; show w.heap.size + 1 < _; omega)).trans h.a0
  a1 := (hb.cell (by have := h.lt; show w.heap.size + 1 < _; omega)).trans h.a1
  a2 := (hb.cell (by have := h.lt; show w.heap.size + 1 < _; omega)).trans h.a2
  f0 := (hb.frozen (by have := h.lt; show w.heap.size + 1 < _; omega)).trans h.f0
  f1 := (hb.frozen (by have := h.lt; show w.heap.size + 1 < _; omega)).trans h.f1
  f2 := (hb.frozen (by have := h.lt; show w.heap.size + 1 < _; omega)).trans h.f2
  b0 := (hb.cell (by have := h.lt; show w.heap.size + 1 + 1 < _; omega)).trans h.b0
  b1 := (hb.cell (by have := h.lt; show w.heap.size + 1 + 1 < _; omega)).trans h.b1
  g0 := (hb.frozen (by have := h.lt; show w.heap.size + 1 + 1 < _; omega)).trans h.g0
  g1 := (hb.frozen (by have := h.lt; show w.heap.size + 1 + 1 < _; omega)).trans h.g1

/-- Behind the stores of the two results. -/
theorem Base.stored {w wr : World} {ln col : Int} (h : Base w wr ln col) (v0 v1 v2 v3 v4 : Value) :
    Below w.heap.size w (((((wr.setCell ⟨w.heap.size + 1, 0, none⟩ v0).setCell ⟨w.heap.size + 1, 1, none⟩ v1).setCell ⟨w.heap.size + 1, 2, none⟩ v2).setCell ⟨w.heap.size + 1 + 1, 0, none⟩ v3).setCell ⟨w.heap.size + 1 + 1, 1, none⟩ v4) :=
  ((((h.bl.setCell (by show w.heap.size ≤ w.heap.size + 1; omega) _).setCell (by show w.heap.size ≤ w.heap.size + 1; omega) _).setCell (by show w.heap.size ≤ w.heap.size + 1; omega) _).setCell (by show w.heap.size ≤ w.heap.size + 1 + 1; omega) _).setCell (by show w.heap.size ≤ w.heap.size + 1 + 1; omega) _

set_option maxRecDepth 100000 in
set_option maxHeartbeats 1600000 in
theorem locate_low (F : Interp) (T : Nat) (ln col : Int) (w : World) (hF : F.answers w.tape) (hlow : ln < 1 ∨ col < 1) :
    Calls Tryf.prog 15 #[.pointer (some ⟨T, 0, none⟩), .agg #[.int .i64 ln, .int .i64 col]] w fun e w' => ∃ a, e = .returned (.tuple #[.agg #[.int .i64 0, .int .i64 0, .int .i64 0], .agg #[.int .i64 0, .int .i64 0], .iface 72 (.pointer (some a))]) ∧ Below w.heap.size w w' := by
  have HBS : Hid (Base w (((w.alloc (.cells #[.int .i64 ln, .int .i64 col] 27)).alloc (.cells #[.int .i64 0, .int .i64 0, .int .i64 0] 47)).alloc (.cells #[.int .i64 0, .int .i64 0] 49)) ln col) := Base.start w ln col
  rcases Int.lt_or_le ln 1 with h1 | h1
  · go_enter Tryf.func15, Tryf.ntmps15
    go_wp2_with fail
    refine (errorf0 F (w.heap.size + 1 + 1 + 1) ln col _ (by exact hF) (by go_simp) (by go_simp)).mono ?_
    rintro e w2 ⟨a, rfl, hb2⟩
    have hbs := HBS.out.step (((Below.refl _ _).alloc (Nat.le_refl _) _).trans (hb2.mono (by simp)))
    have HB2 : Hid _ := hbs
    obtain ⟨_, _, _, _, a0, a1, a2, f0, f1, f2, b0, b1, g0, g1⟩ := hbs
    clear HBS hb2 hF
    go_wp2_with fail
    refine bodyPost_ret (v := .tuple #[.agg #[.int .i64 0, .int .i64 0, .int .i64 0], .agg #[.int .i64 0, .int .i64 0], .iface 72 (.pointer (some a))]) (by simp [results, Tryf.results15, go_sem, *]) rfl ⟨_, rfl, ?_⟩
    exact HB2.out.stored _ _ _ _ _
  · have h2 : col < 1 := by omega
    go_enter Tryf.func15, Tryf.ntmps15
    go_wp2_with fail
    refine (errorf0 F (w.heap.size + 1 + 1 + 1) ln col _ (by exact hF) (by go_simp) (by go_simp)).mono ?_
    rintro e w2 ⟨a, rfl, hb2⟩
    have hbs := HBS.out.step (((Below.refl _ _).alloc (Nat.le_refl _) _).trans (hb2.mono (by simp)))
    have HB2 : Hid _ := hbs
    obtain ⟨_, _, _, _, a0, a1, a2, f0, f1, f2, b0, b1, g0, g1⟩ := hbs
    clear HBS hb2 hF
    go_wp2_with fail
    refine bodyPost_ret (v := .tuple #[.agg #[.int .i64 0, .int .i64 0, .int .i64 0], .agg #[.int .i64 0, .int .i64 0], .iface 72 (.pointer (some a))]) (by simp [results, Tryf.results15, go_sem, *]) rfl ⟨_, rfl, ?_⟩
    exact HB2.out.stored _ _ _ _ _

set_option maxRecDepth 100000 in
set_option maxHeartbeats 1600000 in
theorem locate_past (F : Interp) (T LB nl lc : Nat) (ln col : Int) (w : World) (hF : F.answers w.tape) (h1 : 1 ≤ ln) (h2 : 1 ≤ col) (hl : ln ≤ 9223372036854775807) (hT : w.cell? ⟨T, 1, none⟩ = some (.slice (some ⟨LB, 0, none⟩) nl lc)) (hn : (nl : Int) < ln) :
    Calls Tryf.prog 15 #[.pointer (some ⟨T, 0, none⟩), .agg #[.int .i64 ln, .int .i64 col]] w fun e w' => ∃ a, e = .returned (.tuple #[.agg #[.int .i64 0, .int .i64 0, .int .i64 0], .agg #[.int .i64 0, .int .i64 0], .iface 72 (.pointer (some a))]) ∧ Below w.heap.size w w' := by
  have HBS : Hid (Base w (((w.alloc (.cells #[.int .i64 ln, .int .i64 col] 27)).alloc (.cells #[.int .i64 0, .int .i64 0, .int .i64 0] 47)).alloc (.cells #[.int .i64 0, .int .i64 0] 49)) ln col) := Base.start w ln col
  have hlt : T < w.heap.size := World.block_lt_of_cell? _ _ hT
  have HT : Hid (∀ w', Below w.heap.size w w' → w'.cell? ⟨T, 1, none⟩ = some (.slice (some ⟨LB, 0, none⟩) nl lc)) := fun w' hb => (hb.cell hlt).trans hT
  have HF : Hid (∀ w', Below w.heap.size w w' → F.answers w'.tape) := fun w' hb => by rw [hb.tape]; exact hF
  have y1 : IntKind.i64.wrap (ln - 1) = ln - 1 := by rw [IntKind.wrap_i64]; omega
  clear hF hT
  go_enter Tryf.func15, Tryf.ntmps15
  go_wp2_with fail
  refine (lineAt_no T LB nl lc (ln - 1) _ (HT.out _ HBS.out.bl) (by omega)).mono ?_
  rintro e w2 ⟨rfl, hb2⟩
  have hbs := HBS.out.step (hb2.alloc hb2.size (.cells #[.int .i64 0, .int .i64 0] 49))
  have HB2 : Hid _ := hbs
  have hT2 := HT.out _ hbs.bl
  go_wp2_with fail
  generalize w2.alloc (.cells #[.int .i64 0, .int .i64 0] 49) = W at hbs HB2 hT2 ⊢
  have HF2 : Hid (F.answers W.drew.tape) := HF.out _ hbs.bl.drew
  have l1 := hbs.lt
  obtain ⟨_, _, c0, c1, a0, a1, a2, f0, f1, f2, b0, b1, g0, g1⟩ := hbs
  have n1 := World.new_ne W ⟨w.heap.size, 0, none⟩ c0
  have n2 := World.new_ne W ⟨T, 1, none⟩ hT2
  have HT2 : Hid (∀ w', Below W.heap.size W w' → w'.cell? ⟨T, 1, none⟩ = some (.slice (some ⟨LB, 0, none⟩) nl lc)) := fun w' hb => (hb.cell (by show T < _; omega)).trans hT2
  have n3 : ¬ T = w.heap.size + 1 := by omega
  have n4 : ¬ T = w.heap.size + 1 + 1 := by omega
  have n5 : ¬ w.heap.size + 1 = T := by omega
  have n6 : ¬ w.heap.size + 1 + 1 = T := by omega
  have n7 : ¬ w.heap.size + 1 + 1 = w.heap.size := by omega
  have n8 : ¬ w.heap.size = w.heap.size + 1 + 1 := by omega
  clear HBS hb2 HF HT
  go_region_held3 (fun w' => w'.cell? ⟨w.heap.size, 0, none⟩ = some (.int .i64 ln) ∧ w'.cell? ⟨T, 1, none⟩ = some (.slice (some ⟨LB, 0, none⟩) nl lc))
    (first | go_keep | (exact ⟨by assumption, by assumption⟩))
    (first | (go_at_call 17; refine (errorf1 F W.heap.size ln nl _ (by exact HF2.out) (by go_simp) (by go_simp)).mono ?_; rintro e w3 ⟨a, rfl, hb3⟩; have hbb3 := (((Below.refl W.heap.size W).drew).alloc (Nat.le_refl _) _).trans (hb3.mono (by simp)); have hbs3 := HB2.out.step hbb3; have hT3 := HT2.out _ hbb3; have HB3 : Hid _ := hbs3; obtain ⟨_, _, c0', c1', a0', a1', a2', f0', f1', f2', b0', b1', g0', g1'⟩ := hbs3))
  clear c0 c1 a0 a1 a2 f0 f1 f2 b0 b1 g0 g1 HB2 HF2 HT2
  go_wp2_with fail
  refine bodyPost_ret (v := .tuple #[.agg #[.int .i64 0, .int .i64 0, .int .i64 0], .agg #[.int .i64 0, .int .i64 0], .iface 72 (.pointer (some a))]) (by simp [results, Tryf.results15, go_sem, *]) rfl ⟨_, rfl, ?_⟩
  exact HB3.out.stored _ _ _ _ _
end Go.Proofs.Qxb6614461aFmt
