import Derived.Test.Qxb6614461aFmtW6
namespace Go.Proofs.Qxb6614461aFmt
open Go.RowKit Go.Extern.Stop Go.Stop Go.Extern

/-- The two blocks that ToServer makes at its beginning, in a later world. -/
structure Base2 (w wr : World) (ln col : Int) : Prop where
  bl : Below w.heap.size w wr
  lt : w.heap.size + 1 < wr.heap.size
  c0 : wr.cell? ⟨w.heap.size, 0, none⟩ = some (.int .i64 ln)
  c1 : wr.cell? ⟨w.heap.size, 1, none⟩ = some (.int .i64 col)
  b0 : wr.cell? ⟨w.heap.size + 1, 0, none⟩ = some (.int .i64 0)
  b1 : wr.cell? ⟨w.heap.size + 1, 1, none⟩ = some (.int .i64 0)
  g0 : wr.frozen? ⟨w.heap.size + 1, 0, none⟩ = false
  g1 : wr.frozen? ⟨w.heap.size + 1, 1, none⟩ = false

theorem Base2.start (w : World) (ln col : Int) : Base2 w ((w.alloc (.cells #[.int .i64 ln, .int .i64 col] 27)).alloc (.cells #[.int .i64 0, .int .i64 0] 30)) ln col where
  bl := ((Below.refl _ _).alloc (Nat.le_refl _) _).alloc (by simp) _
  lt := by simp
  c0 := by go_simp
  c1 := by go_simp
  b0 := by go_simp
  b1 := by go_simp
  g0 := by go_simp
  g1 := by go_simp

theorem Base2.step {w wr w' : World} {ln col : Int} (h : Base2 w wr ln col) (hb : Below wr.heap.size wr w') : Base2 w w' ln col where
  bl := h.bl.trans (hb.mono h.bl.size)
  lt := Nat.lt_of_lt_of_le h.lt hb.size
  c0 := (hb.cell (by have := h.lt; show w.heap.size < _; omega)).trans h.c0
  c1 := (hb.cell (by have := h.lt; show w.heap.size < _; omega)).trans h.c1
  b0 := (hb.cell (by have := h.lt; show w.heap.size + 1 < _; omega)).trans h.b0
  b1 := (hb.cell (by have := h.lt; show w.heap.size + 1 < _; omega)).trans h.b1
  g0 := (hb.frozen (by have := h.lt; show w.heap.size + 1 < _; omega)).trans h.g0
  g1 := (hb.frozen (by have := h.lt; show w.heap.size + 1 < _; omega)).trans h.g1

theorem Base2.stored {w wr : World} {ln col : Int} (h : Base2 w wr ln col) (v3 v4 : Value) :
    Below w.heap.size w ((wr.setCell ⟨w.heap.size + 1, 0, none⟩ v3).setCell ⟨w.heap.size + 1, 1, none⟩ v4) :=
  (h.bl.setCell (by show w.heap.size ≤ w.heap.size + 1; omega) _).setCell (by show w.heap.size ≤ w.heap.size + 1; omega) _

set_option maxRecDepth 100000 in
set_option maxHeartbeats 1600000 in
theorem toServer_unknown (F : Interp) (T : Nat) (ln col : Int) (enc : ByteArray) (w : World) (hF : F.answers w.tape) (hk : (isU8 enc || isU16 enc || isU32 enc) = false) :
    Calls Tryf.prog 7 #[.pointer (some ⟨T, 0, none⟩), .agg #[.int .i64 ln, .int .i64 col], .string enc] w fun e w' => ∃ a, e = .returned (.tuple #[.agg #[.int .i64 0, .int .i64 0], .iface 72 (.pointer (some a))]) ∧ Below w.heap.size w w' := by
  have HBS : Hid (Base2 w ((w.alloc (.cells #[.int .i64 ln, .int .i64 col] 27)).alloc (.cells #[.int .i64 0, .int .i64 0] 30)) ln col) := Base2.start w ln col
  have HK : Hid _ := hk
  clear hk
  go_enter Tryf.func7, Tryf.ntmps7
  go_wp2_with fail
  refine (checkEncoding_no F enc _ (by exact hF) HK.out).mono ?_
  rintro e w2 ⟨a, rfl, hb2⟩
  have hbs := HBS.out.step hb2
  have HB2 : Hid _ := hbs
  obtain ⟨_, _, c0, c1, b0, b1, g0, g1⟩ := hbs
  clear HBS hb2
  go_wp2_with fail
  refine bodyPost_ret (v := .tuple #[.agg #[.int .i64 0, .int .i64 0], .iface 72 (.pointer (some a))]) (by simp [results, Tryf.results7, go_sem, *]) rfl ⟨_, rfl, ?_⟩
  exact HB2.out.stored _ _

set_option maxRecDepth 100000 in
set_option maxHeartbeats 1600000 in
theorem toServer_err (T : Nat) (ln col : Int) (enc : ByteArray) (w : World) (hk : (isU8 enc || isU16 enc || isU32 enc) = true)
    (hloc : ∀ w', Below w.heap.size w w' → Calls Tryf.prog 15 #[.pointer (some ⟨T, 0, none⟩), .agg #[.int .i64 ln, .int .i64 col]] w' fun e w2 => ∃ a, e = .returned (.tuple #[.agg #[.int .i64 0, .int .i64 0, .int .i64 0], .agg #[.int .i64 0, .int .i64 0], .iface 72 (.pointer (some a))]) ∧ Below w'.heap.size w' w2) :
    Calls Tryf.prog 7 #[.pointer (some ⟨T, 0, none⟩), .agg #[.int .i64 ln, .int .i64 col], .string enc] w fun e w' => ∃ a, e = .returned (.tuple #[.agg #[.int .i64 0, .int .i64 0], .iface 72 (.pointer (some a))]) ∧ Below w.heap.size w w' := by
  have HBS : Hid (Base2 w ((w.alloc (.cells #[.int .i64 ln, .int .i64 col] 27)).alloc (.cells #[.int .i64 0, .int .i64 0] 30)) ln col) := Base2.start w ln col
  have HK : Hid _ := hk
  have HL : Hid (∀ w', Below w.heap.size w w' → Calls Tryf.prog 15 #[.pointer (some ⟨T, 0, none⟩), .agg #[.int .i64 ln, .int .i64 col]] w' fun e w2 => ∃ a, e = .returned (.tuple #[.agg #[.int .i64 0, .int .i64 0, .int .i64 0], .agg #[.int .i64 0, .int .i64 0], .iface 72 (.pointer (some a))]) ∧ Below w'.heap.size w' w2) := hloc
  clear hk hloc
  go_enter Tryf.func7, Tryf.ntmps7
  go_wp2_with fail
  refine (checkEncoding_ok enc _ HK.out).mono ?_
  rintro e w1 ⟨rfl, rfl⟩
  go_wp2_with fail
  refine (HL.out _ HBS.out.bl).mono ?_
  rintro e w2 ⟨a, rfl, hb2⟩
  have hbs := (HBS.out.step hb2)
  have hbs2 := hbs.step (((Below.refl _ _).alloc (Nat.le_refl _) (.cells #[.int .i64 0, .int .i64 0, .int .i64 0] 47)).alloc (by simp) (.cells #[.int .i64 0, .int .i64 0] 49))
  have HB2 : Hid _ := hbs2
  obtain ⟨_, _, c0, c1, b0, b1, g0, g1⟩ := hbs2
  clear HBS hb2 hbs
  go_wp2_with fail
  refine bodyPost_ret (v := .tuple #[.agg #[.int .i64 0, .int .i64 0], .iface 72 (.pointer (some a))]) (by simp [results, Tryf.results7, go_sem, *]) rfl ⟨_, rfl, ?_⟩
  exact HB2.out.stored _ _

set_option maxRecDepth 100000 in
set_option maxHeartbeats 1600000 in
theorem toServer_ok (T : Nat) (ln col off u st en : Int) (enc : ByteArray) (w : World) (hk : (isU8 enc || isU16 enc || isU32 enc) = true) (h1 : 1 ≤ ln) (h2 : ln ≤ 9223372036854775807) (h3 : 0 ≤ off - st) (h4 : off - st < 4294967296)
    (hloc : ∀ w', Below w.heap.size w w' → Calls Tryf.prog 15 #[.pointer (some ⟨T, 0, none⟩), .agg #[.int .i64 ln, .int .i64 col]] w' fun e w2 => e = .returned (.tuple #[.agg #[.int .i64 off, .int .i64 (col - 1), .int .i64 u], .agg #[.int .i64 st, .int .i64 en], .nilIface]) ∧ Below w'.heap.size w' w2) :
    Calls Tryf.prog 7 #[.pointer (some ⟨T, 0, none⟩), .agg #[.int .i64 ln, .int .i64 col], .string enc] w fun e w' => e = .returned (.tuple #[.agg #[.int .i64 (ln - 1), .int .i64 (unitsOf enc off (col - 1) u st)], .nilIface]) ∧ Below w.heap.size w w' := by
  have HBS : Hid (Base2 w ((w.alloc (.cells #[.int .i64 ln, .int .i64 col] 27)).alloc (.cells #[.int .i64 0, .int .i64 0] 30)) ln col) := Base2.start w ln col
  have HK : Hid _ := hk
  have HL : Hid (∀ w', Below w.heap.size w w' → Calls Tryf.prog 15 #[.pointer (some ⟨T, 0, none⟩), .agg #[.int .i64 ln, .int .i64 col]] w' fun e w2 => e = .returned (.tuple #[.agg #[.int .i64 off, .int .i64 (col - 1), .int .i64 u], .agg #[.int .i64 st, .int .i64 en], .nilIface]) ∧ Below w'.heap.size w' w2) := hloc
  have HUU : Hid (∀ w', Calls Tryf.prog 16 #[.agg #[.int .i64 off, .int .i64 (col - 1), .int .i64 u], .string enc, .agg #[.int .i64 st, .int .i64 en]] w' fun e w2 => e = .returned (.int .i64 (unitsOf enc off (col - 1) u st)) ∧ Below w'.heap.size w' w2) := fun w' => units_any off (col - 1) u st en enc w' h3 h4
  have y1 : IntKind.i64.wrap (ln - 1) = ln - 1 := by rw [IntKind.wrap_i64]; omega
  generalize unitsOf enc off (col - 1) u st = un at HUU ⊢
  generalize col - 1 = cc at HUU HL
  clear hk hloc
  go_enter Tryf.func7, Tryf.ntmps7
  go_wp2_with fail
  refine (checkEncoding_ok enc _ HK.out).mono ?_
  rintro e w1 ⟨rfl, rfl⟩
  go_wp2_with fail
  refine (HL.out _ HBS.out.bl).mono ?_
  rintro e w2 ⟨rfl, hb2⟩
  have hbs := (HBS.out.step hb2)
  have hl2 : w.heap.size + 1 < w2.heap.size := hbs.lt
  have hbs2 := hbs.step (((Below.refl _ _).alloc (Nat.le_refl _) (.cells #[.int .i64 off, .int .i64 cc, .int .i64 u] 47)).alloc (by simp) (.cells #[.int .i64 st, .int .i64 en] 49))
  have d0 : ((w2.alloc (.cells #[.int .i64 off, .int .i64 cc, .int .i64 u] 47)).alloc (.cells #[.int .i64 st, .int .i64 en] 49)).cell? ⟨w2.heap.size, 0, none⟩ = some (.int .i64 off) := by go_simp
  have d1 : ((w2.alloc (.cells #[.int .i64 off, .int .i64 cc, .int .i64 u] 47)).alloc (.cells #[.int .i64 st, .int .i64 en] 49)).cell? ⟨w2.heap.size, 1, none⟩ = some (.int .i64 cc) := by go_simp
  have d2 : ((w2.alloc (.cells #[.int .i64 off, .int .i64 cc, .int .i64 u] 47)).alloc (.cells #[.int .i64 st, .int .i64 en] 49)).cell? ⟨w2.heap.size, 2, none⟩ = some (.int .i64 u) := by go_simp
  have d3 : ((w2.alloc (.cells #[.int .i64 off, .int .i64 cc, .int .i64 u] 47)).alloc (.cells #[.int .i64 st, .int .i64 en] 49)).cell? ⟨w2.heap.size + 1, 0, none⟩ = some (.int .i64 st) := by go_simp
  have d4 : ((w2.alloc (.cells #[.int .i64 off, .int .i64 cc, .int .i64 u] 47)).alloc (.cells #[.int .i64 st, .int .i64 en] 49)).cell? ⟨w2.heap.size + 1, 1, none⟩ = some (.int .i64 en) := by go_simp
  clear HBS hb2 hbs
  go_wp2_with fail
  generalize (w2.alloc (.cells #[.int .i64 off, .int .i64 cc, .int .i64 u] 47)).alloc (.cells #[.int .i64 st, .int .i64 en] 49) = W at *
  generalize w2.heap.size = N at *
  have HB2 : Hid _ := hbs2
  obtain ⟨_, _, c0, c1, b0, b1, g0, g1⟩ := hbs2
  have HD : Hid (∀ w', Below W.heap.size W w' → w'.cell? ⟨w.heap.size, 0, none⟩ = some (.int .i64 ln) ∧ w'.cell? ⟨N, 0, none⟩ = some (.int .i64 off) ∧ w'.cell? ⟨N, 1, none⟩ = some (.int .i64 cc) ∧ w'.cell? ⟨N, 2, none⟩ = some (.int .i64 u) ∧ w'.cell? ⟨N + 1, 0, none⟩ = some (.int .i64 st) ∧ w'.cell? ⟨N + 1, 1, none⟩ = some (.int .i64 en)) := fun w' hb => by
    have e1 : N < W.heap.size := World.block_lt_of_cell? _ _ d0
    have e2 : N + 1 < W.heap.size := World.block_lt_of_cell? _ _ d3
    have e3 : w.heap.size < W.heap.size := World.block_lt_of_cell? _ _ c0
    exact ⟨(hb.cell e3).trans c0, (hb.cell e1).trans d0, (hb.cell e1).trans d1, (hb.cell e1).trans d2, (hb.cell e2).trans d3, (hb.cell e2).trans d4⟩
  have n1 : ¬ w.heap.size + 1 = N := by omega
  have n2 : ¬ N = w.heap.size + 1 := by omega
  have n3 : ¬ w.heap.size = N := by omega
  go_region_held3 (fun w' => w'.cell? ⟨w.heap.size, 0, none⟩ = some (.int .i64 ln) ∧ w'.cell? ⟨N, 0, none⟩ = some (.int .i64 off) ∧ w'.cell? ⟨N, 1, none⟩ = some (.int .i64 cc) ∧ w'.cell? ⟨N, 2, none⟩ = some (.int .i64 u) ∧ w'.cell? ⟨N + 1, 0, none⟩ = some (.int .i64 st) ∧ w'.cell? ⟨N + 1, 1, none⟩ = some (.int .i64 en))
    (first | go_keep | assumption)
    (first | (go_at_call 16; refine (HUU.out _).mono ?_; rintro e w3 ⟨rfl, hb3⟩; have hd := HD.out w3 ((Below.refl _ _).drew.trans hb3); have hbs3 := HB2.out.step ((Below.refl _ _).drew.trans hb3); have HB3 : Hid _ := hbs3; obtain ⟨_, _, c0', c1', b0', b1', g0', g1'⟩ := hbs3; obtain ⟨_, d0', d1', d2', d3', d4'⟩ := hd))
  all_goals
    clear c0 c1 b0 b1 g0 g1 d0 d1 d2 d3 d4 HD HB2 HUU
    go_wp2_with fail
    refine bodyPost_ret (v := .tuple #[.agg #[.int .i64 (ln - 1), .int .i64 un], .nilIface]) (by simp [results, Tryf.results7, go_sem, *]) rfl ⟨rfl, ?_⟩
    exact HB3.out.stored _ _
end Go.Proofs.Qxb6614461aFmt
