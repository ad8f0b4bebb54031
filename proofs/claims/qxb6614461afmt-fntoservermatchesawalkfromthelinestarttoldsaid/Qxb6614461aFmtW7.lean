import Derived.Test.Qxb6614461aFmtW6
namespace Go.Proofs.Qxb6614461aFmt
open Go.RowKit Go.Extern.Stop Go.Stop Go.Extern

/-- locate's loop: her base, the line in block N7, the spot in block N9. -/
structure LocAt (w wr : World) (ln col : Int) (N7 N9 st en off p u : Nat) : Prop where
  bs : Base w wr ln col
  o7 : w.heap.size + 1 + 1 < N7
  o9 : N7 < N9
  l9 : N9 < wr.heap.size
  s0 : wr.cell? ⟨N7, 0, none⟩ = some (.int .i64 st)
  s1 : wr.cell? ⟨N7, 1, none⟩ = some (.int .i64 en)
  t0 : wr.cell? ⟨N9, 0, none⟩ = some (.int .i64 off)
  t1 : wr.cell? ⟨N9, 1, none⟩ = some (.int .i64 p)
  t2 : wr.cell? ⟨N9, 2, none⟩ = some (.int .i64 u)
  z0 : wr.frozen? ⟨N9, 0, none⟩ = false
  z1 : wr.frozen? ⟨N9, 1, none⟩ = false
  z2 : wr.frozen? ⟨N9, 2, none⟩ = false

theorem LocAt.step {w wr w' : World} {ln col : Int} {N7 N9 st en off p u : Nat} (h : LocAt w wr ln col N7 N9 st en off p u) (hb : Below wr.heap.size wr w') : LocAt w w' ln col N7 N9 st en off p u where
  bs := h.bs.step hb
  o7 := h.o7
  o9 := h.o9
  l9 := Nat.lt_of_lt_of_le h.l9 hb.size
  s0 := (hb.cell (by have := h.l9; have := h.o9; show N7 < _; omega)).trans h.s0
  s1 := (hb.cell (by have := h.l9; have := h.o9; show N7 < _; omega)).trans h.s1
  t0 := (hb.cell h.l9).trans h.t0
  t1 := (hb.cell h.l9).trans h.t1
  t2 := (hb.cell h.l9).trans h.t2
  z0 := (hb.frozen h.l9).trans h.z0
  z1 := (hb.frozen h.l9).trans h.z1
  z2 := (hb.frozen h.l9).trans h.z2

/-- Three stores into block N9: the others as they were. -/
theorem LocAt.set {w wr : World} {ln col : Int} {N7 N9 st en off p u : Nat} (h : LocAt w wr ln col N7 N9 st en off p u) (off' p' u' : Nat) :
    LocAt w (((wr.setCell ⟨N9, 0, none⟩ (.int .i64 off')).setCell ⟨N9, 1, none⟩ (.int .i64 p')).setCell ⟨N9, 2, none⟩ (.int .i64 u')) ln col N7 N9 st en off' p' u' := by
  obtain ⟨⟨bl, lt, c0, c1, a0, a1, a2, f0, f1, f2, b0, b1, g0, g1⟩, o7, o9, l9, s0, s1, t0, t1, t2, z0, z1, z2⟩ := h
  have n0 : ¬ N9 = w.heap.size := by omega
  have n1 : ¬ N9 = w.heap.size + 1 := by omega
  have n2 : ¬ N9 = w.heap.size + 1 + 1 := by omega
  have n3 : ¬ N9 = N7 := by omega
  have m0 : ¬ w.heap.size = N9 := by omega
  have m1 : ¬ w.heap.size + 1 = N9 := by omega
  have m2 : ¬ w.heap.size + 1 + 1 = N9 := by omega
  have m3 : ¬ N7 = N9 := by omega
  refine ⟨⟨?_, ?_, ?_, ?_, ?_, ?_, ?_, ?_, ?_, ?_, ?_, ?_, ?_, ?_⟩, o7, o9, ?_, ?_, ?_, ?_, ?_, ?_, ?_, ?_, ?_⟩
  · exact (((bl.setCell (by show w.heap.size ≤ N9; omega) _).setCell (by show w.heap.size ≤ N9; omega) _).setCell (by show w.heap.size ≤ N9; omega) _)
  all_goals first
    | (simp [World.cell?_setCell_far, *]; done)
    | (go_simp; done)

/-- What locate gives. -/
def LocGives (bs : ByteArray) (st en : Nat) (col : Int) (w : World) (e : Ending) (w' : World) : Prop :=
  Below w.heap.size w w' ∧ match go bs en (col - 1).toNat (st, 0) with
    | some r => e = .returned (.tuple #[.agg #[.int .i64 r.1, .int .i64 (col - 1), .int .i64 r.2], .agg #[.int .i64 st, .int .i64 en], .nilIface])
    | none => ∃ a, e = .returned (.tuple #[.agg #[.int .i64 0, .int .i64 0, .int .i64 0], .agg #[.int .i64 0, .int .i64 0], .iface 72 (.pointer (some a))])

set_option maxRecDepth 100000 in
set_option maxHeartbeats 3200000 in
theorem locate_any (F : Interp) (bs : ByteArray) (T B cp LB nl lc n st en : Nat) (ln col : Int) (w : World) (hF : F.answers w.tape) (hU : Lib.Utf8Tabs 0 1 w) (hT0 : w.cell? ⟨T, 0, none⟩ = some (.slice (some ⟨B, 0, none⟩) bs.size cp)) (hcap : bs.size ≤ cp)
    (hp : ∀ j, j < bs.size → w.cell? ⟨B, j, none⟩ = some (.int .u8 (bs.get! j).toNat)) (hbs : bs.size < 1073741824)
    (hT1 : w.cell? ⟨T, 1, none⟩ = some (.slice (some ⟨LB, 0, none⟩) nl lc)) (hn : n < nl) (hnl : nl < 4294967296) (hln : ln = (n : Int) + 1)
    (k0 : w.cell? ⟨LB, n * 2, none⟩ = some (.int .i64 st)) (k1 : w.cell? ⟨LB, n * 2 + 1, none⟩ = some (.int .i64 en)) (hse : st ≤ en) (hen : en ≤ bs.size) (hc1 : 1 ≤ col) (hc2 : col ≤ 9223372036854775807)
    (hnear : ∀ X w', Below w.heap.size w w' → w'.cell? ⟨X, 1, none⟩ = some (.int .i64 col) → Calls Tryf.prog 19 #[.pointer (some ⟨T, 0, none⟩), .int .i64 n, .agg #[.int .i64 st, .int .i64 en], .func (.func 20) #[] #[.pointer (some ⟨X, 0, none⟩)]] w' fun e w2 =>
      ∃ off p u : Nat, e = .returned (.agg #[.int .i64 off, .int .i64 p, .int .i64 u]) ∧ Below w'.heap.size w' w2 ∧ (p : Int) ≤ col - 1 ∧ go bs en p (st, 0) = some (off, u)) :
    Calls Tryf.prog 15 #[.pointer (some ⟨T, 0, none⟩), .agg #[.int .i64 ln, .int .i64 col]] w fun e w' => LocGives bs st en col w e w' := by
  have HBS : Hid (Base w (((w.alloc (.cells #[.int .i64 ln, .int .i64 col] 27)).alloc (.cells #[.int .i64 0, .int .i64 0, .int .i64 0] 47)).alloc (.cells #[.int .i64 0, .int .i64 0] 49)) ln col) := Base.start w ln col
  have hlt : T < w.heap.size := World.block_lt_of_cell? _ _ hT1
  have hlL : LB < w.heap.size := World.block_lt_of_cell? _ _ k0
  have HF : Hid (∀ w', Below w.heap.size w w' → F.answers w'.tape) := fun w' hb => by rw [hb.tape]; exact hF
  have HLN : Hid (∀ w', Below w.heap.size w w' → Calls Tryf.prog 18 #[.pointer (some ⟨T, 0, none⟩), .int .i64 n] w' fun e w2 => e = .returned (.tuple #[.agg #[.int .i64 st, .int .i64 en], .bool true]) ∧ Below w'.heap.size w' w2) := fun w' hb =>
    lineAt_ok T LB nl lc n st en w' ((hb.cell hlt).trans hT1) hn ((hb.cell hlL).trans k0) ((hb.cell hlL).trans k1)
  have HNR : Hid (∀ X w', Below w.heap.size w w' → w'.cell? ⟨X, 1, none⟩ = some (.int .i64 col) → Calls Tryf.prog 19 #[.pointer (some ⟨T, 0, none⟩), .int .i64 n, .agg #[.int .i64 st, .int .i64 en], .func (.func 20) #[] #[.pointer (some ⟨X, 0, none⟩)]] w' fun e w2 =>
      ∃ off p u : Nat, e = .returned (.agg #[.int .i64 off, .int .i64 p, .int .i64 u]) ∧ Below w'.heap.size w' w2 ∧ (p : Int) ≤ col - 1 ∧ go bs en p (st, 0) = some (off, u)) := hnear
  have HST : Hid (∀ w' (off p u : Nat), Below w.heap.size w w' → off < en → p < 4294967296 → u < 4294967296 → Calls Tryf.prog 21 #[.pointer (some ⟨T, 0, none⟩), .agg #[.int .i64 off, .int .i64 p, .int .i64 u], .agg #[.int .i64 st, .int .i64 en]] w' fun e w2 =>
      e = .returned (.agg #[.int .i64 ((off + sz bs off en : Nat) : Int), .int .i64 ((p + 1 : Nat) : Int), .int .i64 ((u + un bs off en : Nat) : Int)]) ∧ Below w'.heap.size w' w2) := by
    intro w' off p u hb h1 h2 h3
    have hd := dec_facts bs off en h1 hen
    refine (step_any bs T B cp off en p u st w' (Utf8Tabs_below hU hb) ((hb.cell hlt).trans hT0) hcap (fun j hj => ?_) h1 hen (by omega) (by omega) (by omega) (by omega) (by omega)).mono ?_
    · have hx := hp j hj
      rw [hb.cell (World.block_lt_of_cell? _ _ hx), hx]
    · rintro e w2 ⟨rfl, h⟩
      refine ⟨?_, h⟩
      rw [hd.2.2.2.2]
      simp [sz]
  have y1 : IntKind.i64.wrap (ln - 1) = (n : Int) := by rw [IntKind.wrap_i64]; omega
  have y2 : IntKind.i64.wrap (col - 1) = col - 1 := by rw [IntKind.wrap_i64]; omega
  have y3 : ln - 1 = (n : Int) := by omega
  have y4 : 1 ≤ ln := by omega
  clear hF hU hT0 hp hT1 k0 k1 hnear hln
  go_enter Tryf.func15, Tryf.ntmps15
  go_wp2_with fail
  refine (HLN.out _ HBS.out.bl).mono ?_
  rintro e w2 ⟨rfl, hb2⟩
  have hbs2 := HBS.out.step (hb2.alloc hb2.size (.cells #[.int .i64 st, .int .i64 en] 49))
  have hw2 : w.heap.size + 1 + 1 < w2.heap.size := Nat.lt_of_lt_of_le HBS.out.lt hb2.size
  have hs0 : (w2.alloc (.cells #[.int .i64 st, .int .i64 en] 49)).cell? ⟨w2.heap.size, 0, none⟩ = some (.int .i64 st) := by go_simp
  have hs1 : (w2.alloc (.cells #[.int .i64 st, .int .i64 en] 49)).cell? ⟨w2.heap.size, 1, none⟩ = some (.int .i64 en) := by go_simp
  have hsz : (w2.alloc (.cells #[.int .i64 st, .int .i64 en] 49)).heap.size = w2.heap.size + 1 := by simp
  clear hb2 HBS HLN
  have HB2 : Hid _ := hbs2
  obtain ⟨_, _, c0, c1, a0, a1, a2, f0, f1, f2, b0, b1, g0, g1⟩ := hbs2
  go_wp2_with fail
  refine (HNR.out w.heap.size _ HB2.out.bl c1).mono ?_
  rintro e w3 ⟨off, p, u, rfl, hb3, hpc, hgo⟩
  have hloc : LocAt w (w3.alloc (.cells #[.int .i64 off, .int .i64 p, .int .i64 u] 47)) ln col w2.heap.size w3.heap.size st en off p u := by
    have hb3' := hb3.alloc hb3.size (.cells #[.int .i64 off, .int .i64 p, .int .i64 u] 47)
    have h23 : w2.heap.size + 1 ≤ w3.heap.size := by rw [← hsz]; exact hb3.size
    exact ⟨HB2.out.step hb3', hw2, by omega, by simp, (hb3'.cell (by rw [hsz]; show w2.heap.size < _; omega)).trans hs0, (hb3'.cell (by rw [hsz]; show w2.heap.size < _; omega)).trans hs1, by go_simp, by go_simp, by go_simp, by go_simp, by go_simp, by go_simp⟩
  have HL : Hid _ := hloc
  have HG : Hid (go bs en p (st, 0) = some (off, u)) := hgo
  clear hs0 hs1 hsz HB2 HNR hb3 hloc hgo c0 c1 a0 a1 a2 f0 f1 f2 b0 b1 g0 g1
  go_wp2_with fail
  generalize w3.alloc (.cells #[.int .i64 off, .int .i64 p, .int .i64 u] 47) = W at HL ⊢
  generalize w2.heap.size = N7 at HL ⊢
  generalize w3.heap.size = N9 at HL ⊢
  go_loopw [63] (fun _ wr => ∃ off p u : Nat, LocAt w wr ln col N7 N9 st en off p u ∧ (p : Int) ≤ col - 1 ∧ go bs en p (st, 0) = some (off, u)) (fun _ wr => en - (match wr.cell? ⟨N9, 0, none⟩ with | some v => (intOf v).toNat | none => 0))
  case atStart => exact ⟨off, p, u, HL.out, hpc, HG.out⟩
  case round =>
    clear HL HG hpc
    obtain ⟨off, p, u, hl, hpc, hgo⟩ := hrel
    have HL : Hid _ := hl
    have hgf := go_facts bs en hen p (st, 0) hse (off, u) hgo
    simp only at hgf
    have HG : Hid (go bs en p (st, 0) = some (off, u)) := hgo
    obtain ⟨⟨bl, lt, c0, c1, a0, a1, a2, f0, f1, f2, b0, b1, g0, g1⟩, o7, o9, l9, s0, s1, t0, t1, t2, z0, z1, z2⟩ := hl
    have HBL : Hid _ := bl
    clear hgo bl
    by_cases hlt1 : (p : Int) < col - 1
    · by_cases hoe : off = en
      · have HN : Hid (go bs en (col - 1).toNat (st, 0) = none) := go_none_le bs en (p + 1) _ _ (by rw [go_one bs en p _ _ HG.out, if_pos hoe]) (by omega)
        have x1 : (off : Int) = (en : Int) := by omega
        clear hoe HG hgf
        go_wp2_with fail
        refine (errorf2 F wr.heap.size col ln p _ (by exact HF.out _ (HBL.out.alloc HBL.out.size _)) (by go_simp) (by go_simp) (by go_simp)).mono ?_
        rintro e w4 ⟨a, rfl, hb4⟩
        have hbs4 := HL.out.bs.step (((Below.refl _ _).alloc (Nat.le_refl _) _).trans (hb4.mono (by simp)))
        have HB4 : Hid _ := hbs4
        clear c0 c1 a0 a1 a2 f0 f1 f2 b0 b1 g0 g1 s0 s1 t0 t1 t2 z0 z1 z2 hb4 HL
        obtain ⟨_, _, c0, c1, a0, a1, a2, f0, f1, f2, b0, b1, g0, g1⟩ := hbs4
        go_wp2_with fail
        refine bodyPost_ret (v := .tuple #[.agg #[.int .i64 0, .int .i64 0, .int .i64 0], .agg #[.int .i64 0, .int .i64 0], .iface 72 (.pointer (some a))]) (by simp [results, Tryf.results15, go_sem, *]) rfl ?_
        refine ⟨HB4.out.stored _ _ _ _ _, ?_⟩
        rw [HN.out]
        exact ⟨_, rfl⟩
      · have x1 : ¬ (off : Int) = (en : Int) := by omega
        have hoe' : off < en := by omega
        have hd := dec_facts bs off en hoe' hen
        have HS : Hid (Calls Tryf.prog 21 #[.pointer (some ⟨T, 0, none⟩), .agg #[.int .i64 off, .int .i64 p, .int .i64 u], .agg #[.int .i64 st, .int .i64 en]] wr fun e w2 =>
            e = .returned (.agg #[.int .i64 ((off + sz bs off en : Nat) : Int), .int .i64 ((p + 1 : Nat) : Int), .int .i64 ((u + un bs off en : Nat) : Int)]) ∧ Below wr.heap.size wr w2) := HST.out wr off p u HBL.out hoe' (by omega) (by omega)
        have HG2 : Hid (go bs en (p + 1) (st, 0) = some (off + sz bs off en, u + un bs off en)) := by
          rw [Hid, go_one bs en p _ _ HG.out, if_neg hoe]
        clear hoe HG
        generalize sz bs off en = zz at *
        generalize un bs off en = uu at *
        go_wp2_with fail
        refine HS.out.mono ?_
        rintro e w4 ⟨rfl, hb4⟩
        have hl4 := HL.out.step hb4
        have HL4 : Hid _ := hl4.set (off + zz) (p + 1) (u + uu)
        have HT4 : Hid (w4.cell? ⟨N9, 0, none⟩ = _) := hl4.t0
        clear c0 c1 a0 a1 a2 f0 f1 f2 b0 b1 g0 g1 s0 s1 t1 t2 z0 z1 z2 hb4 HL HS
        obtain ⟨⟨bl, lt, c0, c1, a0, a1, a2, f0, f1, f2, b0, b1, g0, g1⟩, _, _, _, s0, s1, t0', t1, t2, z0, z1, z2⟩ := hl4
        go_wp2_with fail
        go_roundw
        case rel => exact ⟨off + zz, p + 1, u + uu, by simpa using HL4.out, by omega, HG2.out⟩
        case measure =>
          have h4 := HL4.out.t0
          simp only [Int.natCast_add, Int.cast_ofNat_Int] at h4
          rw [h4, t0]
          simp only [intOf]
          omega
    · have hpe : p = (col - 1).toNat := by omega
      have hpe2 : (p : Int) = col - 1 := by omega
      have HN : Hid (go bs en (col - 1).toNat (st, 0) = some (off, u)) := by rw [← hpe]; exact HG.out
      clear hpe HG
      have n0 : ¬ N9 = w.heap.size + 1 := by omega
      have n1 : ¬ N9 = w.heap.size + 1 + 1 := by omega
      have n2 : ¬ N7 = w.heap.size + 1 := by omega
      have n3 : ¬ N7 = w.heap.size + 1 + 1 := by omega
      have n4 : ¬ w.heap.size + 1 = N9 := by omega
      have n5 : ¬ w.heap.size + 1 + 1 = N9 := by omega
      have n6 : ¬ w.heap.size + 1 = N7 := by omega
      have n7 : ¬ w.heap.size + 1 + 1 = N7 := by omega
      have HPE : Hid _ := hpe2
      clear hpe2
      go_wp2_with fail
      go_region_held3 (fun w' => w'.cell? ⟨N9, 0, none⟩ = some (.int .i64 off) ∧ w'.cell? ⟨N9, 1, none⟩ = some (.int .i64 p) ∧ w'.cell? ⟨N9, 2, none⟩ = some (.int .i64 u) ∧ w'.cell? ⟨N7, 0, none⟩ = some (.int .i64 st) ∧ w'.cell? ⟨N7, 1, none⟩ = some (.int .i64 en))
        (first | go_keep)
        (fail)
      all_goals
        go_wp2_with fail
        refine bodyPost_ret (v := .tuple #[.agg #[.int .i64 off, .int .i64 p, .int .i64 u], .agg #[.int .i64 st, .int .i64 en], .nilIface]) (by simp [results, Tryf.results15, go_sem, *]) rfl ?_
        refine ⟨(HL.out.bs.step (Below.refl _ _).drew).stored _ _ _ _ _, ?_⟩
        rw [HN.out]
        simp only
        rw [HPE.out]
end Go.Proofs.Qxb6614461aFmt
