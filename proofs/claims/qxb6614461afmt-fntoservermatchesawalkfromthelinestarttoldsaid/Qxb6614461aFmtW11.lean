import Derived.Test.Qxb6614461aFmtW10
namespace Go.Proofs.Qxb6614461aFmt
open Go.RowKit

/-- A Text in memory: its text in block B, its lines in block LB. -/
structure TextAt (w : World) (T : Nat) (bs : ByteArray) (B cp LB lc : Nat) (mv : Value) : Prop where
  t0 : w.cell? ⟨T, 0, none⟩ = some (.slice (some ⟨B, 0, none⟩) bs.size cp)
  t1 : w.cell? ⟨T, 1, none⟩ = some (.slice (some ⟨LB, 0, none⟩) (lines bs).length lc)
  t2 : w.cell? ⟨T, 2, none⟩ = some mv
  ln : ∀ n, n < (lines bs).length → w.cell? ⟨LB, n * 2, none⟩ = some (.int .i64 (((lines bs).getD n (0, 0)).1 : Nat)) ∧ w.cell? ⟨LB, n * 2 + 1, none⟩ = some (.int .i64 (((lines bs).getD n (0, 0)).2 : Nat))

theorem TextAt.step {w w' : World} {T : Nat} {bs : ByteArray} {B cp LB lc : Nat} {mv : Value} (h : TextAt w T bs B cp LB lc mv) (hb : Below w.heap.size w w') : TextAt w' T bs B cp LB lc mv where
  t0 := (hb.cell (World.block_lt_of_cell? _ _ h.t0)).trans h.t0
  t1 := (hb.cell (World.block_lt_of_cell? _ _ h.t1)).trans h.t1
  t2 := (hb.cell (World.block_lt_of_cell? _ _ h.t2)).trans h.t2
  ln := fun n hn => ⟨(hb.cell (World.block_lt_of_cell? _ _ (h.ln n hn).1)).trans (h.ln n hn).1, (hb.cell (World.block_lt_of_cell? _ _ (h.ln n hn).2)).trans (h.ln n hn).2⟩

theorem cellsOf_get (ls : List (Nat × Nat)) (n : Nat) (h : n < ls.length) : (cellsOf ls)[n * 2]? = some (iv (ls.getD n (0, 0)).1) ∧ (cellsOf ls)[n * 2 + 1]? = some (iv (ls.getD n (0, 0)).2) := by
  induction ls generalizing n with
  | nil => simp at h
  | cons p ls ih =>
    have e : cellsOf (p :: ls) = iv p.1 :: iv p.2 :: cellsOf ls := by simp [cellsOf]
    rw [e]
    match n with
    | 0 => simp
    | n + 1 =>
      have := ih n (by simpa using h)
      rw [show (n + 1) * 2 = n * 2 + 1 + 1 by omega]
      simpa using this

theorem addr_add (g n : Nat) : (⟨g, 0, none⟩ : Addr).add n = ⟨g, n, none⟩ := by
  unfold Addr.add
  split
  · simp_all
  · simp

theorem iv_get (ls : List (Nat × Nat)) (f : Nat × Nat → Nat) (n : Nat) (h : n < ls.length) : ((ls.map f).map iv)[n]? = some (iv (f (ls.getD n (0, 0)))) := by
  simp [List.getD_eq_getElem?_getD, h]

theorem NT.text {w w' : World} {bs : ByteArray} {B cp : Nat} {v : Value} (h : NT w w' (.slice (some ⟨B, 0, none⟩) bs.size cp) v (lines bs)) : ∃ LB lc, TextAt w' w.heap.size bs B cp LB lc (.map none) := by
  obtain ⟨LB, lc, rfl, h1, h2⟩ := row_form h.own (lines_ok bs).2.1
  refine ⟨LB, lc, cell_plain h.blk 0, cell_plain h.blk 1, cell_plain h.blk 2, fun n hn => ?_⟩
  have hc := h.own.cells (g := LB) rfl
  have hg := cellsOf_get (lines bs) n hn
  have h3 := hc _ _ hg.1
  have h4 := hc _ _ hg.2
  rw [addr_add] at h3 h4
  exact ⟨h3, h4⟩

set_option maxRecDepth 100000 in
set_option maxHeartbeats 1600000 in
theorem build_none (bs : ByteArray) (B cp : Nat) (every : Int) (w : World) (hp : ∀ j, j < bs.size → w.cell? ⟨B, j, none⟩ = some (.int .u8 (bs.get! j).toNat)) (hbs : bs.size < 1073741824) (hev : every < 1) :
    Calls Tryf.prog 6 #[.slice (some ⟨B, 0, none⟩) bs.size cp, .int .i64 every] w fun e w' => ∃ T LB lc, e = .returned (.pointer (some ⟨T, 0, none⟩)) ∧ Below w.heap.size w w' ∧ TextAt w' T bs B cp LB lc (.map none) := by
  have HL : Hid (Calls Tryf.prog 10 #[.slice (some ⟨B, 0, none⟩) bs.size cp] w fun e w' => ∃ va vb, e = .returned (.tuple #[va, vb]) ∧ Two w w' va vb ((lines bs).map (·.1)) ((lines bs).map (·.2))) := lineBounds_any bs B cp w hp hbs
  have hlo := lines_ok bs
  have HLO : Hid _ := hlo
  clear hp hlo
  go_enter Tryf.func6, Tryf.ntmps6
  go_wp2_with fail
  refine HL.out.mono ?_
  rintro e w2 ⟨va, vb, rfl, h2⟩
  obtain ⟨ga, ca, rfl, hga, hga2⟩ := row_form h2.oa (by have := HLO.out.2.1; simpa using this)
  obtain ⟨gb, cb, rfl, hgb, hgb2⟩ := row_form h2.ob (by have := HLO.out.2.1; simpa using this)
  have hNT : Calls Tryf.prog 11 #[.slice (some ⟨B, 0, none⟩) bs.size cp, .slice (some ⟨ga, 0, none⟩) (lines bs).length ca, .slice (some ⟨gb, 0, none⟩) (lines bs).length cb] w2 fun e w' =>
      ∃ v, e = .returned (.pointer (some ⟨w2.heap.size, 0, none⟩)) ∧ NT w2 w' (.slice (some ⟨B, 0, none⟩) bs.size cp) v (lines bs) := by
    refine newText_any B bs.size cp (lines bs) ga gb ca cb w2 (by have := HLO.out.1; omega) (fun i hi => ?_) (fun i hi => ?_)
    · have := h2.oa.cells (g := ga) rfl i _ (iv_get (lines bs) (·.1) i hi)
      rw [addr_add] at this
      exact this
    · have := h2.ob.cells (g := gb) rfl i _ (iv_get (lines bs) (·.2) i hi)
      rw [addr_add] at this
      exact this
  have HNT : Hid (Calls Tryf.prog 11 #[.slice (some ⟨B, 0, none⟩) bs.size cp, .slice (some ⟨ga, 0, none⟩) (lines bs).length ca, .slice (some ⟨gb, 0, none⟩) (lines bs).length cb] w2 fun e w' =>
      ∃ v, e = .returned (.pointer (some ⟨w2.heap.size, 0, none⟩)) ∧ NT w2 w' (.slice (some ⟨B, 0, none⟩) bs.size cp) v (lines bs)) := hNT
  have HB2 : Hid _ := h2.bl
  clear hNT h2
  simp only [List.length_map]
  go_wp2_with fail
  refine HNT.out.mono ?_
  rintro e w3 ⟨v, rfl, h3⟩
  have HB3 : Hid _ := h3.bl
  have HT3 : Hid _ := h3.text
  clear h3
  go_wp2_with fail
  go_ret
  obtain ⟨LB, lc, ht⟩ := HT3.out
  exact ⟨_, LB, lc, rfl, HB2.out.trans (HB3.out.mono HB2.out.size), ht⟩
end Go.Proofs.Qxb6614461aFmt
