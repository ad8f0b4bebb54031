import Derived.Test.Qxb6614461aFmtW9
namespace Go.Proofs.Qxb6614461aFmt
open Go.RowKit

theorem Tryf.info49' : (Tryf.prog.info? 49).map (fun i => (i.zero, i.size, i.bytes)) = some (some (.agg #[.int .i64 0, .int .i64 0]), 2, 16) := by kernel_rfl

/-- Lines as they lie in memory. -/
def cellsOf (ls : List (Nat × Nat)) : List Value := ls.flatMap fun p => [iv p.1, iv p.2]

/-- A Text in the making. -/
structure NT (w wr : World) (tx v : Value) (ls : List (Nat × Nat)) : Prop where
  bl : Below w.heap.size w wr
  blk : wr.heap[w.heap.size]? = some (.cells #[tx, v, .map none] 56)
  own : wr.ownsRow (w.heap.size + 1) 49 2 v ls.length (cellsOf ls)

theorem NT.add {w wr w4 : World} {tx v v' : Value} {ls : List (Nat × Nat)} {s e : Nat} {o : Obj} (h : NT w wr tx v ls)
    (own4 : w4.ownsRow (w.heap.size + 1) 49 2 v' (ls.length + 1) (cellsOf ls ++ [iv s, iv e])) (gr4 : (wr.alloc o).drew.grownBy w4 v.ownBlock) :
    w4.cell? ⟨w.heap.size, 1, none⟩ = some v ∧ w4.frozen? ⟨w.heap.size, 1, none⟩ = false ∧ NT w (w4.setCell ⟨w.heap.size, 1, none⟩ v') tx v' (ls ++ [(s, e)]) := by
  have hwr : w.heap.size < wr.heap.size := (Array.getElem?_eq_some_iff.1 h.blk).1
  have hblk : ∀ k, k < w.heap.size + 1 → w4.heap[k]? = wr.heap[k]? := fun k hk => by
    rw [gr4.block k (by show k < (wr.alloc _).heap.size; simp; omega) (fun e => by have := (h.own.lt k e.symm).1; omega)]
    exact Below.heap_alloc wr o k (by omega)
  have hkey := (hblk w.heap.size (by omega)).trans h.blk
  refine ⟨cell_plain hkey 1, frozen_plain hkey 1, ?_⟩
  exact
    { bl := h.bl.trans ⟨gr4.os, gr4.tape, gr4.output, by have h4 := gr4.size; have h5 : wr.heap.size ≤ w4.heap.size := Nat.le_trans (by show wr.heap.size ≤ (wr.alloc _).heap.size; simp) h4; show _ ≤ (w4.heap.modify _ _).size; simp; exact h5, fun k hk => by rw [heap_setCell_other _ _ _ _ (by show k ≠ w.heap.size; omega), hblk k (by omega)]⟩
      blk := by rw [heap_setCell_same _ _ _ _ _ _ hkey]; rfl
      own := by
        have hl : cellsOf (ls ++ [(s, e)]) = cellsOf ls ++ [iv s, iv e] := by simp [cellsOf]
        rw [hl, List.length_append]
        exact ownsRow_of_block own4 fun k e => heap_setCell_other _ _ _ _ (by show k ≠ w.heap.size; have := (own4.lt k e).1; omega) }

theorem NT.start (w : World) (tx : Value) : NT w (w.alloc (.cells #[tx, .slice none 0 0, .map none] 56)) tx (.slice none 0 0) [] where
  bl := (Below.refl _ _).alloc (Nat.le_refl _) _
  blk := by show (w.heap.push _)[w.heap.size]? = _; simp
  own := World.ownsRow_nil _ _ _ _

theorem two_iv (a b : Nat) : ∀ u ∈ [iv a, iv b], u.oneCell' = true := fun u hu => by simp at hu; rcases hu with rfl | rfl <;> rfl
theorem cell_two_iv (w : World) (a b : Nat) (t : TypeId) : ∀ j u, [iv a, iv b][j]? = some u → (w.alloc (.cells #[.int .i64 a, .int .i64 b] t)).cell? ((⟨w.heap.size, 0, none⟩ : Addr).add j) = some u := by
  intro j u hj
  match j, hj with
  | 0, hj => simp at hj; subst hj; simp [Addr.add, iv]
  | 1, hj => simp at hj; subst hj; simp [Addr.add, iv]

theorem hide4 {p : Prop} (h : p) : Hid p := h

set_option maxRecDepth 100000 in
set_option maxHeartbeats 3200000 in
theorem newText_any (B tn cp : Nat) (ls : List (Nat × Nat)) (ga gb ca cb : Nat) (w : World) (hn : ls.length < 2147483648)
    (ha : ∀ i, i < ls.length → w.cell? ⟨ga, i, none⟩ = some (.int .i64 ((ls.getD i (0, 0)).1 : Nat))) (hb : ∀ i, i < ls.length → w.cell? ⟨gb, i, none⟩ = some (.int .i64 ((ls.getD i (0, 0)).2 : Nat))) :
    Calls Tryf.prog 11 #[.slice (some ⟨B, 0, none⟩) tn cp, .slice (some ⟨ga, 0, none⟩) ls.length ca, .slice (some ⟨gb, 0, none⟩) ls.length cb] w fun e w' =>
      ∃ v, e = .returned (.pointer (some ⟨w.heap.size, 0, none⟩)) ∧ NT w w' (.slice (some ⟨B, 0, none⟩) tn cp) v ls := by
  have HA : Hid (∀ w', Below w.heap.size w w' → ∀ i, i < ls.length → w'.cell? ⟨ga, i, none⟩ = some (.int .i64 ((ls.getD i (0, 0)).1 : Nat)) ∧ w'.cell? ⟨gb, i, none⟩ = some (.int .i64 ((ls.getD i (0, 0)).2 : Nat))) := fun w' hb' i hi => by
    have h1 := ha i hi
    have h2 := hb i hi
    exact ⟨(hb'.cell (World.block_lt_of_cell? _ _ h1)).trans h1, (hb'.cell (World.block_lt_of_cell? _ _ h2)).trans h2⟩
  clear ha hb
  obtain ⟨i49, hi49, hz49, hy49, hb49⟩ := info_parts Tryf.info49'
  have HS : Hid (NT w (w.alloc (.cells #[.slice (some ⟨B, 0, none⟩) tn cp, .slice none 0 0, .map none] 56)) (.slice (some ⟨B, 0, none⟩) tn cp) (.slice none 0 0) []) := NT.start w _
  generalize hN : ls.length = N at *
  have HN : Hid _ := hN
  clear hN
  go_enter Tryf.func11, Tryf.ntmps11
  go_wp2_with fail
  go_loopw [8] (fun jv wr => ∃ (i : Nat) (v : Value), i ≤ N ∧ jv = .int .i64 i ∧ NT w wr (.slice (some ⟨B, 0, none⟩) tn cp) v (ls.take i)) (fun jv _ => N - (intOf jv).toNat)
  case atStart => exact ⟨0, _, Nat.zero_le _, rfl, by simpa using HS.out⟩
  case round =>
    clear HS
    obtain ⟨i, v, hi, rfl, h1⟩ := hrel
    have HT : Hid _ := h1
    have hwr : w.heap.size < wr.heap.size := (Array.getElem?_eq_some_iff.1 h1.blk).1
    have c1 : wr.cell? ⟨w.heap.size, 1, none⟩ = some v := cell_plain h1.blk 1
    clear h1
    by_cases hlt : i < N
    · obtain ⟨k1, k2⟩ := HA.out wr HT.out.bl i hlt
      have x1 : (i : Int) < (N : Int) := by omega
      have htl : (ls.take i).length = i := by rw [List.length_take, HN.out]; omega
      have HTS : Hid (ls.take (i + 1) = ls.take i ++ [((ls.getD i (0, 0)).1, (ls.getD i (0, 0)).2)]) := by
        have hii : i < ls.length := by rw [HN.out]; exact hlt
        rw [Hid, List.take_succ_eq_append_getElem hii]
        rw [List.getD_eq_getElem?_getD, List.getElem?_eq_getElem hii]
        rfl
      generalize (ls.getD i (0, 0)).1 = s at *
      generalize (ls.getD i (0, 0)).2 = e at *
      generalize hL : ls.take i = L at *
      have HLE : Hid _ := htl
      clear htl
      have HLL : Hid (L.length ≤ i) := by have := HLE.out; rw [Hid]; omega
      go_wp2_with fail
      go_region_law (refine step_append_at rfl (.tmp 28) (.tmp 38) 53 rfl (w.heap.size + 1) 49 i49 (.agg #[.int .i64 0, .int .i64 0]) 2 16 Tryf.underlying53 hi49 hz49 hy49 hb49 rfl (by decide) v L.length (cellsOf L) (by simp [Act.eval]) ((HT.out.own.alloc _).drew) ⟨wr.heap.size, 0, none⟩ 1 1 [iv s, iv e] (by simp [Act.eval]) rfl (cell_two_iv wr s e 49) (two_iv _ _) (by have := HLL.out; unfold maxLen; omega) (by have := HLL.out; omega) (by simp; omega) ?_; intro v' w4 own4 gr4 _; obtain ⟨g4, cap4, hv4, _, _⟩ := row_form own4 (Nat.succ_pos _); rw [hv4] at own4 ⊢; obtain ⟨hc4, hf4, hk4⟩ := HT.out.add own4 gr4; have HK4 := hide4 hk4; clear own4 gr4 hk4)
      all_goals
        go_wp2_with fail
        go_roundw
        case rel => exact ⟨i + 1, _, by omega, by go_num, by rw [HTS.out]; exact HK4.out⟩
        case measure => simp [intOf]; omega
    · obtain rfl : i = N := by omega
      have HTK : Hid (ls.take i = ls) := List.take_of_length_le (by rw [HN.out]; omega)
      rw [HTK.out] at HT
      go_wp2_with fail
      go_ret
      exact ⟨v, rfl, HT.out⟩
end Go.Proofs.Qxb6614461aFmt
