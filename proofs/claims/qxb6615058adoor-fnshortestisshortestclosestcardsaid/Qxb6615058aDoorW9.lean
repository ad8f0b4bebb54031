/-
  Walks: FormatFloat (24, 22), shortest (14), ZZshortest (5).
-/
import Derived.Test.Qxb6615058aDoorW8
namespace Go.Proofs.Qxb6615058aDoor
open Go.RowKit

theorem ftoa_any (D b : Nat) (w : World) (hb : Fin64 b) (hown : w.ownsRow D 5 1 (.slice (some ⟨D, 0, none⟩) 0 24) 0 []) (hD : D < w.heap.size) (ht : Pow10At w) (htab : TabAt w) :
    Calls Tryd.prog 26 #[.slice (some ⟨D, 0, none⟩) 0 24, .float .f64 b, .int .u8 101, .int .i64 (-1)] w fun e w' => Ftoa w w' D b e := by
  by_cases hm : mOf b = 0
  · exact ftoa_zero D b w hb hm hown hD
  · by_cases hn : 4503599627370496 ≤ rungOf b
    · exact ftoa_norm D b w hb hn hown hD ht htab
    · refine ftoa_sub D b w hb (by omega) (fun e => hm ?_) hown hD ht htab
      unfold mOf
      rw [if_pos (by omega)]
      exact e

theorem text_conv {W : World} {D c : Nat} {l : List UInt8} (hl : l.length = c) (h : W.ownsRow D 5 1 (.slice (some ⟨D, 0, none⟩) c 24) c (l.map bv)) :
    (convert 38 9 (.slice (some ⟨D, 0, none⟩) c 24)).run Tryd.prog W = .ok (.string ⟨l.toArray⟩) W := by
  subst hl
  refine run_convert_bytes_back (P := Tryd.prog) W 38 9 5 ⟨D, 0, none⟩ 24 l Tryd.underlying38 Tryd.underlying5 Tryd.underlying9 (fun j hj => ?_)
  exact h.cells (g := D) rfl j _ (by rw [List.getElem?_map, List.getElem?_eq_getElem hj]; rfl)

set_option maxRecDepth 100000 in
set_option maxHeartbeats 2000000 in
theorem format24 (b : Nat) (w : World) (hb : Fin64 b) (ht : Pow10At w) (htab : TabAt w) :
    Calls Tryd.prog 24 #[.float .f64 b, .int .u8 101, .int .i64 (-1), .int .i64 64] w fun e w' => e = .returned (.string ⟨(textW b).toArray⟩) ∧ Below w.heap.size w w' := by
  obtain ⟨i5, hi5, hz5, hy5, hb5⟩ := info_parts Tryd.info5'
  have HI : Hid (Tryd.prog.info? 5 = some i5 ∧ i5.zero = some (.int .u8 0) ∧ i5.size = 1 ∧ i5.bytes = 1) := ⟨hi5, hz5, hy5, hb5⟩
  clear hi5 hz5 hy5 hb5
  have HP : Hid (Pow10At w) := ht
  have HT : Hid (TabAt w) := htab
  have h2lt : 2 < w.heap.size := World.block_lt_of_cell? _ _ (ht 0 (by decide)).1
  clear ht htab
  go_enter Tryd.func24, Tryd.ntmps24
  go_wp2_with (refine wpList_make_own _ rfl _ _ 38 rfl w.heap.size 5 i5 (.int .u8 0) 1 Tryd.underlying38 HI.out.1 HI.out.2.1 HI.out.2.2.1 .i64 .i64 24 24 rfl rfl rfl (by rw [HI.out.2.2.2]; decide) (by decide) (Nat.le_refl _) ?_)
  intro w1 own1 gr1
  have hsz : w.heap.size < w1.heap.size := by
    rcases own1.2 with ⟨e, _⟩ | ⟨g, _, _, e, _, h4, _⟩
    · cases e
    · cases e
      exact (Array.getElem?_eq_some_iff.1 h4).1
  have HB1 : Hid (Below w.heap.size w w1) := ⟨gr1.os, gr1.tape, gr1.output, gr1.size, fun k hk => gr1.block k hk (by simp)⟩
  have HF : Hid (Calls Tryd.prog 26 #[.slice (some ⟨w.heap.size, 0, none⟩) 0 24, .float .f64 b, .int .u8 101, .int .i64 (-1)] w1 fun e w' => Ftoa w1 w' w.heap.size b e) :=
    ftoa_any w.heap.size b w1 hb own1 hsz (HP.out.below HB1.out) (HT.out.below (B := w.heap.size) (by omega) HB1.out)
  clear own1 gr1 HP HT HI
  go_wp2_with fail
  refine HF.out.mono ?_
  rintro e w2 ⟨c, rfl, hlen, hown, hb2⟩
  have hcv := text_conv hlen hown
  have HB2 : Hid (Below w.heap.size w w2) := HB1.out.trans hb2
  clear hlen hown hb2 HF HB1
  go_wp2_with fail
  go_ret
  exact ⟨rfl, HB2.out⟩

set_option maxRecDepth 100000 in
set_option maxHeartbeats 2000000 in
theorem format22 (b : Nat) (w : World) (hb : Fin64 b) (ht : Pow10At w) (htab : TabAt w) :
    Calls Tryd.prog 22 #[.float .f64 b, .int .u8 101, .int .i64 (-1), .int .i64 64] w fun e w' => e = .returned (.string ⟨(textW b).toArray⟩) ∧ Below w.heap.size w w' := by
  have HF : Hid _ := format24 b w hb ht htab
  clear ht htab
  go_enter Tryd.func22, Tryd.ntmps22
  go_wp2_with fail
  refine (show Calls _ _ _ _ _ from HF.out).mono ?_
  rintro e w2 ⟨rfl, hb2⟩
  have HB : Hid (Below w.heap.size w w2) := hb2
  clear hb2
  go_wp2_with fail
  go_ret
  exact ⟨rfl, HB.out⟩

set_option maxRecDepth 100000 in
set_option maxHeartbeats 2000000 in
theorem shortest14 (b : Nat) (w : World) (hb : Fin64 b) (ht : Pow10At w) (htab : TabAt w) :
    Calls Tryd.prog 14 #[.float .f64 b] w fun e w' => e = .returned (.string ⟨(textW b).toArray⟩) ∧ Below w.heap.size w w' := by
  have HF : Hid _ := format22 b w hb ht htab
  clear ht htab
  go_enter Tryd.func14, Tryd.ntmps14
  go_wp2_with fail
  refine (show Calls _ _ _ _ _ from HF.out).mono ?_
  rintro e w2 ⟨rfl, hb2⟩
  have HB : Hid (Below w.heap.size w w2) := hb2
  clear hb2
  go_wp2_with fail
  go_ret
  exact ⟨rfl, HB.out⟩

set_option maxRecDepth 100000 in
set_option maxHeartbeats 2000000 in
theorem shortest_any (b : Nat) (w : World) (hb : Fin64 b) (ht : Pow10At w) (htab : TabAt w) :
    Calls Tryd.prog 5 #[.float .f64 b] w fun e w' => e = .returned (.string ⟨(textW b).toArray⟩) ∧ Below w.heap.size w w' := by
  have HF : Hid _ := shortest14 b w hb ht htab
  clear ht htab
  go_enter Tryd.func5, Tryd.ntmps5
  go_wp2_with fail
  refine (show Calls _ _ _ _ _ from HF.out).mono ?_
  rintro e w2 ⟨rfl, hb2⟩
  have HB : Hid (Below w.heap.size w w2) := hb2
  clear hb2
  go_wp2_with fail
  go_ret
  exact ⟨rfl, HB.out⟩
end Go.Proofs.Qxb6615058aDoor
