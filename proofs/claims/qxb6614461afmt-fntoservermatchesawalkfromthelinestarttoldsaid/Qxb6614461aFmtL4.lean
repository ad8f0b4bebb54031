import Derived.Test.Qxb6614461aFmtP2
namespace Go.Proofs.Qxb6614461aFmt
open Go.RowKit Go.Extern.Stop Go.Stop Go.Extern

theorem get_bang (a : ByteArray) (i : Nat) (h : i < a.size) : a.get! i = a[i] := by
  have h' : i < a.data.size := h
  show a.data[i]! = a.data[i]'h'
  exact getElem!_pos a.data i h'

theorem below_drewN {B : Nat} {a w : World} (h : Below B a w) (n : Nat) : Below B a (w.drewN n) := ⟨h.os, h.tape, h.output, h.size, h.block⟩

theorem conv_bytes (s : ByteArray) (w : World) : ∃ c w1, (convert 9 23 (.string s)).run Tryf.prog w = .ok (.slice (some ⟨w.heap.size, 0, none⟩) s.size c) w1 ∧ s.size ≤ c ∧ Below w.heap.size w w1 ∧
    ∀ j, j < s.size → w1.cell? ⟨w.heap.size, j, none⟩ = some (.int .u8 (s.get! j).toNat) := by
  have hr := run_bytes_of_string (P := Tryf.prog) w 9 23 5 s Tryf.underlying9 Tryf.underlying23 Tryf.underlying5
  refine ⟨_, _, hr, grownCap_ge w s.size 0 5, (Below.refl _ _).drew.alloc (Nat.le_refl _) _, fun j hj => ?_⟩
  have hh : (w.drew.alloc (.cells (bytesRow s (grownCap w s.size 0 5)) 5 ((bytesRow s (grownCap w s.size 0 5)).size, (bytesRow s (grownCap w s.size 0 5)).size + 1))).heap[w.heap.size]? = some (.cells (bytesRow s (grownCap w s.size 0 5)) 5 ((bytesRow s (grownCap w s.size 0 5)).size, (bytesRow s (grownCap w s.size 0 5)).size + 1)) := by
    show (w.heap.push _)[w.heap.size]? = _
    simp
  have hb := bytesRow_at s (grownCap w s.size 0 5) j hj
  rw [get_bang s j hj]
  simp only [World.cell?, hh]
  exact hb

theorem bytes4_any (a b enc : ByteArray) (ln col : Int) (w : World) :
    Calls Tryf.prog 9 #[.string a, .string b, .int .i64 ln, .int .i64 col, .string enc] w fun e w' => (∃ t, e = .returned (.bool t)) ∧ w' = w := by
  go_enter Tryf.func9, Tryf.ntmps9
  go_wp2
  all_goals
    go_ret
    exact ⟨⟨_, rfl⟩, rfl⟩

set_option maxRecDepth 100000 in
set_option maxHeartbeats 3200000 in
theorem law4 (F : Interp) (a b enc : ByteArray) (ln col : Int) (w : World) (hF : F.answers w.tape) (hU : Lib.Utf8Tabs 0 1 w) (hc : col ≤ 9223372036854775807) (hc2 : -9223372036854775808 ≤ col) :
    Calls Tryf.prog 4 #[.string a, .string b, .int .i64 ln, .int .i64 col, .string enc] w fun e w' => e = .returned (.bool true) ∧ Below w.heap.size w w' := by
  have HF : Hid (∀ w', Below w.heap.size w w' → F.answers w'.tape) := fun w' hb => by rw [hb.tape]; exact hF
  have HU : Hid (∀ w', Below w.heap.size w w' → Lib.Utf8Tabs 0 1 w') := fun w' hb => Utf8Tabs_below hU hb
  clear hF hU
  go_enter Tryf.func4, Tryf.ntmps4
  go_wp2_with fail
  refine (bytes4_any a b enc ln col w).mono ?_
  rintro e w1 ⟨⟨t, rfl⟩, rfl⟩
  cases t
  · go_wp2_with fail
    go_ret
    exact ⟨rfl, Below.refl _ _⟩
  by_cases s1 : 65536 < (a.size : Int)
  · go_wp2_with fail
    go_ret
    exact ⟨rfl, Below.refl _ _⟩
  by_cases s2 : 65536 < (b.size : Int)
  · go_wp2_with fail
    go_ret
    exact ⟨rfl, Below.refl _ _⟩
  by_cases s3 : 65536 < (enc.size : Int)
  · go_wp2_with fail
    go_ret
    exact ⟨rfl, Below.refl _ _⟩
  by_cases s4 : ln < 1
  · go_wp2_with fail
    go_ret
    exact ⟨rfl, Below.refl _ _⟩
  by_cases s5 : 1073741824 < ln
  · go_wp2_with fail
    go_ret
    exact ⟨rfl, Below.refl _ _⟩
  go_wp2_with fail
  go_loop [11, 12] (fun lv jv => ∃ i : Nat, i ≤ a.size ∧ jv = .int .i64 i ∧ lv = .int .i64 (((scan a i).1.length + 1 : Nat) : Int)) (fun _ jv => a.size - (intOf jv).toNat)
  case atStart => exact ⟨0, Nat.zero_le _, rfl, rfl⟩
  case round =>
    obtain ⟨i, hi, rfl, rfl⟩ := hrel
    have hsl := (scan_le a i).1
    by_cases hlt : i < a.size
    · have x1 : (i : Int) < (a.size : Int) := by omega
      have hg := get_bang a i hlt
      rcases hb : ((a[i].toNat : Int) == 10)
      · have HSC : Hid (scan a (i + 1) = scan a i) := by rw [Hid, scan, if_neg (by rw [hg]; exact not_nl_of _ hb)]
        clear hg
        go_wp2_with fail
        go_round
        case rel => exact ⟨i + 1, by omega, by go_num, by rw [HSC.out]⟩
        case measure => simp [intOf]; omega
      · have HSC : Hid ((scan a (i + 1)).1.length = (scan a i).1.length + 1) := by rw [Hid, scan, if_pos (by rw [hg]; exact nl_of _ hb)]; simp
        clear hg
        generalize (scan a i).1.length = q at *
        go_wp2_with fail
        go_round
        case rel => exact ⟨i + 1, by omega, by go_num, by rw [HSC.out]; go_num⟩
        case measure => simp [intOf]; omega
    · obtain rfl : i = a.size := by omega
      have hla := lines_count a
      rw [← hla]
      have hlb : (lines a).length ≤ 65537 := by omega
      have HSW := serverOf_whole a b enc ln col (by omega)
      have hwz := whole_size a b
      have HSW' : Hid _ := HSW
      have HWZ : Hid _ := hwz
      clear hla hsl HSW hwz hlt hi
      generalize (lines a).length = la at *
      obtain ⟨c1, w2, hcv1, hcp1, hbl1, hby1⟩ := conv_bytes (whole a b) w1
      have hcv1' : (convert 9 23 (.string (a ++ ⟨#[10]⟩ ++ b))).run Tryf.prog w1 = .ok (.slice (some ⟨w1.heap.size, 0, none⟩) (whole a b).size c1) w2 := hcv1
      have HBY1 : Hid (∀ j, j < (whole a b).size → w2.cell? ⟨w1.heap.size, j, none⟩ = some (.int .u8 ((whole a b).get! j).toNat)) := hby1
      have HBL1 : Hid _ := hbl1
      clear hby1 hcv1 hbl1
      go_wp2_with fail
      refine (build_none (whole a b) w1.heap.size c1 0 w2 HBY1.out (by rw [HWZ.out]; omega) (by omega)).mono ?_
      rintro e w3 ⟨T1, LB1, lc1, rfl, hbl3, ht1⟩
      have HB3 : Hid (Below w1.heap.size w1 w3) := HBL1.out.trans (hbl3.mono HBL1.out.size)
      have HT1 : Hid _ := ht1
      have HBY3 : Hid (∀ j, j < (whole a b).size → w3.cell? ⟨w1.heap.size, j, none⟩ = some (.int .u8 ((whole a b).get! j).toNat)) := fun j hj => by
        have hx := HBY1.out j hj
        rw [hbl3.cell (World.block_lt_of_cell? _ _ hx), hx]
      clear hbl3 ht1 HBY1 HBL1 hcv1'
      obtain ⟨c2, w4, hcv2, hcp2, hbl2, hby2⟩ := conv_bytes b w3
      have HBY2 : Hid (∀ j, j < b.size → w4.cell? ⟨w3.heap.size, j, none⟩ = some (.int .u8 (b.get! j).toNat)) := hby2
      have HBL2 : Hid _ := hbl2
      clear hby2 hbl2
      go_wp2_with fail
      refine (build_none b w3.heap.size c2 0 w4 HBY2.out (by omega) (by omega)).mono ?_
      rintro e w5 ⟨T2, LB2, lc2, rfl, hbl5, ht2⟩
      have HB35 : Hid (Below w3.heap.size w3 w5) := HBL2.out.trans (hbl5.mono HBL2.out.size)
      have HB5 : Hid (Below w1.heap.size w1 w5) := HB3.out.trans (HB35.out.mono HB3.out.size)
      have HT2 : Hid _ := ht2
      have HT1' : Hid _ := HT1.out.step HB35.out
      have HBY5 : Hid (∀ j, j < (whole a b).size → w5.cell? ⟨w1.heap.size, j, none⟩ = some (.int .u8 ((whole a b).get! j).toNat)) := fun j hj => by
        have hx := HBY3.out j hj
        rw [HB35.out.cell (World.block_lt_of_cell? _ _ hx), hx]
      have HBY6 : Hid (∀ j, j < b.size → w5.cell? ⟨w3.heap.size, j, none⟩ = some (.int .u8 (b.get! j).toNat)) := fun j hj => by
        have hx := HBY2.out j hj
        rw [hbl5.cell (World.block_lt_of_cell? _ _ hx), hx]
      clear hbl5 ht2 HBY2 HBL2 hcv2 HBY3 HT1 HB3
      have y1 : IntKind.i64.wrap (ln + (la : Int)) = ln + (la : Int) := by rw [IntKind.wrap_i64]; omega
      have HS1 : Hid (Calls Tryf.prog 7 #[.pointer (some ⟨T1, 0, none⟩), .agg #[.int .i64 (ln + (la : Int)), .int .i64 col], .string enc] w5 fun e w' => Gives (serverOf (whole a b) enc (ln + (la : Int)) col) w5 e w') :=
        toServer_any F HT1'.out (HF.out _ HB5.out) (HU.out _ HB5.out) hcp1 HBY5.out (by rw [HWZ.out]; omega) (nearOk_nil HT1'.out) enc _ col (by omega) hc
      have HS2 : Hid (∀ w', Below w5.heap.size w5 w' → Calls Tryf.prog 7 #[.pointer (some ⟨T2, 0, none⟩), .agg #[.int .i64 ln, .int .i64 col], .string enc] w' fun e w2 => Gives (serverOf b enc ln col) w' e w2) := fun w' hb => by
        have hb1 := HB5.out.trans (hb.mono HB5.out.size)
        have ht := HT2.out.step hb
        exact toServer_any F ht (HF.out _ hb1) (HU.out _ hb1) hcp2 (fun j hj => by have hx := HBY6.out j hj; rw [hb.cell (World.block_lt_of_cell? _ _ hx), hx]) (by omega) (nearOk_nil ht) enc ln col (by omega) hc
      have hline := fun r => serverOf_line (bs := b) (enc := enc) (ln := ln) (col := col) (r := r)
      have HLINE : Hid _ := hline
      clear hline HF HU HT1' HT2 HBY5 HBY6 HWZ hcp1 hcp2
      rw [HSW'.out] at HS1
      clear HSW'
      go_wp2_with fail
      refine HS1.out.mono ?_
      rintro e w6 hg1
      clear HS1
      cases ho : serverOf b enc ln col with
      | none =>
        rw [ho] at hg1 HS2
        obtain ⟨hb6, a1, rfl⟩ := hg1
        have HB6 : Hid _ := hb6.alloc hb6.size (.cells #[.int .i64 0, .int .i64 0] 30)
        clear hb6 ho HLINE
        go_wp2_with fail
        refine (HS2.out _ HB6.out).mono ?_
        rintro e w7 ⟨hb7, a2, rfl⟩
        have HB7 : Hid _ := hb7.alloc hb7.size (.cells #[.int .i64 0, .int .i64 0] 30)
        clear hb7 HS2
        go_wp2_with fail
        all_goals first
          | (go_ret; exact ⟨rfl, HB5.out.trans ((HB6.out.trans (HB7.out.mono HB6.out.size)).mono HB5.out.size)⟩)
          | (go_quiet (fail); go_wp2_with fail; go_ret; exact ⟨rfl, below_drewN (HB5.out.trans ((HB6.out.trans (HB7.out.mono HB6.out.size)).mono HB5.out.size)) _⟩)
      | some r =>
        rw [ho] at hg1 HS2
        obtain ⟨hb6, rfl⟩ := hg1
        obtain ⟨q1, q2, q3, q4⟩ := HLINE.out r ho
        obtain ⟨r1, r2⟩ := r
        simp only at q1 q2 hb6
        subst q1
        have HB6 : Hid _ := hb6.alloc hb6.size (.cells #[.int .i64 (ln - 1 + (la : Int)), .int .i64 r2] 30)
        have hc0 : (w6.alloc (.cells #[.int .i64 (ln - 1 + (la : Int)), .int .i64 r2] 30)).cell? ⟨w6.heap.size, 0, none⟩ = some (.int .i64 (ln - 1 + (la : Int))) := by go_simp
        have hc1 : (w6.alloc (.cells #[.int .i64 (ln - 1 + (la : Int)), .int .i64 r2] 30)).cell? ⟨w6.heap.size, 1, none⟩ = some (.int .i64 r2) := by go_simp
        have HC0 : Hid _ := hc0
        have HC1 : Hid _ := hc1
        have hs6 : (w6.alloc (.cells #[.int .i64 (ln - 1 + (la : Int)), .int .i64 r2] 30)).heap.size = w6.heap.size + 1 := by simp
        have HS6 : Hid _ := hs6
        clear hb6 ho HLINE hc0 hc1 hs6
        unfold isU8 isU16 isU32 at q3
        have HQ2 : Hid (enc.toList = [117, 116, 102, 45, 51, 50] → r2 = col - 1) := fun h => q2 (by unfold isU32; simp [h])
        clear q2
        go_wp2_with fail
        refine (HS2.out _ HB6.out).mono ?_
        rintro e w7 ⟨hb7, rfl⟩
        simp only
        have hb7' := hb7.alloc hb7.size (.cells #[.int .i64 (ln - 1), .int .i64 r2] 30)
        have k0 := (hb7'.cell (by rw [HS6.out]; show w6.heap.size < _; omega)).trans HC0.out
        have k1 := (hb7'.cell (by rw [HS6.out]; show w6.heap.size < _; omega)).trans HC1.out
        have HB7 : Hid _ := hb7'
        clear hb7 hb7' HS2 HC0 HC1 HS6
        have y2 : IntKind.i64.wrap (ln + (la : Int) - 1) = ln + (la : Int) - 1 := by rw [IntKind.wrap_i64]; omega
        have y3 : IntKind.i64.wrap (ln - 1) = ln - 1 := by rw [IntKind.wrap_i64]; omega
        have y4 : IntKind.i64.wrap (col - 1) = col - 1 := by rw [IntKind.wrap_i64]; omega
        have y5 : ln - 1 + (la : Int) = ln + (la : Int) - 1 := by omega
        go_wp2_with fail
        all_goals
          go_quiet (fail)
          go_wp2_with fail
        all_goals
          go_ret
          refine ⟨?_, below_drewN (HB5.out.trans ((HB6.out.trans (HB7.out.mono HB6.out.size)).mono HB5.out.size)) _⟩
          first
            | rfl
            | (have h2 := HQ2.out (by assumption); simp [h2]; done)
            | (have h2 := HQ2.out; simp_all; done)
end Go.Proofs.Qxb6614461aFmt
