import Derived.Test.Qxb6614461aFmtW19
import Derived.Test.Qxb6614461aFmtW13
import Derived.Test.Qxb6614461aFmtL4
namespace Go.Proofs.Qxb6614461aFmt
open Go.RowKit Go.Extern.Stop Go.Stop Go.Extern

theorem bytes3_any (a enc : ByteArray) (ln col every : Int) (w : World) :
    Calls Tryf.prog 5 #[.string a, .int .i64 ln, .int .i64 col, .string enc, .int .i64 every] w fun e w' => (∃ t, e = .returned (.bool t)) ∧ w' = w := by
  go_enter Tryf.func5, Tryf.ntmps5
  go_wp2
  all_goals
    go_ret
    exact ⟨⟨_, rfl⟩, rfl⟩

theorem build_any (bs : ByteArray) (B cp : Nat) (every : Int) (w : World) (hp : ∀ j, j < bs.size → w.cell? ⟨B, j, none⟩ = some (.int .u8 (bs.get! j).toNat)) (hbs : bs.size ≤ 65536) (hev2 : every ≤ 9223372036854775807) (hwid : WidthOk bs B cp) :
    Calls Tryf.prog 6 #[.slice (some ⟨B, 0, none⟩) bs.size cp, .int .i64 every] w fun e w' => ∃ T LB lc mv, e = .returned (.pointer (some ⟨T, 0, none⟩)) ∧ Below w.heap.size w w' ∧ TextAt w' T bs B cp LB lc mv ∧ NearOk w' T bs := by
  by_cases h : every < 1
  · refine (build_none bs B cp every w hp (by omega) h).mono ?_
    rintro e w' ⟨T, LB, lc, rfl, h1, h2⟩
    exact ⟨T, LB, lc, _, rfl, h1, h2, nearOk_nil h2⟩
  · exact build_marks bs B cp every w hp hbs (by omega) hev2 hwid

theorem NearOk.step {w w' : World} {T : Nat} {bs : ByteArray} (h : NearOk w T bs) (hb : Below w.heap.size w w') : NearOk w' T bs :=
  fun n col X w2 hn hc hb2 hX => h n col X w2 hn hc (hb.trans (hb2.mono hb.size)) hX

set_option maxRecDepth 100000 in
set_option maxHeartbeats 3200000 in
theorem law3 (F : Interp) (a enc : ByteArray) (ln col every : Int) (w : World) (hF : F.answers w.tape) (hU : Lib.Utf8Tabs 0 1 w) (hl : ln ≤ 9223372036854775807) (hc : col ≤ 9223372036854775807) (he : every ≤ 9223372036854775807) :
    Calls Tryf.prog 3 #[.string a, .int .i64 ln, .int .i64 col, .string enc, .int .i64 every] w fun e w' => e = .returned (.bool true) ∧ Below w.heap.size w w' := by
  have HF : Hid (∀ w', Below w.heap.size w w' → F.answers w'.tape) := fun w' hb => by rw [hb.tape]; exact hF
  have HU : Hid (∀ w', Below w.heap.size w w' → Lib.Utf8Tabs 0 1 w') := fun w' hb => Utf8Tabs_below hU hb
  clear hF hU
  go_enter Tryf.func3, Tryf.ntmps3
  go_wp2_with fail
  refine (bytes3_any a enc ln col every w).mono ?_
  rintro e w1 ⟨⟨t, rfl⟩, rfl⟩
  cases t
  · go_wp2_with fail
    go_ret
    exact ⟨rfl, Below.refl _ _⟩
  by_cases s1 : 65536 < (a.size : Int)
  · go_wp2_with fail
    go_ret
    exact ⟨rfl, Below.refl _ _⟩
  by_cases s3 : 65536 < (enc.size : Int)
  · go_wp2_with fail
    go_ret
    exact ⟨rfl, Below.refl _ _⟩
  obtain ⟨c1, w2, hcv1, hcp1, hbl1, hby1⟩ := conv_bytes a w1
  have HBY1 : Hid (∀ j, j < a.size → w2.cell? ⟨w1.heap.size, j, none⟩ = some (.int .u8 (a.get! j).toNat)) := hby1
  have HBL1 : Hid _ := hbl1
  have HWD : Hid (WidthOk a w1.heap.size c1) := fun i en w hp h1 h2 => width_any a w1.heap.size c1 i en w hp h1 h2 (by omega)
  clear hby1 hbl1
  have hsz : a.size ≤ 65536 := by omega
  go_wp2_with fail
  refine (build_none a w1.heap.size c1 0 w2 HBY1.out (by omega) (by omega)).mono ?_
  rintro e w3 ⟨T1, LB1, lc1, rfl, hbl3, ht1⟩
  have HB3 : Hid (Below w1.heap.size w1 w3) := HBL1.out.trans (hbl3.mono HBL1.out.size)
  have HT1 : Hid _ := ht1
  have HBY3 : Hid (∀ j, j < a.size → w3.cell? ⟨w1.heap.size, j, none⟩ = some (.int .u8 (a.get! j).toNat)) := fun j hj => by
    have hx := HBY1.out j hj
    rw [hbl3.cell (World.block_lt_of_cell? _ _ hx), hx]
  clear hbl3 ht1 HBY1 HBL1 hcv1
  go_wp2_with fail
  refine (build_any a w1.heap.size c1 every w3 HBY3.out hsz he HWD.out).mono ?_
  rintro e w4 ⟨T2, LB2, lc2, mv2, rfl, hbl4, ht2, hnear⟩
  have HB34 : Hid (Below w3.heap.size w3 w4) := hbl4
  have HB4 : Hid (Below w1.heap.size w1 w4) := HB3.out.trans (hbl4.mono HB3.out.size)
  have HT2 : Hid _ := ht2
  have HNE : Hid (NearOk w4 T2 a) := hnear
  have HT1' : Hid _ := HT1.out.step hbl4
  have HBY4 : Hid (∀ j, j < a.size → w4.cell? ⟨w1.heap.size, j, none⟩ = some (.int .u8 (a.get! j).toNat)) := fun j hj => by
    have hx := HBY3.out j hj
    rw [hbl4.cell (World.block_lt_of_cell? _ _ hx), hx]
  clear hbl4 ht2 hnear HBY3 HT1 HB3 HB34
  have HBYB : Hid (∀ w', Below w4.heap.size w4 w' → ∀ j, j < a.size → w'.cell? ⟨w1.heap.size, j, none⟩ = some (.int .u8 (a.get! j).toNat)) := fun w' hb j hj => by
    have hx := HBY4.out j hj
    rw [hb.cell (World.block_lt_of_cell? _ _ hx), hx]
  have HS2 : Hid (∀ w', Below w4.heap.size w4 w' → Calls Tryf.prog 7 #[.pointer (some ⟨T2, 0, none⟩), .agg #[.int .i64 ln, .int .i64 col], .string enc] w' fun e w2 => Gives (serverOf a enc ln col) w' e w2) := fun w' hb => by
    have hb1 := HB4.out.trans (hb.mono HB4.out.size)
    exact toServer_any F (HT2.out.step hb) (HF.out _ hb1) (HU.out _ hb1) hcp1 (HBYB.out w' hb) (by omega) (HNE.out.step hb) enc ln col hl hc
  have HS1 : Hid (∀ w', Below w4.heap.size w4 w' → Calls Tryf.prog 7 #[.pointer (some ⟨T1, 0, none⟩), .agg #[.int .i64 ln, .int .i64 col], .string enc] w' fun e w2 => Gives (serverOf a enc ln col) w' e w2) := fun w' hb => by
    have hb1 := HB4.out.trans (hb.mono HB4.out.size)
    have ht := HT1'.out.step hb
    exact toServer_any F ht (HF.out _ hb1) (HU.out _ hb1) hcp1 (HBYB.out w' hb) (by omega) (nearOk_nil ht) enc ln col hl hc
  have HM : Hid (∀ w', Below w4.heap.size w4 w' → Calls Tryf.prog 8 #[.slice (some ⟨w1.heap.size, 0, none⟩) a.size c1, .int .i64 ln, .int .i64 col, .string enc] w' fun e w2 => ModelGives (serverOf a enc ln col) w' e w2) := fun w' hb =>
    model_any a w1.heap.size c1 enc ln col w' (HBYB.out w' hb) (by omega) HWD.out hl hc
  clear HF HU HT1' HT2 HBY4 HBYB HNE HWD hcp1
  have hc0 : (w4.alloc (.cells #[.int .i64 ln, .int .i64 col] 27)).cell? ⟨w4.heap.size, 0, none⟩ = some (.int .i64 ln) := by go_simp
  have hc1 : (w4.alloc (.cells #[.int .i64 ln, .int .i64 col] 27)).cell? ⟨w4.heap.size, 1, none⟩ = some (.int .i64 col) := by go_simp
  have hs5 : (w4.alloc (.cells #[.int .i64 ln, .int .i64 col] 27)).heap.size = w4.heap.size + 1 := by simp
  have HC0 : Hid _ := hc0
  have HC1 : Hid _ := hc1
  have HS5 : Hid _ := hs5
  have HB5 : Hid (Below w4.heap.size w4 (w4.alloc (.cells #[.int .i64 ln, .int .i64 col] 27))) := (Below.refl _ _).alloc (Nat.le_refl _) _
  clear hc0 hc1 hs5
  go_wp2_with fail
  refine (HS2.out _ HB5.out).mono ?_
  clear HS2
  rintro e w6 hg
  generalize w4.alloc (.cells #[.int .i64 ln, .int .i64 col] 27) = w5 at *
  cases ho : serverOf a enc ln col with
  | none =>
    rw [ho] at hg HS1 HM
    obtain ⟨hb6, a1, rfl⟩ := hg
    have hb6' := hb6.alloc hb6.size (.cells #[.int .i64 0, .int .i64 0] 30)
    have k0 := (hb6'.cell (by rw [HS5.out]; show w4.heap.size < _; omega)).trans HC0.out
    have k1 := (hb6'.cell (by rw [HS5.out]; show w4.heap.size < _; omega)).trans HC1.out
    have HB6 : Hid (Below w4.heap.size w4 (w6.alloc (.cells #[.int .i64 0, .int .i64 0] 30))) := HB5.out.trans (hb6'.mono HB5.out.size)
    clear hb6 hb6' ho
    go_wp2_with fail
    refine (HS1.out _ HB6.out).mono ?_
    rintro e w7 ⟨hb7, a2, rfl⟩
    have HB7 : Hid _ := HB6.out.trans ((hb7.alloc hb7.size (.cells #[.int .i64 0, .int .i64 0] 30)).mono HB6.out.size)
    clear hb7 HS1 k0 k1
    go_wp2_with fail
    refine (HM.out _ HB7.out).mono ?_
    rintro e w8 ⟨hb8, rfl⟩
    have HB8 : Hid _ := HB4.out.trans ((HB7.out.trans (hb8.mono HB7.out.size)).mono HB4.out.size)
    clear hb8 HM
    go_wp2_with fail
    all_goals first
      | (go_ret; exact ⟨rfl, HB8.out⟩)
      | (go_quiet (fail); go_wp2_with fail; go_ret; exact ⟨rfl, below_drewN HB8.out _⟩)
  | some r =>
    rw [ho] at hg HS1 HM
    obtain ⟨hb6, rfl⟩ := hg
    obtain ⟨r1, r2⟩ := r
    have hb6' := hb6.alloc hb6.size (.cells #[.int .i64 r1, .int .i64 r2] 30)
    have k0 := (hb6'.cell (by rw [HS5.out]; show w4.heap.size < _; omega)).trans HC0.out
    have k1 := (hb6'.cell (by rw [HS5.out]; show w4.heap.size < _; omega)).trans HC1.out
    have HB6 : Hid (Below w4.heap.size w4 (w6.alloc (.cells #[.int .i64 r1, .int .i64 r2] 30))) := HB5.out.trans (hb6'.mono HB5.out.size)
    have hg0 : (w6.alloc (.cells #[.int .i64 r1, .int .i64 r2] 30)).cell? ⟨w6.heap.size, 0, none⟩ = some (.int .i64 r1) := by go_simp
    have hg1 : (w6.alloc (.cells #[.int .i64 r1, .int .i64 r2] 30)).cell? ⟨w6.heap.size, 1, none⟩ = some (.int .i64 r2) := by go_simp
    have hs6 : (w6.alloc (.cells #[.int .i64 r1, .int .i64 r2] 30)).heap.size = w6.heap.size + 1 := by simp
    have HG0 : Hid _ := hg0
    have HG1 : Hid _ := hg1
    have HS6 : Hid _ := hs6
    clear hb6 hb6' ho hg0 hg1 hs6
    go_wp2_with fail
    refine (HS1.out _ HB6.out).mono ?_
    rintro e w7 ⟨hb7, rfl⟩
    simp only
    have hb7' := hb7.alloc hb7.size (.cells #[.int .i64 r1, .int .i64 r2] 30)
    have HB7 : Hid _ := HB6.out.trans (hb7'.mono HB6.out.size)
    have hg2 : (w7.alloc (.cells #[.int .i64 r1, .int .i64 r2] 30)).cell? ⟨w7.heap.size, 0, none⟩ = some (.int .i64 r1) := by go_simp
    have hg3 : (w7.alloc (.cells #[.int .i64 r1, .int .i64 r2] 30)).cell? ⟨w7.heap.size, 1, none⟩ = some (.int .i64 r2) := by go_simp
    have hs7 : (w7.alloc (.cells #[.int .i64 r1, .int .i64 r2] 30)).heap.size = w7.heap.size + 1 := by simp
    have hsz7 := hb7'.size
    rw [HS6.out, hs7] at hsz7
    have HG4 : Hid _ := (hb7'.cell (by rw [HS6.out]; show w6.heap.size < _; omega)).trans HG0.out
    have HG5 : Hid _ := (hb7'.cell (by rw [HS6.out]; show w6.heap.size < _; omega)).trans HG1.out
    have HG2 : Hid _ := hg2
    have HG3 : Hid _ := hg3
    have HS7 : Hid _ := hs7
    clear hb7 hb7' HS1 k0 k1 hg2 hg3 hs7
    go_wp2_with fail
    refine (HM.out _ HB7.out).mono ?_
    rintro e w8 ⟨hb8, rfl⟩
    have k2 := (hb8.cell (by rw [HS7.out]; show w7.heap.size < _; omega)).trans HG2.out
    have k3 := (hb8.cell (by rw [HS7.out]; show w7.heap.size < _; omega)).trans HG3.out
    have k4 := (hb8.cell (by rw [HS7.out]; show w6.heap.size < _; omega)).trans HG4.out
    have k5 := (hb8.cell (by rw [HS7.out]; show w6.heap.size < _; omega)).trans HG5.out
    have HB8 : Hid _ := HB4.out.trans ((HB7.out.trans (hb8.mono HB7.out.size)).mono HB4.out.size)
    clear hb8 HM
    simp only
    go_wp2_with fail
    all_goals first
      | (go_ret; exact ⟨rfl, HB8.out⟩)
      | (go_quiet (fail); go_wp2_with fail; go_ret; exact ⟨rfl, below_drewN HB8.out _⟩)
end Go.Proofs.Qxb6614461aFmt
