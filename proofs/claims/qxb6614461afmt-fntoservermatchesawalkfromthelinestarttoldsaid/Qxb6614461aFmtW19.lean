import Derived.Test.Qxb6614461aFmtW18
import Derived.Test.Qxb6614461aFmtW14
namespace Go.Proofs.Qxb6614461aFmt
open Go.RowKit

theorem NT.text' {w w' : World} {bs : ByteArray} {B cp : Nat} {v : Value} (h : NT w w' (.slice (some ⟨B, 0, none⟩) bs.size cp) v (lines bs)) :
    ∃ LB lc, TextAt w' w.heap.size bs B cp LB lc (.map none) ∧ LB ≠ w.heap.size ∧ w'.frozen? ⟨w.heap.size, 2, none⟩ = false ∧ w.heap.size < w'.heap.size := by
  have hlt : w.heap.size < w'.heap.size := (Array.getElem?_eq_some_iff.1 h.blk).1
  obtain ⟨LB, lc, rfl, h1, h2⟩ := row_form h.own (lines_ok bs).2.1
  refine ⟨LB, lc, ⟨cell_plain h.blk 0, cell_plain h.blk 1, cell_plain h.blk 2, fun n hn => ?_⟩, by omega, ?_, hlt⟩
  · have hc := h.own.cells (g := LB) rfl
    have hg := cellsOf_get (lines bs) n hn
    have h3 := hc _ _ hg.1
    have h4 := hc _ _ hg.2
    rw [addr_add] at h3 h4
    exact ⟨h3, h4⟩
  · simp [World.frozen?, h.blk]

set_option maxRecDepth 100000 in
set_option maxHeartbeats 3200000 in
theorem build_marks (bs : ByteArray) (B cp : Nat) (every : Int) (w : World) (hp : ∀ j, j < bs.size → w.cell? ⟨B, j, none⟩ = some (.int .u8 (bs.get! j).toNat)) (hbs : bs.size ≤ 65536) (hev : 1 ≤ every) (hev2 : every ≤ 9223372036854775807) (hwid : WidthOk bs B cp) :
    Calls Tryf.prog 6 #[.slice (some ⟨B, 0, none⟩) bs.size cp, .int .i64 every] w fun e w' => ∃ T LB lc mv, e = .returned (.pointer (some ⟨T, 0, none⟩)) ∧ Below w.heap.size w w' ∧ TextAt w' T bs B cp LB lc mv ∧ NearOk w' T bs := by
  have HL : Hid (Calls Tryf.prog 10 #[.slice (some ⟨B, 0, none⟩) bs.size cp] w fun e w' => ∃ va vb, e = .returned (.tuple #[va, vb]) ∧ Two w w' va vb ((lines bs).map (·.1)) ((lines bs).map (·.2))) := lineBounds_any bs B cp w hp (by omega)
  have HP : Hid (∀ w', Below w.heap.size w w' → ∀ j, j < bs.size → w'.cell? ⟨B, j, none⟩ = some (.int .u8 (bs.get! j).toNat) ∧ B < w.heap.size) := fun w' hb j hj => by
    have hx := hp j hj
    have hl := World.block_lt_of_cell? _ _ hx
    exact ⟨by rw [hb.cell hl, hx], hl⟩
  have HWD : Hid (WidthOk bs B cp) := hwid
  have HLO : Hid _ := lines_ok bs
  have HLN : Hid (∀ n, n < (lines bs).length → (lineN bs n).1 ≤ (lineN bs n).2 ∧ (lineN bs n).2 ≤ bs.size) := fun n => lineN_ok bs n
  clear hp hwid
  go_enter Tryf.func6, Tryf.ntmps6
  go_wp2_with fail
  refine HL.out.mono ?_
  rintro e w2 ⟨va, vb, rfl, h2⟩
  obtain ⟨ga, ca, rfl, hga, hga2⟩ := row_form h2.oa (by have := HLO.out.2.1; simpa using this)
  obtain ⟨gb, cb, rfl, hgb, hgb2⟩ := row_form h2.ob (by have := HLO.out.2.1; simpa using this)
  have HC2 : Hid (∀ n, n < (lines bs).length → w2.cell? ⟨ga, n, none⟩ = some (.int .i64 ((lineN bs n).1 : Nat)) ∧ w2.cell? ⟨gb, n, none⟩ = some (.int .i64 ((lineN bs n).2 : Nat))) := fun i hi => by
    have t1 := h2.oa.cells (g := ga) rfl i _ (iv_get (lines bs) (·.1) i hi)
    have t2 := h2.ob.cells (g := gb) rfl i _ (iv_get (lines bs) (·.2) i hi)
    rw [addr_add] at t1 t2
    exact ⟨t1, t2⟩
  have HNT : Hid (Calls Tryf.prog 11 #[.slice (some ⟨B, 0, none⟩) bs.size cp, .slice (some ⟨ga, 0, none⟩) (lines bs).length ca, .slice (some ⟨gb, 0, none⟩) (lines bs).length cb] w2 fun e w' =>
      ∃ v, e = .returned (.pointer (some ⟨w2.heap.size, 0, none⟩)) ∧ NT w2 w' (.slice (some ⟨B, 0, none⟩) bs.size cp) v (lines bs)) :=
    newText_any B bs.size cp (lines bs) ga gb ca cb w2 (by have := HLO.out.1; omega) (fun i hi => (HC2.out i hi).1) (fun i hi => (HC2.out i hi).2)
  have HB2 : Hid _ := h2.bl
  clear h2
  simp only [List.length_map]
  go_wp2_with fail
  refine HNT.out.mono ?_
  rintro e w3 ⟨v, rfl, h3⟩
  obtain ⟨LB, lc, ht, hLB, hz, hlt⟩ := h3.text'
  have hb3 := HB2.out.trans (h3.bl.mono HB2.out.size)
  have HBL : Hid (Below w.heap.size w w3) := hb3
  have HT3 : Hid _ := ht
  -- what the loops read
  have HC3 : Hid (∀ wr cnt L, BI w3 wr w2.heap.size cnt bs L → ∀ n, n < (lines bs).length → wr.cell? ⟨ga, n, none⟩ = some (.int .i64 ((lineN bs n).1 : Nat)) ∧ wr.cell? ⟨gb, n, none⟩ = some (.int .i64 ((lineN bs n).2 : Nat))) := fun wr cnt L hbi n hn => by
    obtain ⟨t1, t2⟩ := HC2.out n hn
    exact ⟨hbi.cell (by omega) ((h3.bl.cell hga2).trans t1), hbi.cell (by omega) ((h3.bl.cell hgb2).trans t2)⟩
  have HW3 : Hid (∀ wr cnt L, BI w3 wr w2.heap.size cnt bs L → ∀ i en : Nat, i < en → en ≤ bs.size → Calls Tryf.prog 12 #[.slice (some ⟨B, 0, none⟩) bs.size cp, .int .i64 i, .int .i64 en] wr fun e w' => e = .returned (.tuple #[.int .i64 (sz bs i en), .int .i64 (un bs i en)]) ∧ w' = wr) := fun wr cnt L hbi i en h1 h2 =>
    HWD.out i en wr (fun j hj => by
      obtain ⟨q1, q2⟩ := HP.out w3 hb3 j hj
      have := HB2.out.size
      exact hbi.cell (by omega) q1) h1 h2
  have HI0 : Hid (BI w3 w3 w2.heap.size 0 bs (fun _ => [])) := BI.start w3 _ bs ht.t2 hz
  have HE : Hid (∀ wr cnt L, BI w3 wr w2.heap.size cnt bs L → cnt < 4294967296 → ∃ T LB lc mv, (Ending.returned (.pointer (some ⟨w2.heap.size, 0, none⟩)) : Ending) = .returned (.pointer (some ⟨T, 0, none⟩)) ∧ Below w.heap.size w wr ∧ TextAt wr T bs B cp LB lc mv ∧ NearOk wr T bs) := fun wr cnt L hbi hc => by
    obtain ⟨mv', ht'⟩ := hbi.text ht hLB
    refine ⟨_, LB, lc, mv', rfl, ⟨hbi.os.trans hb3.os, hbi.tape.trans hb3.tape, hbi.output.trans hb3.output, Nat.le_trans hb3.size hbi.size, fun k hk => ?_⟩, ht', hbi.near (by omega) hc⟩
    have := hb3.size
    have := HB2.out.size
    rw [hbi.blk k (by omega) (by omega)]
    exact hb3.block k hk
  have HADD : Hid (∀ wr cnt L, BI w3 wr w2.heap.size cnt bs L → ∀ n off p u : Nat, n < 2147483648 → cnt < 4294967296 → go bs (lineN bs n).2 p ((lineN bs n).1, 0) = some (off, u) →
      Calls Tryf.prog 13 #[.pointer (some ⟨w2.heap.size, 0, none⟩), .int .i64 n, .int .i64 off, .int .i64 p, .int .i64 u] wr fun e w' => e = .returned (.tuple #[]) ∧ ∃ L', BI w3 w' w2.heap.size (cnt + 1) bs L') := fun wr cnt L hbi n off p u => hbi.add hlt n off p u
  have hN := HLO.out.1
  clear h3 ht hb3 hz hLB hlt HNT HC2 HL HLO
  generalize (lines bs).length = N at *
  generalize w2.heap.size = T at *
  go_wp2_with fail
  go_loopw [8] (fun nv wr => ∃ (n cnt : Nat) (L : Nat → List (Nat × Nat × Nat)), nv = .int .i64 n ∧ n ≤ N ∧ cnt ≤ n * 65535 ∧ BI w3 wr T cnt bs L) (fun nv _ => N - (intOf nv).toNat)
  case atStart => exact ⟨0, 0, _, rfl, Nat.zero_le _, by omega, HI0.out⟩
  case round =>
    obtain ⟨n, cnt, L, rfl, hn, hcnt, hbi⟩ := hrel
    have HBI : Hid _ := hbi
    clear hbi
    by_cases hnN : n < N
    · have x1 : (n : Int) < (N : Int) := by omega
      obtain ⟨d1, d2⟩ := HC3.out wr cnt L HBI.out n hnN
      obtain ⟨q1, q2⟩ := HLN.out n hnN
      have HCn : Hid (∀ wr cnt L, BI w3 wr T cnt bs L → wr.cell? ⟨gb, n, none⟩ = some (.int .i64 ((lineN bs n).2 : Nat))) := fun wr cnt L h => (HC3.out wr cnt L h n hnN).2
      have HAn : Hid (∀ wr cnt L, BI w3 wr T cnt bs L → ∀ off p u : Nat, cnt < 4294967296 → go bs (lineN bs n).2 p ((lineN bs n).1, 0) = some (off, u) →
        Calls Tryf.prog 13 #[.pointer (some ⟨T, 0, none⟩), .int .i64 n, .int .i64 off, .int .i64 p, .int .i64 u] wr fun e w' => e = .returned (.tuple #[]) ∧ ∃ L', BI w3 w' T (cnt + 1) bs L') := fun wr cnt L h off p u => HADD.out wr cnt L h n off p u (by omega)
      have HC0 : Hid (cnt ≤ n * 65535 + (lineN bs n).1 ∧ cnt ≤ n * 65535 + 65535) := by
        show cnt ≤ n * 65535 + (lineN bs n).1 ∧ cnt ≤ n * 65535 + 65535
        omega
      clear HC3 HADD HLN HI0 HT3 HP HWD
      generalize (lineN bs n).1 = st at *
      generalize (lineN bs n).2 = en at *
      go_wp2_with fail
      go_loopw [9, 10, 11] (fun iv kv uv wr => ∃ (off p u cnt : Nat) (L : Nat → List (Nat × Nat × Nat)), iv = .int .i64 off ∧ kv = .int .i64 p ∧ uv = .int .i64 u ∧ go bs en p (st, 0) = some (off, u) ∧ cnt ≤ n * 65535 + off ∧ cnt ≤ n * 65535 + 65535 ∧ BI w3 wr T cnt bs L) (fun iv _ _ _ => en - (intOf iv).toNat)
      case atStart => exact ⟨st, 0, 0, cnt, L, rfl, rfl, rfl, rfl, HC0.out.1, HC0.out.2, HBI.out⟩
      case round =>
        clear d1 d2 HBI hcnt HC0
        obtain ⟨off, p, u, cnt, L, rfl, rfl, rfl, hgo, hc1, hc2, hbi⟩ := hrel
        have hgf := go_facts bs en q2 p (st, 0) q1 (off, u) hgo
        simp only at hgf
        have HG : Hid (go bs en p (st, 0) = some (off, u)) := hgo
        have d2 := HCn.out _ cnt L hbi
        have HBI : Hid _ := hbi
        clear hgo hbi
        by_cases hoe : off < en
        · have x2 : (off : Int) < (en : Int) := by omega
          have hd := dec_facts bs off en hoe q2
          have HWW : Hid (Calls Tryf.prog 12 #[.slice (some ⟨B, 0, none⟩) bs.size cp, .int .i64 off, .int .i64 en] wr fun e w' => e = .returned (.tuple #[.int .i64 (sz bs off en), .int .i64 (un bs off en)]) ∧ w' = wr) := HW3.out _ cnt L HBI.out off en hoe q2
          have HG2 : Hid (go bs en (p + 1) (st, 0) = some (off + sz bs off en, u + un bs off en)) := by
            rw [Hid, go_one bs en p _ _ HG.out, if_neg (show ¬ off = en by omega)]
          clear HG hoe
          generalize sz bs off en = zz at *
          generalize un bs off en = uu at *
          go_wp2_with fail
          refine HWW.out.mono ?_
          rintro e w4 ⟨rfl, rfl⟩
          have y1 : IntKind.i64.wrap ((off : Int) + (zz : Int)) = ((off + zz : Nat) : Int) := by rw [IntKind.wrap_i64]; omega
          have y2 : IntKind.i64.wrap ((p : Int) + 1) = ((p + 1 : Nat) : Int) := by rw [IntKind.wrap_i64]; omega
          have y3 : IntKind.i64.wrap ((u : Int) + (uu : Int)) = ((u + uu : Nat) : Int) := by rw [IntKind.wrap_i64]; omega
          have HAA : Hid (cnt < 4294967296 → Calls Tryf.prog 13 #[.pointer (some ⟨T, 0, none⟩), .int .i64 n, .int .i64 ((off : Int) + (zz : Int)), .int .i64 ((p : Int) + 1), .int .i64 ((u : Int) + (uu : Int))] w4 fun e w' => e = .returned (.tuple #[]) ∧ ∃ L', BI w3 w' T (cnt + 1) bs L') := fun h => by
            have h1 := HAn.out _ cnt L HBI.out (off + zz) (p + 1) (u + uu) h HG2.out
            rw [show ((off + zz : Nat) : Int) = (off : Int) + (zz : Int) by omega, show ((p + 1 : Nat) : Int) = (p : Int) + 1 by omega, show ((u + uu : Nat) : Int) = (u : Int) + (uu : Int) by omega] at h1
            exact h1
          have hcs : cnt < 4294967296 ∧ cnt ≤ n * 65535 + (off + zz) := by omega
          have HCS : Hid _ := hcs
          clear hcs
          go_wp2_with fail
          · have hx : (off : Int) + (zz : Int) < (en : Int) := by assumption
            have hcz : cnt + 1 ≤ n * 65535 + (off + zz) ∧ cnt + 1 ≤ n * 65535 + 65535 := by omega
            have HCZ : Hid _ := hcz
            clear hcz
            refine (HAA.out HCS.out.1).mono ?_
            rintro e w5 ⟨rfl, L', hbi'⟩
            have HBI' : Hid _ := hbi'
            clear hbi' d2
            go_wp2_with fail
            go_roundw
            case rel => exact ⟨off + zz, p + 1, u + uu, cnt + 1, L', by go_num, by go_num, by go_num, HG2.out, HCZ.out.1, HCZ.out.2, HBI'.out⟩
            case measure => simp [intOf]; omega
          · go_roundw
            case rel => exact ⟨off + zz, p + 1, u + uu, cnt, L, by go_num, by go_num, by go_num, HG2.out, HCS.out.2, hc2, HBI.out⟩
            case measure => simp [intOf]; omega
          · go_roundw
            case rel => exact ⟨off + zz, p + 1, u + uu, cnt, L, by go_num, by go_num, by go_num, HG2.out, HCS.out.2, hc2, HBI.out⟩
            case measure => simp [intOf]; omega
        · have x2 : ¬ (off : Int) < (en : Int) := by omega
          have HC : Hid (cnt ≤ (n + 1) * 65535) := by show cnt ≤ (n + 1) * 65535; omega
          clear hgf HG
          go_wp2_with fail
          go_roundw
          case rel => exact ⟨n + 1, cnt, L, by go_num, by omega, HC.out, HBI.out⟩
          case measure => simp [intOf]; omega
    · obtain rfl : n = N := by omega
      have x1 : ¬ (n : Int) < (n : Int) := by omega
      have HC : Hid (cnt < 4294967296) := by show cnt < 4294967296; omega
      clear hcnt
      go_wp2_with fail
      go_ret
      obtain ⟨_, LB', lc', mv', e1, k1, k2, k3⟩ := HE.out _ cnt L HBI.out HC.out
      cases e1
      exact ⟨T, rfl, k1, ⟨_, _, _, k2⟩, k3⟩
end Go.Proofs.Qxb6614461aFmt
