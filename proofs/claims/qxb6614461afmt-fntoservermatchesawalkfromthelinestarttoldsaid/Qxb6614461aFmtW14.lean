import Derived.Test.Qxb6614461aFmtP3
namespace Go.Proofs.Qxb6614461aFmt
open Go.RowKit

/-- What zzWidth does, over a text. -/
def WidthOk (bs : ByteArray) (B cp : Nat) : Prop := ∀ (i en : Nat) (w : World), (∀ j, j < bs.size → w.cell? ⟨B, j, none⟩ = some (.int .u8 (bs.get! j).toNat)) → i < en → en ≤ bs.size →
  Calls Tryf.prog 12 #[.slice (some ⟨B, 0, none⟩) bs.size cp, .int .i64 i, .int .i64 en] w fun e w' => e = .returned (.tuple #[.int .i64 (sz bs i en), .int .i64 (un bs i en)]) ∧ w' = w

def ModelGives (o : Option (Int × Int)) (w : World) (e : Ending) (w' : World) : Prop :=
  Below w.heap.size w w' ∧ match o with
    | some r => e = .returned (.tuple #[.int .i64 r.1, .int .i64 r.2, .bool true])
    | none => e = .returned (.tuple #[.int .i64 0, .int .i64 0, .bool false])

theorem tup3 {a b c d : Int} (h1 : a = c) (h2 : b = d) : (Ending.returned (.tuple #[.int .i64 a, .int .i64 b, .bool true])) = .returned (.tuple #[.int .i64 c, .int .i64 d, .bool true]) := by rw [h1, h2]

set_option maxRecDepth 100000 in
set_option maxHeartbeats 3200000 in
theorem model_any (bs : ByteArray) (B cp : Nat) (enc : ByteArray) (ln col : Int) (w : World) (hp : ∀ j, j < bs.size → w.cell? ⟨B, j, none⟩ = some (.int .u8 (bs.get! j).toNat)) (hbs : bs.size < 1073741823) (hwid : WidthOk bs B cp)
    (h2 : ln ≤ 9223372036854775807) (hc2 : col ≤ 9223372036854775807) :
    Calls Tryf.prog 8 #[.slice (some ⟨B, 0, none⟩) bs.size cp, .int .i64 ln, .int .i64 col, .string enc] w fun e w' => ModelGives (serverOf bs enc ln col) w e w' := by
  have hlo := lines_ok bs
  have HL : Hid (Calls Tryf.prog 10 #[.slice (some ⟨B, 0, none⟩) bs.size cp] w fun e w' => ∃ va vb, e = .returned (.tuple #[va, vb]) ∧ Two w w' va vb ((lines bs).map (·.1)) ((lines bs).map (·.2))) := lineBounds_any bs B cp w hp (by omega)
  have HWD : Hid (∀ (i en : Nat) (w' : World), Below w.heap.size w w' → i < en → en ≤ bs.size → Calls Tryf.prog 12 #[.slice (some ⟨B, 0, none⟩) bs.size cp, .int .i64 i, .int .i64 en] w' fun e w2 => e = .returned (.tuple #[.int .i64 (sz bs i en), .int .i64 (un bs i en)]) ∧ w2 = w') := fun i en w' hb h1 h2 =>
    hwid i en w' (fun j hj => by have hx := hp j hj; rw [hb.cell (World.block_lt_of_cell? _ _ hx), hx]) h1 h2
  clear hp hwid
  by_cases hk : (isU8 enc || isU16 enc || isU32 enc) = true
  · by_cases hr : 1 ≤ ln ∧ 1 ≤ col
    · obtain ⟨n, hn⟩ : ∃ n : Nat, ln = (n : Int) + 1 := ⟨(ln - 1).toNat, by omega⟩
      have HS : Hid (serverOf bs enc ln col = if n < (lines bs).length then (go bs (lineN bs n).2 (col - 1).toNat ((lineN bs n).1, 0)).map fun r => (ln - 1, unitsOf enc r.1 (col - 1) r.2 (lineN bs n).1) else none) := by
        rw [Hid]
        unfold serverOf
        rw [if_pos hk, show (ln - 1).toNat = n by omega]
        by_cases h : n < (lines bs).length
        · rw [if_pos h, if_pos (by omega)]
        · rw [if_neg h, if_neg (by omega)]
      have HLS : Hid (n < (lines bs).length → (lineN bs n).1 ≤ (lineN bs n).2 ∧ (lineN bs n).2 ≤ bs.size) := lineN_ok bs n
      have HLO : Hid _ := hlo
      have y1 : IntKind.i64.wrap (ln - 1) = (n : Int) := by rw [IntKind.wrap_i64]; omega
      have y2 : IntKind.i64.wrap (col - 1) = col - 1 := by rw [IntKind.wrap_i64]; omega
      have y3 : 1 ≤ ln := by omega
      have y5 : ln - 1 = (n : Int) := by omega
      have y4 : 1 ≤ col := hr.2
      have HUN : Hid (∀ off p u st : Int, unitsOf enc off p u st = if isU8 enc then off - st else if isU16 enc then u else p) := fun _ _ _ _ => rfl
      have hln : (n : Int) + 1 = ln := by omega
      have HLN : Hid _ := hln
      unfold isU8 isU16 isU32 at hk
      unfold isU8 isU16 at HUN
      have hk3 : (enc.toList == [117, 116, 102, 45, 56]) = true ∨ ((enc.toList == [117, 116, 102, 45, 56]) = false ∧ (enc.toList == [117, 116, 102, 45, 49, 54]) = true) ∨ ((enc.toList == [117, 116, 102, 45, 56]) = false ∧ (enc.toList == [117, 116, 102, 45, 49, 54]) = false ∧ (enc.toList == [117, 116, 102, 45, 51, 50]) = true) := by
        cases e1 : (enc.toList == [117, 116, 102, 45, 56]) with
        | true => exact Or.inl rfl
        | false =>
          cases e2 : (enc.toList == [117, 116, 102, 45, 49, 54]) with
          | true => exact Or.inr (Or.inl ⟨rfl, rfl⟩)
          | false => rw [e1, e2] at hk; exact Or.inr (Or.inr ⟨rfl, rfl, hk⟩)
      clear hn hr hlo hln hk
      rcases hk3 with g8 | ⟨g8, g16⟩ | ⟨g8, g16, g32⟩
      all_goals
        have HG8 : Hid _ := g8
        try have HG16 : Hid _ := g16
        go_enter Tryf.func8, Tryf.ntmps8
        go_wp2_with fail
        refine HL.out.mono ?_
        rintro e w2 ⟨va, vb, rfl, h2'⟩
        obtain ⟨ga, ca, rfl, hga, hga2⟩ := row_form h2'.oa (by have := HLO.out.2.1; simpa using this)
        obtain ⟨gb, cb, rfl, hgb, hgb2⟩ := row_form h2'.ob (by have := HLO.out.2.1; simpa using this)
        have HB2 : Hid _ := h2'.bl
        have HC : Hid (n < (lines bs).length → w2.cell? ⟨ga, n, none⟩ = some (.int .i64 ((lineN bs n).1 : Nat)) ∧ w2.cell? ⟨gb, n, none⟩ = some (.int .i64 ((lineN bs n).2 : Nat))) := fun hi => by
          have t1 := h2'.oa.cells (g := ga) rfl n _ (iv_get (lines bs) (·.1) n hi)
          have t2 := h2'.ob.cells (g := gb) rfl n _ (iv_get (lines bs) (·.2) n hi)
          rw [addr_add] at t1 t2
          exact ⟨t1, t2⟩
        clear h2'
        simp only [List.length_map]
        generalize (lines bs).length = N at *
        by_cases hN : n < N
        · obtain ⟨d1, d2⟩ := HC.out hN
          have HSL := HS.out
          rw [if_pos hN] at HSL
          have HSS : Hid _ := HSL
          obtain ⟨q1, q2⟩ := HLS.out hN
          generalize (lineN bs n).1 = st at *
          generalize (lineN bs n).2 = en at *
          have z1 : (n : Int) < (N : Int) := by omega
          have z2 : ¬ (N : Int) < ln := by omega
          have z3 : ln ≤ (N : Int) := by omega
          clear HSL HS HC HLS HL
          go_wp2_with fail
          go_loop [15, 16, 17] (fun iv kv uv => ∃ off p u : Nat, iv = .int .i64 off ∧ kv = .int .i64 p ∧ uv = .int .i64 u ∧ (p : Int) ≤ col - 1 ∧ go bs en p (st, 0) = some (off, u)) (fun iv _ _ => en - (intOf iv).toNat)
          case atStart => exact ⟨st, 0, 0, rfl, rfl, rfl, by omega, rfl⟩
          case round =>
            obtain ⟨off, p, u, rfl, rfl, rfl, hpc, hgo⟩ := hrel
            have hgf := go_facts bs en q2 p (st, 0) q1 (off, u) hgo
            simp only at hgf
            have HG : Hid (go bs en p (st, 0) = some (off, u)) := hgo
            clear hgo
            by_cases hlt1 : (p : Int) < col - 1
            · by_cases hoe : off = en
              · have HN : Hid (go bs en (col - 1).toNat (st, 0) = none) := go_none_le bs en (p + 1) _ _ (by rw [go_one bs en p _ _ HG.out, if_pos hoe]) (by omega)
                have x1 : (off : Int) = (en : Int) := by omega
                clear hoe HG hgf
                go_wp2_with fail
                go_ret3
                rw [HSS.out, HN.out]
                exact ⟨HB2.out, rfl⟩
              · have x1 : ¬ (off : Int) = (en : Int) := by omega
                have hoe' : off < en := by omega
                have hd := dec_facts bs off en hoe' q2
                have HW : Hid (Calls Tryf.prog 12 #[.slice (some ⟨B, 0, none⟩) bs.size cp, .int .i64 off, .int .i64 en] w2 fun e w' => e = .returned (.tuple #[.int .i64 (sz bs off en), .int .i64 (un bs off en)]) ∧ w' = w2) := HWD.out off en w2 HB2.out hoe' q2
                have HG2 : Hid (go bs en (p + 1) (st, 0) = some (off + sz bs off en, u + un bs off en)) := by
                  rw [Hid, go_one bs en p _ _ HG.out, if_neg hoe]
                clear hoe HG
                generalize sz bs off en = zz at *
                generalize un bs off en = uu at *
                go_wp2_with fail
                refine HW.out.mono ?_
                rintro e w3 ⟨rfl, rfl⟩
                go_wp2_with fail
                go_round
                case rel => exact ⟨off + zz, p + 1, u + uu, by go_num, by go_num, by go_num, by omega, HG2.out⟩
                case measure => simp [intOf]; omega
            · have hpe : p = (col - 1).toNat := by omega
              have hpe2 : (p : Int) = col - 1 := by omega
              have HN : Hid (go bs en (col - 1).toNat (st, 0) = some (off, u)) := by rw [← hpe]; exact HG.out
              have HPE : Hid _ := hpe2
              clear hpe HG hpe2
              go_wp2_with fail
              go_ret3
              rw [HSS.out, HN.out]
              refine ⟨HB2.out, ?_⟩
              first
                | exact tup3 (c := ln - 1) (d := unitsOf enc off (col - 1) u st) (by omega) (by rw [HUN.out, if_pos HG8.out])
                | exact tup3 (c := ln - 1) (d := unitsOf enc off (col - 1) u st) (by omega) (by rw [HUN.out, if_neg (by rw [HG8.out]; decide), if_pos HG16.out])
                | exact tup3 (c := ln - 1) (d := unitsOf enc off (col - 1) u st) (by omega) (by rw [HUN.out, if_neg (by rw [HG8.out]; decide), if_neg (by rw [HG16.out]; decide)]; exact HPE.out)
        · have HSL := HS.out
          rw [if_neg hN] at HSL
          have HSS : Hid _ := HSL
          have z2 : (N : Int) < ln := by omega
          clear HSL HS HC HLS HL
          go_wp2_with fail
          go_ret3
          rw [HSS.out]
          exact ⟨HB2.out, rfl⟩
    · have hs : serverOf bs enc ln col = none := by unfold serverOf; rw [if_pos hk, if_neg (by omega)]
      rw [hs]
      unfold isU8 isU16 isU32 at hk
      have hr' : ln < 1 ∨ col < 1 := by omega
      clear hr
      rcases hr' with hr | hr
      all_goals
        go_enter Tryf.func8, Tryf.ntmps8
        go_wp2_with fail
        all_goals
          go_ret3
          exact ⟨Below.refl _ _, rfl⟩
  · have hs : serverOf bs enc ln col = none := by unfold serverOf; rw [if_neg hk]
    rw [hs]
    have hk' : (isU8 enc || isU16 enc || isU32 enc) = false := by simpa using hk
    unfold isU8 isU16 isU32 at hk'
    simp only [Bool.or_eq_false_iff] at hk'
    obtain ⟨⟨q1, q2⟩, q3⟩ := hk'
    clear hk
    go_enter Tryf.func8, Tryf.ntmps8
    go_wp2_with fail
    go_ret3
    exact ⟨Below.refl _ _, rfl⟩
end Go.Proofs.Qxb6614461aFmt
