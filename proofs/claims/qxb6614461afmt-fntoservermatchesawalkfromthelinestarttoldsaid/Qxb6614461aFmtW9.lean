import Derived.Test.Qxb6614461aFmtH1
namespace Go.Proofs.Qxb6614461aFmt
open Go.RowKit

theorem Tryf.info3' : (Tryf.prog.info? 3).map (fun i => (i.zero, i.size, i.bytes)) = some (some (.int .i64 0), 1, 8) := by kernel_rfl

theorem cell_iv (w : World) (n : Nat) : ∀ j u, [iv n][j]? = some u → (w.alloc (.cells #[.int .i64 n] 3)).cell? ((⟨w.heap.size, 0, none⟩ : Addr).add j) = some u := cell_one_new w (iv n) 3

theorem nl_of (c : UInt8) (h : ((c.toNat : Int) == 10) = true) : c = 10 := UInt8.toNat_inj.1 (by simp at h; show c.toNat = 10; omega)
theorem not_nl_of (c : UInt8) (h : ((c.toNat : Int) == 10) = false) : c ≠ 10 := fun e => by subst e; simp at h

set_option maxRecDepth 100000 in
set_option maxHeartbeats 1600000 in
theorem lineBounds_any (bs : ByteArray) (B cp : Nat) (w : World) (hp : ∀ j, j < bs.size → w.cell? ⟨B, j, none⟩ = some (.int .u8 (bs.get! j).toNat)) (hbs : bs.size < 1073741824) :
    Calls Tryf.prog 10 #[.slice (some ⟨B, 0, none⟩) bs.size cp] w fun e w' => ∃ va vb, e = .returned (.tuple #[va, vb]) ∧ Two w w' va vb ((lines bs).map (·.1)) ((lines bs).map (·.2)) := by
  have HP : Hid (∀ w', Below w.heap.size w w' → ∀ j, j < bs.size → w'.cell? ⟨B, j, none⟩ = some (.int .u8 (bs.get! j).toNat)) := fun w' hb j hj => by
    have hx := hp j hj
    rw [hb.cell (World.block_lt_of_cell? _ _ hx), hx]
  clear hp
  obtain ⟨i3, hi3, hz3, hy3, hb3⟩ := info_parts Tryf.info3'
  have HI : Hid (Tryf.prog.info? 3 = some i3 ∧ i3.zero = some (.int .i64 0) ∧ i3.size = 1 ∧ i3.bytes = 8) := ⟨hi3, hz3, hy3, hb3⟩
  clear hi3 hz3 hy3 hb3
  go_enter Tryf.func10, Tryf.ntmps10
  go_wp2_with fail
  go_loopw [4, 5, 6, 7] (fun va vb sv jv wr => ∃ (i : Nat), i ≤ bs.size ∧ jv = .int .i64 i ∧ sv = .int .i64 (scan bs i).2 ∧ Two w wr va vb ((scan bs i).1.map (·.1)) ((scan bs i).1.map (·.2))) (fun _ _ _ jv _ => bs.size - (intOf jv).toNat)
  case atStart => exact ⟨0, Nat.zero_le _, rfl, rfl, ⟨Below.refl _ _, World.ownsRow_nil _ _ _ _, World.ownsRow_nil _ _ _ _, fun k e => by cases e⟩⟩
  case round =>
    obtain ⟨i, hi, rfl, rfl, h2⟩ := hrel
    have HT : Hid _ := h2
    have hsl := (scan_le bs i).1
    have hs2 := (scan_le bs i).2.1
    clear h2
    by_cases hlt : i < bs.size
    · have hc := HP.out wr HT.out.bl i hlt
      have x1 : (i : Int) < (bs.size : Int) := by omega
      rcases hb : (((bs.get! i).toNat : Int) == 10)
      · have hsc : scan bs (i + 1) = scan bs i := by rw [scan, if_neg (not_nl_of _ hb)]
        have HSC : Hid _ := hsc
        clear hsc
        go_wp2_with fail
        go_roundw
        case rel => exact ⟨i + 1, by omega, by go_num, by rw [HSC.out], by rw [HSC.out]; exact HT.out⟩
        case measure => simp [intOf]; omega
      · have hsc : scan bs (i + 1) = ((scan bs i).1 ++ [((scan bs i).2, i)], i + 1) := by rw [scan, if_pos (nl_of _ hb)]
        have HSC : Hid _ := hsc
        clear hsc
        have hl1 : ((scan bs i).1.map (·.1)).length ≤ i := by simpa using hsl
        have hl2 : ((scan bs i).1.map (·.2)).length ≤ i := by simpa using hsl
        generalize hxs : (scan bs i).1.map (·.1) = xs at HT hl1
        generalize hys : (scan bs i).1.map (·.2) = ys at HT hl2
        have HX : Hid _ := hxs
        have HY : Hid _ := hys
        clear hxs hys
        go_wp2_with (at_builtin; refine wpList_append_own_at _ rfl (.tmp 19) (.tmp 21) 38 rfl w.heap.size 3 i3 (.int .i64 0) 1 8 Tryf.underlying38 HI.out.1 HI.out.2.1 HI.out.2.2.1 HI.out.2.2.2 rfl (by decide) _ _ _ rfl (HT.out.oa.alloc _) ⟨wr.heap.size, 0, none⟩ 1 1 [iv (scan bs i).2] rfl rfl ?c1 ?c2 ?c3 ?c4 ?c5 ?_)
        case c1 => exact cell_iv wr _
        case c2 => exact one_iv _
        case c3 => unfold maxLen; omega
        case c4 => omega
        case c5 => have := HT.out.bl.size; simp; omega
        intro va' w3 own1 gr1 _ at1
        have HT2 : Hid _ := HT.out.add own1 gr1 at1
        clear own1 gr1 at1
        go_wp2_with (at_builtin; refine wpList_append_own_at _ rfl (.tmp 23) (.tmp 25) 38 rfl w.heap.size 3 i3 (.int .i64 0) 1 8 Tryf.underlying38 HI.out.1 HI.out.2.1 HI.out.2.2.1 HI.out.2.2.2 rfl (by decide) _ _ _ rfl (HT2.out.ob.alloc _) ⟨w3.heap.size, 0, none⟩ 1 1 [iv i] rfl rfl ?d1 ?d2 ?d3 ?d4 ?d5 ?_)
        case d1 => exact cell_iv w3 _
        case d2 => exact one_iv _
        case d3 => unfold maxLen; omega
        case d4 => omega
        case d5 => have := HT2.out.bl.size; simp; omega
        intro vb' w4 own2 gr2 _ at2
        have HT3 : Hid _ := (HT2.out.flip.add own2 gr2 at2).flip
        clear own2 gr2 at2
        go_wp2_with fail
        go_roundw
        case rel => exact ⟨i + 1, by omega, by go_num, by rw [HSC.out]; go_num, by rw [HSC.out]; simp only [List.map_append, List.map_cons, List.map_nil]; rw [HX.out, HY.out]; exact HT3.out⟩
        case measure => simp [intOf]; omega
    · obtain rfl : i = bs.size := by omega
      have hl1 : ((scan bs bs.size).1.map (·.1)).length ≤ bs.size := by simpa using hsl
      have hl2 : ((scan bs bs.size).1.map (·.2)).length ≤ bs.size := by simpa using hsl
      generalize hxs : (scan bs bs.size).1.map (·.1) = xs at HT hl1
      generalize hys : (scan bs bs.size).1.map (·.2) = ys at HT hl2
      have HX : Hid _ := hxs
      have HY : Hid _ := hys
      clear hxs hys
      go_wp2_with (at_builtin; refine wpList_append_own_at _ rfl (.tmp 29) (.tmp 31) 38 rfl w.heap.size 3 i3 (.int .i64 0) 1 8 Tryf.underlying38 HI.out.1 HI.out.2.1 HI.out.2.2.1 HI.out.2.2.2 rfl (by decide) _ _ _ rfl (HT.out.oa.alloc _) ⟨wr.heap.size, 0, none⟩ 1 1 [iv (scan bs bs.size).2] rfl rfl ?c1 ?c2 ?c3 ?c4 ?c5 ?_)
      case c1 => exact cell_iv wr _
      case c2 => exact one_iv _
      case c3 => unfold maxLen; omega
      case c4 => omega
      case c5 => have := HT.out.bl.size; simp; omega
      intro va' w3 own1 gr1 _ at1
      have HT2 : Hid _ := HT.out.add own1 gr1 at1
      clear own1 gr1 at1
      go_wp2_with (at_builtin; refine wpList_append_own_at _ rfl (.tmp 33) (.tmp 36) 38 rfl w.heap.size 3 i3 (.int .i64 0) 1 8 Tryf.underlying38 HI.out.1 HI.out.2.1 HI.out.2.2.1 HI.out.2.2.2 rfl (by decide) _ _ _ rfl (HT2.out.ob.alloc _) ⟨w3.heap.size, 0, none⟩ 1 1 [iv bs.size] rfl rfl ?d1 ?d2 ?d3 ?d4 ?d5 ?_)
      case d1 => exact cell_iv w3 _
      case d2 => exact one_iv _
      case d3 => unfold maxLen; omega
      case d4 => omega
      case d5 => have := HT2.out.bl.size; simp; omega
      intro vb' w4 own2 gr2 _ at2
      have HT3 : Hid _ := (HT2.out.flip.add own2 gr2 at2).flip
      clear own2 gr2 at2
      go_wp2_with fail
      go_ret2
      exact ⟨_, _, rfl, by unfold lines; simp only [List.map_append, List.map_cons, List.map_nil]; rw [HX.out, HY.out]; exact HT3.out⟩
end Go.Proofs.Qxb6614461aFmt
