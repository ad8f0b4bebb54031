/-
  trie.add (21) at both readers of a key.
-/
import Derived.Test.Qxb6606410aDoorW4
namespace Go.Proofs.Qxb6606410aDoor
open Go.RowKit

set_option maxHeartbeats 400000 in
theorem add21_fwd (w : World) (g B bx : Nat) (T : Tri) (p : Path) (r : Node) (s : ByteArray) (hI : Inv w g B T) (hB : B ≤ w.heap.size) (hp : T p = some r) (ht : top p = false) (hs : s.size ≤ maxLen) (L : List UInt8) (HLL : Hid (s.data.toList = L))
    (hbx : w.cell? ⟨bx, 0, none⟩ = some (.string s)) (hno : ¬ Own T bx) :
    Calls Tryd.prog 21 #[.pointer (some ⟨r.b, offOf p, none⟩), .int .i64 s.size, .func (.func 27) #[] #[.pointer (some ⟨bx, 0, none⟩)]] w fun e w' =>
      ∃ T' r' k, e = .returned (.pointer (some ⟨k, 0, none⟩)) ∧ Inv w' g B T' ∧ Fr w w' T T' ∧ T' (walk p L) = some r' ∧ r'.val = some k := by
  have hL : L.length = s.size := by rw [← HLL.out]; simp
  unfold maxLen at hs
  go_enter Tryd.func21, Tryd.ntmps21
  go_wp2_with fail
  go_loopw [0, 11] (fun tv cv wr => ∃ (k : Nat) (T' : Tri) (r' : Node), k ≤ s.size ∧ cv = .int .i64 k ∧ tv = .pointer (some ⟨r'.b, offOf (walk p (L.take k)), none⟩) ∧ T' (walk p (L.take k)) = some r' ∧ Inv wr g B T' ∧ Fr w wr T T') (fun _ cv _ => s.size - (intOf cv).toNat)
  case atStart => exact ⟨0, T, r, Nat.zero_le _, rfl, rfl, hp, hI, Fr.refl _ _⟩
  case round =>
    obtain ⟨k, T1, r1, hk, rfl, rfl, hT, hI1, hF⟩ := hrel
    have hN := hI1.ok _ _ hT
    have hbx1 : wr.cell? ⟨bx, 0, none⟩ = some (.string s) := (cell_of (hF.block bx (World.block_lt_of_cell? _ _ hbx) hno) 0).trans hbx
    have hbs : r1.b < wr.heap.size := (hI1.lo _ _ r1.b hT (mem_blocks.2 (.inl rfl))).2
    have hB1 : B ≤ wr.heap.size := Nat.le_trans hB hF.size
    by_cases hlt : k < s.size
    · obtain ⟨c, hts, hbc⟩ : ∃ c, L.take (k + 1) = L.take k ++ [c] ∧ (Calls Tryd.prog 27 #[.int .i64 k, .pointer (some ⟨bx, 0, none⟩)] wr fun e w' => e = .returned (.int .u8 (c.toNat : Int)) ∧ w' = wr) := ⟨L[k], take_L L k (by omega), by obtain rfl := HLL.out; exact fwd_any s bx k wr hlt hbx1⟩
      have HTS : Hid (L.take (k + 1) = L.take k ++ [c]) := hts
      have HB : Hid (Calls Tryd.prog 27 #[.int .i64 k, .pointer (some ⟨bx, 0, none⟩)] wr fun e w' => e = .returned (.int .u8 (c.toNat : Int)) ∧ w' = wr) := hbc
      clear hts hbc
      have HQ : Hid (top (walk p (L.take k)) = false) := (top_walk _ _).trans ht
      have hch := child28_any hN c
      have HI1 : Hid _ := hI1
      have HF : Hid _ := hF
      have HT : Hid _ := hT
      have HN : Hid _ := hN
      have HW : Hid (walk p (L.take (k + 1)) = some c :: walk p (L.take k)) := by rw [HTS.out]; exact walk_snoc _ _ _
      clear hI1 hF hT hN hI hp hbx ht hno
      generalize walk p (L.take k) = q at HT HN HQ HW hch ⊢
      rcases he : r1.edge (some c) with _ | k2
      · have hcn : c ∉ r1.lead := not_lead HN.out he
        have HC : Hid (Calls Tryd.prog 28 #[.pointer (some ⟨r1.b, offOf q, none⟩), .int .u8 (c.toNat : Int)] wr fun e w' => e = .returned (.pointer none) ∧ w' = wr) := by rw [he] at hch; exact hch
        clear hch he hbx1
        have hlead := HN.out.lead
        obtain ⟨i5, hi5, hz5, hy5, hb5⟩ := info_parts Tryd.info5
        have HL : Hid (r1.lead.length ≤ 256) := nodup_len _ HN.out.nodup
        go_wp2_with fail
        refine HB.out.mono ?_
        rintro e w1 ⟨rfl, rfl⟩
        go_wp2_with fail
        refine HC.out.mono ?_
        rintro e w2 ⟨rfl, rfl⟩
        go_wp2_with (at_builtin; refine wpList_append_own_at _ rfl (.tmp 28) (.tmp 30) 37 rfl 0 5 i5 (.int .u8 0) 1 1 Tryd.underlying37 hi5 hz5 hy5 hb5 rfl (by decide) _ _ _ rfl ((HN.out.leadRow.alloc _).alloc _) ⟨w2.heap.size + 1, 0, none⟩ 1 1 [bv c] rfl rfl ?c1 ?c2 ?c3 ?c4 ?c5 ?_)
        case c1 => exact cell_new2 w2 _ _ _
        case c2 => exact one_bv _
        case c3 => have := HL.out; unfold maxLen; omega
        case c4 => have := HL.out; omega
        case c5 => exact Nat.zero_le _
        intro v' w3 own1 gr1 hnil at1
        obtain ⟨g1, cap1, hv⟩ := row_form own1
        rw [hv] at own1 at1 ⊢
        clear hnil hv v' hi5 hz5 hy5 hb5 i5 hlead
        have gr1' := gr1
        rw [ownBlock_slice] at gr1'
        simp only [ownBlock_slice, Option.map_some] at at1
        have hlg := lead_grown HI1.out HT.out gr1'
        have hc1 : w3.cell? ⟨r1.b, offOf q + 1, none⟩ = some (.slice r1.la r1.lead.length r1.lc) := (hlg.2.2.2.1 _).trans HN.out.lead
        have hc2 : w3.cell? ⟨r1.b, offOf q + 2, none⟩ = some (.slice r1.na r1.kids.length r1.nc) := (hlg.2.2.2.1 _).trans HN.out.next
        have hf1 := hlg.2.2.2.2.1 (offOf q + 1)
        have hf2 := hlg.2.2.2.2.1 (offOf q + 2)
        have OWN1 : Hid (World.ownsRow w3 0 5 1 (.slice (some ⟨g1, 0, none⟩) (r1.lead.length + 1) cap1) (r1.lead.length + 1) (r1.lead.map bv ++ [bv c])) := own1
        have GR1 : Hid _ := gr1'
        have AT1 : Hid _ := at1
        have SZ : Hid _ := hlg.2.2.1
        clear own1 gr1 gr1' at1 hlg
        have hkt : kt q = 64 := by simp [kt, HQ.out]
        have NX : Hid (World.ownsRow (w3.setCell ⟨r1.b, offOf q + 1, none⟩ (.slice (some ⟨g1, 0, none⟩) (r1.lead.length + 1) cap1)) 0 64 1 (.slice r1.na r1.kids.length r1.nc) r1.kids.length (r1.kids.map pv)) := by
          rw [← hkt]; exact next_kept HI1.out HT.out GR1.out _ _
        obtain ⟨i60, hi60, hz60, hy60, hb60⟩ := info_parts Tryd.info64
        have HL2 : Hid (r1.kids.length ≤ 256) := HN.out.len ▸ HL.out
        go_wp2_with (at_builtin; refine wpList_append_own_at _ rfl (.tmp 38) (.tmp 40) 46 rfl 0 64 i60 (.pointer none) 1 8 Tryd.underlying46 hi60 hz60 hy60 hb60 rfl (by decide) _ _ _ rfl (NX.out.alloc _) ⟨w3.heap.size, 0, none⟩ 1 1 [pv w2.heap.size] rfl rfl ?d1 ?d2 ?d3 ?d4 ?d5 ?_)
        case d1 => exact cell_one_new' (w3.setCell ⟨r1.b, offOf q + 1, none⟩ (.slice (some ⟨g1, 0, none⟩) (r1.lead.length + 1) cap1)) _ _ _ (by simp)
        case d2 => exact one_pv _
        case d3 => have := HL2.out; unfold maxLen; omega
        case d4 => have := HL2.out; omega
        case d5 => exact Nat.zero_le _
        intro v' w6 own2 gr2 hnil at2
        obtain ⟨g2, cap2, hv⟩ := row_form own2
        rw [hv] at own2 at2 ⊢
        clear hnil hv v' hi60 hz60 hy60 hb60 i60
        rw [ownBlock_slice] at gr2
        simp only [ownBlock_slice, Option.map_some] at at2
        obtain ⟨T2, hI2, hF2, hT2⟩ := child_added HI1.out hB1 HT.out hcn hkt.symm OWN1.out GR1.out (or_inj AT1.out) own2 gr2 (or_inj at2)
        have hcells := next_cells HI1.out HT.out GR1.out gr2
        have hc6 := hcells.1
        have hf6 := hcells.2
        have HI2 : Hid _ := hI2
        have HF2 : Hid _ := hF2
        have HT2 : Hid _ := hT2
        clear hI2 hF2 hT2 hcells own2 gr2 at2 OWN1 GR1 AT1 NX hc1 hc2 hf1 hf2 hcn hkt
        go_wp2_with fail
        go_roundw
        case rel => exact ⟨k + 1, T2, leaf w2.heap.size, by omega, by go_num, by rw [HW.out]; rfl, by rw [HW.out]; exact HT2.out, HI2.out, HF.out.trans HF2.out⟩
        case measure => simp [intOf]; omega
      · have HC : Hid (Calls Tryd.prog 28 #[.pointer (some ⟨r1.b, offOf q, none⟩), .int .u8 (c.toNat : Int)] wr fun e w' => e = .returned (.pointer (some ⟨k2, 0, none⟩)) ∧ w' = wr) := by rw [he] at hch; exact hch
        have hed := HI1.out.edge q r1 (some c) HT.out
        rw [he] at hed
        obtain ⟨r2, hr2, hb2⟩ := Option.map_eq_some_iff.1 hed
        have HR2 : Hid _ := hr2
        have HB2 : Hid _ := hb2
        clear hch he hbx1 hed hr2 hb2
        go_wp2_with fail
        refine HB.out.mono ?_
        rintro e w1 ⟨rfl, rfl⟩
        go_wp2_with fail
        refine HC.out.mono ?_
        rintro e w2 ⟨rfl, rfl⟩
        go_wp2_with fail
        go_roundw
        case rel => exact ⟨k + 1, T1, r2, by omega, by go_num, by rw [HW.out, HB2.out]; rfl, by rw [HW.out]; exact HR2.out, HI1.out, HF.out⟩
        case measure => simp [intOf]; omega
    · have HK : Hid (L.take k = L) := List.take_of_length_le (by omega)
      have HQ : Hid (top (walk p (L.take k)) = false) := (top_walk _ _).trans ht
      have HI1 : Hid _ := hI1
      have HF : Hid _ := hF
      have HT : Hid _ := hT
      have hval := hN.val
      have hfz := hN.fz
      have HW : Hid (walk p L = walk p (L.take k)) := congrArg (walk p) HK.out.symm
      clear hI1 hF hT hN hI hp hbx ht hno hbx1
      generalize walk p (L.take k) = q at HT HQ HW hval ⊢
      rcases hv : r1.val with _ | v
      · have hval' : wr.cell? ⟨r1.b, offOf q, none⟩ = some (.pointer none) := by rw [hv] at hval; exact hval
        have HV : Hid _ := hv
        have hfz1 := hfz (offOf q)
        clear hv hval hfz
        obtain ⟨T2, r2, hI2, hF2, hT2, _, hv2, _⟩ := val_added (cs := #[.string ByteArray.empty, .pointer none, .slice none 0 0, .slice none 0 0, .pointer none]) (t0 := 54) HI1.out hB1 HT.out HV.out (by simp [offOf, HQ.out]) (by simp [offOf, HQ.out]) (by simp [offOf, HQ.out]) (by simp [offOf, HQ.out])
        have HI2 : Hid _ := hI2
        have HF2 : Hid _ := hF2
        have HT2 : Hid _ := hT2
        have HV2 : Hid _ := hv2
        clear hI2 hF2 hT2 hv2
        go_wp2_with fail
        go_ret
        exact ⟨T2, r2, wr.heap.size, rfl, HI2.out, HF.out.trans HF2.out, by rw [HW.out]; exact HT2.out, HV2.out⟩
      · have hval' : wr.cell? ⟨r1.b, offOf q, none⟩ = some (.pointer (some ⟨v, 0, none⟩)) := by rw [hv] at hval; exact hval
        have HV : Hid _ := hv
        clear hv hval hfz
        go_wp2_with fail
        go_ret
        exact ⟨T1, r1, v, rfl, HI1.out, HF.out, by rw [HW.out]; exact HT.out, HV.out⟩

set_option maxHeartbeats 400000 in
theorem add21_bwd (w : World) (g B bx : Nat) (T : Tri) (p : Path) (r : Node) (s : ByteArray) (hI : Inv w g B T) (hB : B ≤ w.heap.size) (hp : T p = some r) (ht : top p = false) (hs : s.size ≤ maxLen) (L : List UInt8) (HLL : Hid (s.data.toList.reverse = L))
    (hbx : w.cell? ⟨bx, 0, none⟩ = some (.string s)) (hno : ¬ Own T bx) :
    Calls Tryd.prog 21 #[.pointer (some ⟨r.b, offOf p, none⟩), .int .i64 s.size, .func (.func 29) #[] #[.pointer (some ⟨bx, 0, none⟩)]] w fun e w' =>
      ∃ T' r' k, e = .returned (.pointer (some ⟨k, 0, none⟩)) ∧ Inv w' g B T' ∧ Fr w w' T T' ∧ T' (walk p L) = some r' ∧ r'.val = some k := by
  have hL : L.length = s.size := by rw [← HLL.out]; simp
  unfold maxLen at hs
  go_enter Tryd.func21, Tryd.ntmps21
  go_wp2_with fail
  go_loopw [0, 11] (fun tv cv wr => ∃ (k : Nat) (T' : Tri) (r' : Node), k ≤ s.size ∧ cv = .int .i64 k ∧ tv = .pointer (some ⟨r'.b, offOf (walk p (L.take k)), none⟩) ∧ T' (walk p (L.take k)) = some r' ∧ Inv wr g B T' ∧ Fr w wr T T') (fun _ cv _ => s.size - (intOf cv).toNat)
  case atStart => exact ⟨0, T, r, Nat.zero_le _, rfl, rfl, hp, hI, Fr.refl _ _⟩
  case round =>
    obtain ⟨k, T1, r1, hk, rfl, rfl, hT, hI1, hF⟩ := hrel
    have hN := hI1.ok _ _ hT
    have hbx1 : wr.cell? ⟨bx, 0, none⟩ = some (.string s) := (cell_of (hF.block bx (World.block_lt_of_cell? _ _ hbx) hno) 0).trans hbx
    have hbs : r1.b < wr.heap.size := (hI1.lo _ _ r1.b hT (mem_blocks.2 (.inl rfl))).2
    have hB1 : B ≤ wr.heap.size := Nat.le_trans hB hF.size
    by_cases hlt : k < s.size
    · obtain ⟨c, hts, hbc⟩ : ∃ c, L.take (k + 1) = L.take k ++ [c] ∧ (Calls Tryd.prog 29 #[.int .i64 k, .pointer (some ⟨bx, 0, none⟩)] wr fun e w' => e = .returned (.int .u8 (c.toNat : Int)) ∧ w' = wr) := ⟨L[k], take_L L k (by omega), by obtain rfl := HLL.out; rw [bwd_byte s k hlt]; exact bwd_any s bx k wr (by unfold maxLen; exact hs) hlt hbx1⟩
      have HTS : Hid (L.take (k + 1) = L.take k ++ [c]) := hts
      have HB : Hid (Calls Tryd.prog 29 #[.int .i64 k, .pointer (some ⟨bx, 0, none⟩)] wr fun e w' => e = .returned (.int .u8 (c.toNat : Int)) ∧ w' = wr) := hbc
      clear hts hbc
      have HQ : Hid (top (walk p (L.take k)) = false) := (top_walk _ _).trans ht
      have hch := child28_any hN c
      have HI1 : Hid _ := hI1
      have HF : Hid _ := hF
      have HT : Hid _ := hT
      have HN : Hid _ := hN
      have HW : Hid (walk p (L.take (k + 1)) = some c :: walk p (L.take k)) := by rw [HTS.out]; exact walk_snoc _ _ _
      clear hI1 hF hT hN hI hp hbx ht hno
      generalize walk p (L.take k) = q at HT HN HQ HW hch ⊢
      rcases he : r1.edge (some c) with _ | k2
      · have hcn : c ∉ r1.lead := not_lead HN.out he
        have HC : Hid (Calls Tryd.prog 28 #[.pointer (some ⟨r1.b, offOf q, none⟩), .int .u8 (c.toNat : Int)] wr fun e w' => e = .returned (.pointer none) ∧ w' = wr) := by rw [he] at hch; exact hch
        clear hch he hbx1
        have hlead := HN.out.lead
        obtain ⟨i5, hi5, hz5, hy5, hb5⟩ := info_parts Tryd.info5
        have HL : Hid (r1.lead.length ≤ 256) := nodup_len _ HN.out.nodup
        go_wp2_with fail
        refine HB.out.mono ?_
        rintro e w1 ⟨rfl, rfl⟩
        go_wp2_with fail
        refine HC.out.mono ?_
        rintro e w2 ⟨rfl, rfl⟩
        go_wp2_with (at_builtin; refine wpList_append_own_at _ rfl (.tmp 28) (.tmp 30) 37 rfl 0 5 i5 (.int .u8 0) 1 1 Tryd.underlying37 hi5 hz5 hy5 hb5 rfl (by decide) _ _ _ rfl ((HN.out.leadRow.alloc _).alloc _) ⟨w2.heap.size + 1, 0, none⟩ 1 1 [bv c] rfl rfl ?c1 ?c2 ?c3 ?c4 ?c5 ?_)
        case c1 => exact cell_new2 w2 _ _ _
        case c2 => exact one_bv _
        case c3 => have := HL.out; unfold maxLen; omega
        case c4 => have := HL.out; omega
        case c5 => exact Nat.zero_le _
        intro v' w3 own1 gr1 hnil at1
        obtain ⟨g1, cap1, hv⟩ := row_form own1
        rw [hv] at own1 at1 ⊢
        clear hnil hv v' hi5 hz5 hy5 hb5 i5 hlead
        have gr1' := gr1
        rw [ownBlock_slice] at gr1'
        simp only [ownBlock_slice, Option.map_some] at at1
        have hlg := lead_grown HI1.out HT.out gr1'
        have hc1 : w3.cell? ⟨r1.b, offOf q + 1, none⟩ = some (.slice r1.la r1.lead.length r1.lc) := (hlg.2.2.2.1 _).trans HN.out.lead
        have hc2 : w3.cell? ⟨r1.b, offOf q + 2, none⟩ = some (.slice r1.na r1.kids.length r1.nc) := (hlg.2.2.2.1 _).trans HN.out.next
        have hf1 := hlg.2.2.2.2.1 (offOf q + 1)
        have hf2 := hlg.2.2.2.2.1 (offOf q + 2)
        have OWN1 : Hid (World.ownsRow w3 0 5 1 (.slice (some ⟨g1, 0, none⟩) (r1.lead.length + 1) cap1) (r1.lead.length + 1) (r1.lead.map bv ++ [bv c])) := own1
        have GR1 : Hid _ := gr1'
        have AT1 : Hid _ := at1
        have SZ : Hid _ := hlg.2.2.1
        clear own1 gr1 gr1' at1 hlg
        have hkt : kt q = 64 := by simp [kt, HQ.out]
        have NX : Hid (World.ownsRow (w3.setCell ⟨r1.b, offOf q + 1, none⟩ (.slice (some ⟨g1, 0, none⟩) (r1.lead.length + 1) cap1)) 0 64 1 (.slice r1.na r1.kids.length r1.nc) r1.kids.length (r1.kids.map pv)) := by
          rw [← hkt]; exact next_kept HI1.out HT.out GR1.out _ _
        obtain ⟨i60, hi60, hz60, hy60, hb60⟩ := info_parts Tryd.info64
        have HL2 : Hid (r1.kids.length ≤ 256) := HN.out.len ▸ HL.out
        go_wp2_with (at_builtin; refine wpList_append_own_at _ rfl (.tmp 38) (.tmp 40) 46 rfl 0 64 i60 (.pointer none) 1 8 Tryd.underlying46 hi60 hz60 hy60 hb60 rfl (by decide) _ _ _ rfl (NX.out.alloc _) ⟨w3.heap.size, 0, none⟩ 1 1 [pv w2.heap.size] rfl rfl ?d1 ?d2 ?d3 ?d4 ?d5 ?_)
        case d1 => exact cell_one_new' (w3.setCell ⟨r1.b, offOf q + 1, none⟩ (.slice (some ⟨g1, 0, none⟩) (r1.lead.length + 1) cap1)) _ _ _ (by simp)
        case d2 => exact one_pv _
        case d3 => have := HL2.out; unfold maxLen; omega
        case d4 => have := HL2.out; omega
        case d5 => exact Nat.zero_le _
        intro v' w6 own2 gr2 hnil at2
        obtain ⟨g2, cap2, hv⟩ := row_form own2
        rw [hv] at own2 at2 ⊢
        clear hnil hv v' hi60 hz60 hy60 hb60 i60
        rw [ownBlock_slice] at gr2
        simp only [ownBlock_slice, Option.map_some] at at2
        obtain ⟨T2, hI2, hF2, hT2⟩ := child_added HI1.out hB1 HT.out hcn hkt.symm OWN1.out GR1.out (or_inj AT1.out) own2 gr2 (or_inj at2)
        have hcells := next_cells HI1.out HT.out GR1.out gr2
        have hc6 := hcells.1
        have hf6 := hcells.2
        have HI2 : Hid _ := hI2
        have HF2 : Hid _ := hF2
        have HT2 : Hid _ := hT2
        clear hI2 hF2 hT2 hcells own2 gr2 at2 OWN1 GR1 AT1 NX hc1 hc2 hf1 hf2 hcn hkt
        go_wp2_with fail
        go_roundw
        case rel => exact ⟨k + 1, T2, leaf w2.heap.size, by omega, by go_num, by rw [HW.out]; rfl, by rw [HW.out]; exact HT2.out, HI2.out, HF.out.trans HF2.out⟩
        case measure => simp [intOf]; omega
      · have HC : Hid (Calls Tryd.prog 28 #[.pointer (some ⟨r1.b, offOf q, none⟩), .int .u8 (c.toNat : Int)] wr fun e w' => e = .returned (.pointer (some ⟨k2, 0, none⟩)) ∧ w' = wr) := by rw [he] at hch; exact hch
        have hed := HI1.out.edge q r1 (some c) HT.out
        rw [he] at hed
        obtain ⟨r2, hr2, hb2⟩ := Option.map_eq_some_iff.1 hed
        have HR2 : Hid _ := hr2
        have HB2 : Hid _ := hb2
        clear hch he hbx1 hed hr2 hb2
        go_wp2_with fail
        refine HB.out.mono ?_
        rintro e w1 ⟨rfl, rfl⟩
        go_wp2_with fail
        refine HC.out.mono ?_
        rintro e w2 ⟨rfl, rfl⟩
        go_wp2_with fail
        go_roundw
        case rel => exact ⟨k + 1, T1, r2, by omega, by go_num, by rw [HW.out, HB2.out]; rfl, by rw [HW.out]; exact HR2.out, HI1.out, HF.out⟩
        case measure => simp [intOf]; omega
    · have HK : Hid (L.take k = L) := List.take_of_length_le (by omega)
      have HQ : Hid (top (walk p (L.take k)) = false) := (top_walk _ _).trans ht
      have HI1 : Hid _ := hI1
      have HF : Hid _ := hF
      have HT : Hid _ := hT
      have hval := hN.val
      have hfz := hN.fz
      have HW : Hid (walk p L = walk p (L.take k)) := congrArg (walk p) HK.out.symm
      clear hI1 hF hT hN hI hp hbx ht hno hbx1
      generalize walk p (L.take k) = q at HT HQ HW hval ⊢
      rcases hv : r1.val with _ | v
      · have hval' : wr.cell? ⟨r1.b, offOf q, none⟩ = some (.pointer none) := by rw [hv] at hval; exact hval
        have HV : Hid _ := hv
        have hfz1 := hfz (offOf q)
        clear hv hval hfz
        obtain ⟨T2, r2, hI2, hF2, hT2, _, hv2, _⟩ := val_added (cs := #[.string ByteArray.empty, .pointer none, .slice none 0 0, .slice none 0 0, .pointer none]) (t0 := 54) HI1.out hB1 HT.out HV.out (by simp [offOf, HQ.out]) (by simp [offOf, HQ.out]) (by simp [offOf, HQ.out]) (by simp [offOf, HQ.out])
        have HI2 : Hid _ := hI2
        have HF2 : Hid _ := hF2
        have HT2 : Hid _ := hT2
        have HV2 : Hid _ := hv2
        clear hI2 hF2 hT2 hv2
        go_wp2_with fail
        go_ret
        exact ⟨T2, r2, wr.heap.size, rfl, HI2.out, HF.out.trans HF2.out, by rw [HW.out]; exact HT2.out, HV2.out⟩
      · have hval' : wr.cell? ⟨r1.b, offOf q, none⟩ = some (.pointer (some ⟨v, 0, none⟩)) := by rw [hv] at hval; exact hval
        have HV : Hid _ := hv
        clear hv hval hfz
        go_wp2_with fail
        go_ret
        exact ⟨T1, r1, v, rfl, HI1.out, HF.out, by rw [HW.out]; exact HT.out, HV.out⟩
end Go.Proofs.Qxb6606410aDoor
