/-
  Walk: fmtEFG (31) in the form 'e'.
-/
import Derived.Test.Qxb6615058aDoorW5
import Derived.Test.Qxb6615058aDoorN13
import Derived.OwnWalk
namespace Go.Proofs.Qxb6615058aDoor
open Go.RowKit

def bv (b : UInt8) : Value := .int .u8 (b.toNat : Int)
theorem bv_one (l : List UInt8) : ∀ u ∈ l.map bv, u.oneCell' = true := fun u hu => by
  obtain ⟨b, _, rfl⟩ := List.mem_map.1 hu
  rfl

theorem cell_new (w : World) (l : List Value) (e : TypeId) : ∀ j u, l[j]? = some u → (w.alloc (.cells l.toArray e)).cell? ((⟨w.heap.size, 0, none⟩ : Addr).add j) = some u := by
  intro j u h
  rw [Addr.add_lit, Nat.zero_add, World.cell?_alloc_mark]
  simpa using h

theorem Tryd.info5' : (Tryd.prog.info? 5).map (fun i => (i.zero, i.size, i.bytes)) = some (some (.int .u8 0), 1, 1) := by kernel_rfl

theorem dB_zero : dB 0 = 48 := rfl

/-- The text that is being built, in block D: c bytes. -/
structure Txt (w W : World) (D : Nat) (l : List UInt8) (c : Nat) : Prop where
  len : l.length = c
  own : W.ownsRow D 5 1 (.slice (some ⟨D, 0, none⟩) c 24) c (l.map bv)
  os : W.os = w.os
  tape : W.tape = w.tape
  output : W.output = w.output
  size : w.heap.size ≤ W.heap.size
  keep : ∀ k, k < w.heap.size → k ≠ D → W.heap[k]? = w.heap[k]?

theorem Txt.add {w W W' : World} {D c d : Nat} {l : List UInt8} {o : Obj} (h : Txt w W D l c) (m : List UInt8) (hm : m.length = d) (ho : W'.ownsRow D 5 1 (.slice (some ⟨D, 0, none⟩) (c + d) 24) (c + d) (l.map bv ++ m.map bv)) (hg : (W.alloc o).grownBy W' (some D)) : Txt w W' D (l ++ m) (c + d) := by
  have hs : (W.alloc o).heap.size = W.heap.size + 1 := by simp
  refine ⟨by rw [List.length_append, h.len, hm], by rw [List.map_append]; exact ho, hg.os.trans h.os, hg.tape.trans h.tape, hg.output.trans h.output, ?_, fun k hk hD => ?_⟩
  · have := hg.size; have := h.size; omega
  · rw [hg.block k (by have := h.size; omega) (by intro e; exact hD (Option.some.inj e)), ← h.keep k hk hD]
    exact heap_alloc_old W o (by have := h.size; omega)

theorem Txt.add0 {w W W' : World} {D c d : Nat} {l : List UInt8} (h : Txt w W D l c) (m : List UInt8) (hm : m.length = d) (ho : W'.ownsRow D 5 1 (.slice (some ⟨D, 0, none⟩) (c + d) 24) (c + d) (l.map bv ++ m.map bv)) (hg : W.grownBy W' (some D)) : Txt w W' D (l ++ m) (c + d) := by
  refine ⟨by rw [List.length_append, h.len, hm], by rw [List.map_append]; exact ho, hg.os.trans h.os, hg.tape.trans h.tape, hg.output.trans h.output, ?_, fun k hk hD => ?_⟩
  · have := hg.size; have := h.size; omega
  · rw [hg.block k (by have := h.size; omega) (by intro e; exact hD (Option.some.inj e)), ← h.keep k hk hD]

theorem Txt.start {w : World} {D : Nat} (h : w.ownsRow D 5 1 (.slice (some ⟨D, 0, none⟩) 0 24) 0 []) : Txt w w D [] 0 := ⟨rfl, h, rfl, rfl, rfl, Nat.le_refl _, fun _ _ _ => rfl⟩

theorem Txt.cell {w W : World} {D c : Nat} {l : List UInt8} (h : Txt w W D l c) {a : Addr} (h1 : a.block < w.heap.size) (h2 : a.block ≠ D) : W.cell? a = w.cell? a := World.cell?_of_block (h.keep _ h1 h2)

theorem dig_cell {w W : World} {D c B u n : Nat} {l : List UInt8} (h : Txt w W D l c) (hB : B < w.heap.size) (hBD : B ≠ D) (hd : DigitsAt w B u n) (t : Nat) (ht : t < n) : W.cell? ⟨B, t, none⟩ = some (bv (dB (dgt u n t))) := by
  rw [h.cell hB hBD, hd t ht]
  unfold bv
  rw [dB_nat (dgt_lt u n t)]


set_option maxRecDepth 100000 in
set_option maxHeartbeats 4000000 in
theorem efg_zero1 (D : Nat) (w : World) (hown : w.ownsRow D 5 1 (.slice (some ⟨D, 0, none⟩) 0 24) 0 []) :
    Calls Tryd.prog 31 #[.slice (some ⟨D, 0, none⟩) 0 24, .bool true, .slice none 0 0, .int .i64 0, .int .i64 0, .int .i64 (-1), .int .u8 101, .bool true] w fun e w' =>
      ∃ c, e = .returned (.slice (some ⟨D, 0, none⟩) c 24) ∧ Txt w w' D (textT true [0] 0) c := by
  obtain ⟨i5, hi5, hz5, hy5, hb5⟩ := info_parts Tryd.info5'
  have HI : Hid (Tryd.prog.info? 5 = some i5 ∧ i5.size = 1) := ⟨hi5, hy5⟩
  clear hi5 hz5 hy5 hb5
  have HT0 : Hid (Txt w w D [] 0) := Txt.start hown
  clear hown
  go_enter Tryd.func31, Tryd.ntmps31
  go_wp2_with (at_builtin; refine wpList_append_fits _ rfl (.tmp 79) (.tmp 80) 38 rfl D 5 i5 1 Tryd.underlying38 HI.out.1 HI.out.2 D 0 24 _ rfl (HT0.out.own.alloc _) ⟨w.heap.size, 0, none⟩ 1 1 ([45].map bv) rfl rfl (cell_new w ([45].map bv) 5) (bv_one _) (by omega) ?_)
  intro w1 own1 gr1
  have HT1 : Hid _ := HT0.out.add [45] rfl own1 gr1
  clear own1 gr1 HT0
  go_wp2_with (at_builtin; refine wpList_append_fits _ rfl (.tmp 87) (.tmp 89) 38 rfl D 5 i5 1 Tryd.underlying38 HI.out.1 HI.out.2 D 1 24 _ rfl (HT1.out.own.alloc _) ⟨w1.heap.size, 0, none⟩ 1 1 ([48].map bv) rfl rfl (cell_new w1 ([48].map bv) 5) (bv_one _) (by omega) ?_)
  intro w2 own1 gr1
  have HT2 : Hid _ := HT1.out.add [48] rfl own1 gr1
  clear own1 gr1 HT1
  obtain ⟨pl, hpl⟩ : ∃ l, l = [45] ++ [(48 : UInt8)] := ⟨_, rfl⟩
  have HPL : Hid _ := hpl
  have HT5 : Hid (Txt w w2 D pl 2) := by rw [Hid, hpl]; exact HT2.out
  clear HT2 hpl
  go_wp2_with (at_builtin; refine wpList_append_fits _ rfl (.tmp 120) (.tmp 122) 38 rfl D 5 i5 1 Tryd.underlying38 HI.out.1 HI.out.2 D 2 24 _ rfl (HT5.out.own.alloc _) ⟨w2.heap.size, 0, none⟩ 1 1 ([101].map bv) rfl rfl (cell_new w2 ([101].map bv) 5) (bv_one _) (by omega) ?_)
  intro v1 own1 gr1
  obtain ⟨pl1, hp⟩ : ∃ l, l = pl ++ [101] := ⟨_, rfl⟩
  have HP1 : Hid _ := hp
  have HU1 : Hid (Txt w v1 D pl1 (2 + 1)) := by rw [Hid, hp]; exact HT5.out.add [101] rfl own1 gr1
  clear own1 gr1 HT5 hp
  go_wp2_with (at_builtin; refine wpList_append_fits _ rfl (.tmp 132) (.tmp 134) 38 rfl D 5 i5 1 Tryd.underlying38 HI.out.1 HI.out.2 D (2 + 1) 24 _ rfl (HU1.out.own.alloc _) ⟨v1.heap.size, 0, none⟩ 1 1 ([43].map bv) rfl rfl (cell_new v1 ([43].map bv) 5) (bv_one _) (by omega) ?_)
  intro v2 own1 gr1
  obtain ⟨pl2, hp⟩ : ∃ l, l = pl1 ++ [43] := ⟨_, rfl⟩
  have HP2 : Hid _ := hp
  have HU2 : Hid (Txt w v2 D pl2 ((2 + 1) + 1)) := by rw [Hid, hp]; exact HU1.out.add [43] rfl own1 gr1
  clear own1 gr1 HU1 hp
  go_wp2_with (at_builtin; refine wpList_append_fits _ rfl (.tmp 155) (.tmp 159) 38 rfl D 5 i5 1 Tryd.underlying38 HI.out.1 HI.out.2 D (2 + 1 + 1) 24 _ rfl (HU2.out.own.alloc _) ⟨v2.heap.size, 0, none⟩ 2 2 ([48, 48].map bv) rfl rfl (cell_new v2 ([48, 48].map bv) 5) (bv_one _) (by omega) ?_)
  intro v3 own1 gr1
  obtain ⟨pl3, hp⟩ : ∃ l, l = pl2 ++ [48, 48] := ⟨_, rfl⟩
  have HP3 : Hid _ := hp
  have HU3 : Hid (Txt w v3 D pl3 ((2 + 1 + 1) + 2)) := by rw [Hid, hp]; exact HU2.out.add [48, 48] rfl own1 gr1
  clear own1 gr1 HU2 hp
  go_wp2_with fail
  go_ret
  refine ⟨_, rfl, ?_⟩
  have h := HU3.out
  rw [HP3.out, HP2.out, HP1.out, HPL.out] at h
  exact h
set_option maxRecDepth 100000 in
set_option maxHeartbeats 4000000 in
theorem efg_zero0 (D : Nat) (w : World) (hown : w.ownsRow D 5 1 (.slice (some ⟨D, 0, none⟩) 0 24) 0 []) :
    Calls Tryd.prog 31 #[.slice (some ⟨D, 0, none⟩) 0 24, .bool false, .slice none 0 0, .int .i64 0, .int .i64 0, .int .i64 (-1), .int .u8 101, .bool true] w fun e w' =>
      ∃ c, e = .returned (.slice (some ⟨D, 0, none⟩) c 24) ∧ Txt w w' D (textT false [0] 0) c := by
  obtain ⟨i5, hi5, hz5, hy5, hb5⟩ := info_parts Tryd.info5'
  have HI : Hid (Tryd.prog.info? 5 = some i5 ∧ i5.size = 1) := ⟨hi5, hy5⟩
  clear hi5 hz5 hy5 hb5
  have HT0 : Hid (Txt w w D [] 0) := Txt.start hown
  clear hown
  go_enter Tryd.func31, Tryd.ntmps31
  go_wp2_with (at_builtin; refine wpList_append_fits _ rfl (.tmp 87) (.tmp 89) 38 rfl D 5 i5 1 Tryd.underlying38 HI.out.1 HI.out.2 D 0 24 _ rfl (HT0.out.own.alloc _) ⟨w.heap.size, 0, none⟩ 1 1 ([48].map bv) rfl rfl (cell_new w ([48].map bv) 5) (bv_one _) (by omega) ?_)
  intro w2 own1 gr1
  have HT2 : Hid _ := HT0.out.add [48] rfl own1 gr1
  clear own1 gr1 HT0
  obtain ⟨pl, hpl⟩ : ∃ l, l = [(48 : UInt8)] := ⟨_, rfl⟩
  have HPL : Hid _ := hpl
  have HT5 : Hid (Txt w w2 D pl 1) := by rw [Hid, hpl]; exact HT2.out
  clear HT2 hpl
  go_wp2_with (at_builtin; refine wpList_append_fits _ rfl (.tmp 120) (.tmp 122) 38 rfl D 5 i5 1 Tryd.underlying38 HI.out.1 HI.out.2 D 1 24 _ rfl (HT5.out.own.alloc _) ⟨w2.heap.size, 0, none⟩ 1 1 ([101].map bv) rfl rfl (cell_new w2 ([101].map bv) 5) (bv_one _) (by omega) ?_)
  intro v1 own1 gr1
  obtain ⟨pl1, hp⟩ : ∃ l, l = pl ++ [101] := ⟨_, rfl⟩
  have HP1 : Hid _ := hp
  have HU1 : Hid (Txt w v1 D pl1 (1 + 1)) := by rw [Hid, hp]; exact HT5.out.add [101] rfl own1 gr1
  clear own1 gr1 HT5 hp
  go_wp2_with (at_builtin; refine wpList_append_fits _ rfl (.tmp 132) (.tmp 134) 38 rfl D 5 i5 1 Tryd.underlying38 HI.out.1 HI.out.2 D (1 + 1) 24 _ rfl (HU1.out.own.alloc _) ⟨v1.heap.size, 0, none⟩ 1 1 ([43].map bv) rfl rfl (cell_new v1 ([43].map bv) 5) (bv_one _) (by omega) ?_)
  intro v2 own1 gr1
  obtain ⟨pl2, hp⟩ : ∃ l, l = pl1 ++ [43] := ⟨_, rfl⟩
  have HP2 : Hid _ := hp
  have HU2 : Hid (Txt w v2 D pl2 ((1 + 1) + 1)) := by rw [Hid, hp]; exact HU1.out.add [43] rfl own1 gr1
  clear own1 gr1 HU1 hp
  go_wp2_with (at_builtin; refine wpList_append_fits _ rfl (.tmp 155) (.tmp 159) 38 rfl D 5 i5 1 Tryd.underlying38 HI.out.1 HI.out.2 D (1 + 1 + 1) 24 _ rfl (HU2.out.own.alloc _) ⟨v2.heap.size, 0, none⟩ 2 2 ([48, 48].map bv) rfl rfl (cell_new v2 ([48, 48].map bv) 5) (bv_one _) (by omega) ?_)
  intro v3 own1 gr1
  obtain ⟨pl3, hp⟩ : ∃ l, l = pl2 ++ [48, 48] := ⟨_, rfl⟩
  have HP3 : Hid _ := hp
  have HU3 : Hid (Txt w v3 D pl3 ((1 + 1 + 1) + 2)) := by rw [Hid, hp]; exact HU2.out.add [48, 48] rfl own1 gr1
  clear own1 gr1 HU2 hp
  go_wp2_with fail
  go_ret
  refine ⟨_, rfl, ?_⟩
  have h := HU3.out
  rw [HP3.out, HP2.out, HP1.out, HPL.out] at h
  exact h
set_option maxRecDepth 100000 in
set_option maxHeartbeats 4000000 in
theorem efg_11 (D B k : Nat) (u n : Nat) (dp : Int) (w : World) (hown : w.ownsRow D 5 1 (.slice (some ⟨D, 0, none⟩) 0 24) 0 []) (hB : B < w.heap.size) (hBD : B ≠ D) (hd : DigitsAt w B u n) (hk : 2 ≤ k) (hkn : k ≤ n) (hn : n ≤ 17) (h1 : -900 ≤ dp) (h2 : dp ≤ 900) :
    Calls Tryd.prog 31 #[.slice (some ⟨D, 0, none⟩) 0 24, .bool true, .slice (some ⟨B, 0, none⟩) 32 32, .int .i64 dp, .int .i64 k, .int .i64 ((k : Int) - 1), .int .u8 101, .bool true] w fun e w' =>
      ∃ c, e = .returned (.slice (some ⟨D, 0, none⟩) c 24) ∧ Txt w w' D (textT true (digs u n k) (dp - 1)) c := by
  obtain ⟨i5, hi5, hz5, hy5, hb5⟩ := info_parts Tryd.info5'
  have HI : Hid (Tryd.prog.info? 5 = some i5 ∧ i5.size = 1) := ⟨hi5, hy5⟩
  clear hi5 hz5 hy5 hb5
  have HT0 : Hid (Txt w w D [] 0) := Txt.start hown
  clear hown
  have HD : Hid (DigitsAt w B u n) := hd
  clear hd
  have x1 : ((k : Int) == 0) = false := by rw [beq_eq_false_iff_ne]; omega
  have x2 : ((k : Int) != 0) = true := by rw [bne_iff_ne]; omega
  have x3 : (0 : Int) < (k : Int) - 1 := by omega
  have x4 : decide ((k : Int) - 1 > 0) = true := by simp; omega
  have x5 : (k : Int) - 1 + 1 = (k : Int) := by omega
  have x6 : (1 : Int) < (k : Int) := by omega
  have x7 : (k : Int) ≤ 32 := by omega
  have x8 : (k : Int) - (k : Int) = 0 := by omega
  go_enter Tryd.func31, Tryd.ntmps31
  go_wp2_with (at_builtin; refine wpList_append_fits _ rfl (.tmp 79) (.tmp 80) 38 rfl D 5 i5 1 Tryd.underlying38 HI.out.1 HI.out.2 D 0 24 _ rfl (HT0.out.own.alloc _) ⟨w.heap.size, 0, none⟩ 1 1 ([45].map bv) rfl rfl (cell_new w ([45].map bv) 5) (bv_one _) (by omega) ?_)
  intro w1 own1 gr1
  have HT1 : Hid _ := HT0.out.add [45] rfl own1 gr1
  clear own1 gr1 HT0
  have hc0 := dig_cell HT1.out hB hBD HD.out 0 (by omega)
  obtain ⟨b0, hb0⟩ : ∃ b, b = dB (dgt u n 0) := ⟨_, rfl⟩
  rw [← hb0] at hc0
  unfold bv at hc0
  have HB0 : Hid _ := hb0
  clear hb0
  go_wp2_with (at_builtin; refine wpList_append_fits _ rfl (.tmp 87) (.tmp 89) 38 rfl D 5 i5 1 Tryd.underlying38 HI.out.1 HI.out.2 D 1 24 _ rfl (HT1.out.own.alloc _) ⟨w1.heap.size, 0, none⟩ 1 1 ([b0].map bv) rfl rfl (cell_new w1 ([b0].map bv) 5) (bv_one _) (by omega) ?_)
  intro w2 own1 gr1
  have HT2 : Hid _ := HT1.out.add [b0] rfl own1 gr1
  clear own1 gr1 HT1
  go_wp2_with (at_builtin; refine wpList_append_fits _ rfl (.tmp 93) (.tmp 94) 38 rfl D 5 i5 1 Tryd.underlying38 HI.out.1 HI.out.2 D 2 24 _ rfl (HT2.out.own.alloc _) ⟨w2.heap.size, 0, none⟩ 1 1 ([46].map bv) rfl rfl (cell_new w2 ([46].map bv) 5) (bv_one _) (by omega) ?_)
  intro w3 own1 gr1
  have HT3 : Hid _ := HT2.out.add [46] rfl own1 gr1
  clear own1 gr1 HT2
  obtain ⟨dl, hdl⟩ : ∃ l, l = ((digs u n k).drop 1).map dB := ⟨_, rfl⟩
  have HDL : Hid _ := hdl
  have hdll : dl.length = k - 1 := by rw [hdl, List.length_map, List.length_drop, digs_len]
  have HDC : Hid (∀ j v, (dl.map bv)[j]? = some v → w3.cell? ((⟨B, 1, none⟩ : Addr).add j) = some v) := by
    intro j v hv
    rw [hdl] at hv
    have hj : j < k - 1 := by
      have := (List.getElem?_eq_some_iff.1 hv).1
      simpa [digs_len] using this
    rw [Addr.add_lit, dig_cell HT3.out hB hBD HD.out (1 + j) (by omega)]
    rw [← hv]
    simp only [List.getElem?_map, List.getElem?_drop, digs]
    rw [List.getElem?_range (by omega)]
    rfl
  clear hdl
  go_wp2_with (at_builtin; refine wpList_append_fits _ rfl (.tmp 103) (.tmp 107) 38 rfl D 5 i5 1 Tryd.underlying38 HI.out.1 HI.out.2 D 3 24 _ rfl (HT3.out.own) ⟨B, 1, none⟩ (k - 1) 31 (dl.map bv) rfl (by rw [List.length_map, hdll, Nat.mul_one]) HDC.out (bv_one _) (by omega) ?_)
  intro w4 own1 gr1
  have HT4 : Hid _ := HT3.out.add0 dl hdll own1 gr1
  clear own1 gr1 HT3 HDC
  obtain ⟨pl, hpl⟩ : ∃ l, l = [45] ++ [b0] ++ [46] ++ dl := ⟨_, rfl⟩
  obtain ⟨c, hc⟩ : ∃ c, c = 3 + (k - 1) := ⟨_, rfl⟩
  have HTX : Hid (textT true (digs u n k) (dp - 1) = pl ++ expT (dp - 1)) := by
    rw [Hid, hpl, HDL.out, HB0.out, textT, mantT_many (by rw [digs_len]; exact hk)]
    simp [signT, digs]
  have HT5 : Hid (Txt w w4 D pl c) := by rw [Hid, hpl, hc]; exact HT4.out
  have hcb : c ≤ 19 := by omega
  clear HT4 hpl HDL HB0 hdll
  go_wp2_with fail
  rw [← hc]
  clear hc
  go_loop [0, 114] (fun dv jv => dv = .slice (some ⟨D, 0, none⟩) c 24 ∧ jv = .int .i64 0) (fun _ _ => 0)
  case atStart => exact ⟨rfl, rfl⟩
  case round =>
  obtain ⟨rfl, rfl⟩ := hrel
  go_wp2_with (at_builtin; refine wpList_append_fits _ rfl (.tmp 120) (.tmp 122) 38 rfl D 5 i5 1 Tryd.underlying38 HI.out.1 HI.out.2 D c 24 _ rfl (HT5.out.own.alloc _) ⟨w4.heap.size, 0, none⟩ 1 1 ([101].map bv) rfl rfl (cell_new w4 ([101].map bv) 5) (bv_one _) (by omega) ?_)
  intro v1 own1 gr1
  obtain ⟨pl1, hp⟩ : ∃ l, l = pl ++ [101] := ⟨_, rfl⟩
  have HP1 : Hid _ := hp
  have HU1 : Hid (Txt w v1 D pl1 (c + 1)) := by rw [Hid, hp]; exact HT5.out.add [101] rfl own1 gr1
  clear own1 gr1 HT5 hp
  by_cases hx : dp - 1 < 0
  · obtain ⟨y, hy⟩ : ∃ y : Nat, (y : Int) = -(dp - 1) := ⟨(-(dp - 1)).toNat, by omega⟩
    have a1 : -(dp - 1) = (y : Int) := hy.symm
    have a2 : decide (dp - 1 < 0) = true := by simp; omega
    have HX : Hid (expT (dp - 1) = 101 :: 45 :: (expL y).map dB) := by
      rw [Hid, expT, if_pos hx, show (dp - 1).natAbs = y by omega]
    have hyb : y < 1000 := by omega
    clear hy
    go_wp2_with (at_builtin; refine wpList_append_fits _ rfl (.tmp 132) (.tmp 134) 38 rfl D 5 i5 1 Tryd.underlying38 HI.out.1 HI.out.2 D (c + 1) 24 _ rfl (HU1.out.own.alloc _) ⟨v1.heap.size, 0, none⟩ 1 1 ([45].map bv) rfl rfl (cell_new v1 ([45].map bv) 5) (bv_one _) (by omega) ?_)
    intro v2 own1 gr1
    obtain ⟨pl2, hp⟩ : ∃ l, l = pl1 ++ [45] := ⟨_, rfl⟩
    have HP2 : Hid _ := hp
    have HU2 : Hid (Txt w v2 D pl2 ((c + 1) + 1)) := by rw [Hid, hp]; exact HU1.out.add [45] rfl own1 gr1
    clear own1 gr1 HU1 hp
    clear a1 a2 hx
    by_cases h10 : y < 10
    · have f1 : (y : Int) < 10 := by omega
      have HE : Hid (expL y = [0, y]) := by rw [Hid, expL, if_pos h10]
      obtain ⟨b1, hb1⟩ : ∃ b, b = dB y := ⟨_, rfl⟩
      have e1 : (y : Int) + 48 = ((b1.toNat : Nat) : Int) := by rw [hb1, dB_nat (by omega)]; omega
      have HB1 : Hid _ := hb1
      clear hb1
      go_wp2_with (at_builtin; refine wpList_append_fits _ rfl (.tmp 155) (.tmp 159) 38 rfl D 5 i5 1 Tryd.underlying38 HI.out.1 HI.out.2 D (c + 1 + 1) 24 _ rfl (HU2.out.own.alloc _) ⟨v2.heap.size, 0, none⟩ 2 2 ([48, b1].map bv) rfl rfl (cell_new v2 ([48, b1].map bv) 5) (bv_one _) (by omega) ?_)
      intro v3 own1 gr1
      obtain ⟨pl3, hp⟩ : ∃ l, l = pl2 ++ [48, b1] := ⟨_, rfl⟩
      have HP3 : Hid _ := hp
      have HU3 : Hid (Txt w v3 D pl3 ((c + 1 + 1) + 2)) := by rw [Hid, hp]; exact HU2.out.add [48, b1] rfl own1 gr1
      clear own1 gr1 HU2 hp
      go_wp2_with fail
      go_ret
      refine ⟨_, rfl, ?_⟩
      have h := HU3.out
      rw [HP3.out, HP2.out, HP1.out] at h
      rw [HB1.out] at h
      rw [HTX.out, HX.out, HE.out]
      simp only [List.append_assoc, List.cons_append, List.nil_append, List.map_cons, List.map_nil, dB_zero] at h ⊢
      exact h
    · have f0 : ¬ (y : Int) < 10 := by omega
      have f0' : decide ((y : Int) < 10) = false := by simp; omega
      by_cases h100 : y < 100
      · have f1 : (y : Int) < 100 := by omega
        have HE : Hid (expL y = [y / 10, y % 10]) := by rw [Hid, expL, if_neg h10, if_pos h100]
        obtain ⟨q, hq⟩ : ∃ q, q = y / 10 := ⟨_, rfl⟩
        obtain ⟨r, hr⟩ : ∃ r, r = y % 10 := ⟨_, rfl⟩
        obtain ⟨b1, hb1⟩ : ∃ b, b = dB q := ⟨_, rfl⟩
        obtain ⟨b2, hb2⟩ : ∃ b, b = dB r := ⟨_, rfl⟩
        have g1 : (y : Int) / 10 = (q : Int) := by omega
        have g2 : (y : Int) % 10 = (r : Int) := by omega
        have g3 : q < 10 := by omega
        have g4 : r < 10 := by omega
        have e1 : (q : Int) + 48 = ((b1.toNat : Nat) : Int) := by rw [hb1, dB_nat g3]; omega
        have e2 : (r : Int) + 48 = ((b2.toNat : Nat) : Int) := by rw [hb2, dB_nat g4]; omega
        have HB1 : Hid _ := hb1
        have HB2 : Hid _ := hb2
        have HQ : Hid _ := hq
        have HR : Hid _ := hr
        clear hb1 hb2 hq hr
        go_wp2_with (at_builtin; refine wpList_append_fits _ rfl (.tmp 164) (.tmp 173) 38 rfl D 5 i5 1 Tryd.underlying38 HI.out.1 HI.out.2 D (c + 1 + 1) 24 _ rfl (HU2.out.own.alloc _) ⟨v2.heap.size, 0, none⟩ 2 2 ([b1, b2].map bv) rfl rfl (cell_new v2 ([b1, b2].map bv) 5) (bv_one _) (by omega) ?_)
        intro v3 own1 gr1
        obtain ⟨pl3, hp⟩ : ∃ l, l = pl2 ++ [b1, b2] := ⟨_, rfl⟩
        have HP3 : Hid _ := hp
        have HU3 : Hid (Txt w v3 D pl3 ((c + 1 + 1) + 2)) := by rw [Hid, hp]; exact HU2.out.add [b1, b2] rfl own1 gr1
        clear own1 gr1 HU2 hp
        go_wp2_with fail
        go_ret
        refine ⟨_, rfl, ?_⟩
        have h := HU3.out
        rw [HP3.out, HP2.out, HP1.out] at h
        rw [HB1.out, HB2.out, HQ.out, HR.out] at h
        rw [HTX.out, HX.out, HE.out]
        simp only [List.append_assoc, List.cons_append, List.nil_append, List.map_cons, List.map_nil] at h ⊢
        exact h
      · have f1 : ¬ (y : Int) < 100 := by omega
        have f1' : decide ((y : Int) < 100) = false := by simp; omega
        have HE : Hid (expL y = [y / 100, y / 10 % 10, y % 10]) := by rw [Hid, expL, if_neg h10, if_neg h100]
        obtain ⟨p, hp⟩ : ∃ p, p = y / 100 := ⟨_, rfl⟩
        obtain ⟨s, hs⟩ : ∃ s, s = y / 10 := ⟨_, rfl⟩
        obtain ⟨q, hq⟩ : ∃ q, q = s % 10 := ⟨_, rfl⟩
        obtain ⟨r, hr⟩ : ∃ r, r = y % 10 := ⟨_, rfl⟩
        obtain ⟨b1, hb1⟩ : ∃ b, b = dB p := ⟨_, rfl⟩
        obtain ⟨b2, hb2⟩ : ∃ b, b = dB q := ⟨_, rfl⟩
        obtain ⟨b3, hb3⟩ : ∃ b, b = dB r := ⟨_, rfl⟩
        have g1 : (y : Int) / 100 = (p : Int) := by omega
        have g0 : (y : Int) / 10 = (s : Int) := by omega
        have g2 : (s : Int) % 10 = (q : Int) := by omega
        have g5 : (y : Int) % 10 = (r : Int) := by omega
        have g3 : p < 10 := by omega
        have g4 : q < 10 := by omega
        have g6 : r < 10 := by omega
        have g7 : s < 100 := by omega
        have e1 : (p : Int) + 48 = ((b1.toNat : Nat) : Int) := by rw [hb1, dB_nat g3]; omega
        have e2 : (q : Int) + 48 = ((b2.toNat : Nat) : Int) := by rw [hb2, dB_nat g4]; omega
        have e3 : (r : Int) + 48 = ((b3.toNat : Nat) : Int) := by rw [hb3, dB_nat g6]; omega
        have HB1 : Hid _ := hb1
        have HB2 : Hid _ := hb2
        have HB3 : Hid _ := hb3
        have HPQ : Hid _ := hp
        have HS : Hid _ := hs
        have HQ : Hid _ := hq
        have HR : Hid _ := hr
        clear hb1 hb2 hb3 hq hr hp hs
        go_wp2_with (at_builtin; refine wpList_append_fits _ rfl (.tmp 136) (.tmp 150) 38 rfl D 5 i5 1 Tryd.underlying38 HI.out.1 HI.out.2 D (c + 1 + 1) 24 _ rfl (HU2.out.own.alloc _) ⟨v2.heap.size, 0, none⟩ 3 3 ([b1, b2, b3].map bv) rfl rfl (cell_new v2 ([b1, b2, b3].map bv) 5) (bv_one _) (by omega) ?_)
        intro v3 own1 gr1
        obtain ⟨pl3, hp⟩ : ∃ l, l = pl2 ++ [b1, b2, b3] := ⟨_, rfl⟩
        have HP3 : Hid _ := hp
        have HU3 : Hid (Txt w v3 D pl3 ((c + 1 + 1) + 3)) := by rw [Hid, hp]; exact HU2.out.add [b1, b2, b3] rfl own1 gr1
        clear own1 gr1 HU2 hp
        go_wp2_with fail
        go_ret
        refine ⟨_, rfl, ?_⟩
        have h := HU3.out
        rw [HP3.out, HP2.out, HP1.out] at h
        rw [HB1.out, HB2.out, HB3.out, HPQ.out, HQ.out, HS.out, HR.out] at h
        rw [HTX.out, HX.out, HE.out]
        simp only [List.append_assoc, List.cons_append, List.nil_append, List.map_cons, List.map_nil] at h ⊢
        exact h
  · obtain ⟨y, hy⟩ : ∃ y : Nat, (y : Int) = dp - 1 := ⟨(dp - 1).toNat, by omega⟩
    have a1 : dp - 1 = (y : Int) := hy.symm
    have a2 : decide (dp - 1 < 0) = false := by simp; omega
    have HX : Hid (expT (dp - 1) = 101 :: 43 :: (expL y).map dB) := by
      rw [Hid, expT, if_neg hx, show (dp - 1).natAbs = y by omega]
    have hyb : y < 1000 := by omega
    clear hy
    go_wp2_with (at_builtin; refine wpList_append_fits _ rfl (.tmp 132) (.tmp 134) 38 rfl D 5 i5 1 Tryd.underlying38 HI.out.1 HI.out.2 D (c + 1) 24 _ rfl (HU1.out.own.alloc _) ⟨v1.heap.size, 0, none⟩ 1 1 ([43].map bv) rfl rfl (cell_new v1 ([43].map bv) 5) (bv_one _) (by omega) ?_)
    intro v2 own1 gr1
    obtain ⟨pl2, hp⟩ : ∃ l, l = pl1 ++ [43] := ⟨_, rfl⟩
    have HP2 : Hid _ := hp
    have HU2 : Hid (Txt w v2 D pl2 ((c + 1) + 1)) := by rw [Hid, hp]; exact HU1.out.add [43] rfl own1 gr1
    clear own1 gr1 HU1 hp
    clear a1 a2 hx
    by_cases h10 : y < 10
    · have f1 : (y : Int) < 10 := by omega
      have HE : Hid (expL y = [0, y]) := by rw [Hid, expL, if_pos h10]
      obtain ⟨b1, hb1⟩ : ∃ b, b = dB y := ⟨_, rfl⟩
      have e1 : (y : Int) + 48 = ((b1.toNat : Nat) : Int) := by rw [hb1, dB_nat (by omega)]; omega
      have HB1 : Hid _ := hb1
      clear hb1
      go_wp2_with (at_builtin; refine wpList_append_fits _ rfl (.tmp 155) (.tmp 159) 38 rfl D 5 i5 1 Tryd.underlying38 HI.out.1 HI.out.2 D (c + 1 + 1) 24 _ rfl (HU2.out.own.alloc _) ⟨v2.heap.size, 0, none⟩ 2 2 ([48, b1].map bv) rfl rfl (cell_new v2 ([48, b1].map bv) 5) (bv_one _) (by omega) ?_)
      intro v3 own1 gr1
      obtain ⟨pl3, hp⟩ : ∃ l, l = pl2 ++ [48, b1] := ⟨_, rfl⟩
      have HP3 : Hid _ := hp
      have HU3 : Hid (Txt w v3 D pl3 ((c + 1 + 1) + 2)) := by rw [Hid, hp]; exact HU2.out.add [48, b1] rfl own1 gr1
      clear own1 gr1 HU2 hp
      go_wp2_with fail
      go_ret
      refine ⟨_, rfl, ?_⟩
      have h := HU3.out
      rw [HP3.out, HP2.out, HP1.out] at h
      rw [HB1.out] at h
      rw [HTX.out, HX.out, HE.out]
      simp only [List.append_assoc, List.cons_append, List.nil_append, List.map_cons, List.map_nil, dB_zero] at h ⊢
      exact h
    · have f0 : ¬ (y : Int) < 10 := by omega
      have f0' : decide ((y : Int) < 10) = false := by simp; omega
      by_cases h100 : y < 100
      · have f1 : (y : Int) < 100 := by omega
        have HE : Hid (expL y = [y / 10, y % 10]) := by rw [Hid, expL, if_neg h10, if_pos h100]
        obtain ⟨q, hq⟩ : ∃ q, q = y / 10 := ⟨_, rfl⟩
        obtain ⟨r, hr⟩ : ∃ r, r = y % 10 := ⟨_, rfl⟩
        obtain ⟨b1, hb1⟩ : ∃ b, b = dB q := ⟨_, rfl⟩
        obtain ⟨b2, hb2⟩ : ∃ b, b = dB r := ⟨_, rfl⟩
        have g1 : (y : Int) / 10 = (q : Int) := by omega
        have g2 : (y : Int) % 10 = (r : Int) := by omega
        have g3 : q < 10 := by omega
        have g4 : r < 10 := by omega
        have e1 : (q : Int) + 48 = ((b1.toNat : Nat) : Int) := by rw [hb1, dB_nat g3]; omega
        have e2 : (r : Int) + 48 = ((b2.toNat : Nat) : Int) := by rw [hb2, dB_nat g4]; omega
        have HB1 : Hid _ := hb1
        have HB2 : Hid _ := hb2
        have HQ : Hid _ := hq
        have HR : Hid _ := hr
        clear hb1 hb2 hq hr
        go_wp2_with (at_builtin; refine wpList_append_fits _ rfl (.tmp 164) (.tmp 173) 38 rfl D 5 i5 1 Tryd.underlying38 HI.out.1 HI.out.2 D (c + 1 + 1) 24 _ rfl (HU2.out.own.alloc _) ⟨v2.heap.size, 0, none⟩ 2 2 ([b1, b2].map bv) rfl rfl (cell_new v2 ([b1, b2].map bv) 5) (bv_one _) (by omega) ?_)
        intro v3 own1 gr1
        obtain ⟨pl3, hp⟩ : ∃ l, l = pl2 ++ [b1, b2] := ⟨_, rfl⟩
        have HP3 : Hid _ := hp
        have HU3 : Hid (Txt w v3 D pl3 ((c + 1 + 1) + 2)) := by rw [Hid, hp]; exact HU2.out.add [b1, b2] rfl own1 gr1
        clear own1 gr1 HU2 hp
        go_wp2_with fail
        go_ret
        refine ⟨_, rfl, ?_⟩
        have h := HU3.out
        rw [HP3.out, HP2.out, HP1.out] at h
        rw [HB1.out, HB2.out, HQ.out, HR.out] at h
        rw [HTX.out, HX.out, HE.out]
        simp only [List.append_assoc, List.cons_append, List.nil_append, List.map_cons, List.map_nil] at h ⊢
        exact h
      · have f1 : ¬ (y : Int) < 100 := by omega
        have f1' : decide ((y : Int) < 100) = false := by simp; omega
        have HE : Hid (expL y = [y / 100, y / 10 % 10, y % 10]) := by rw [Hid, expL, if_neg h10, if_neg h100]
        obtain ⟨p, hp⟩ : ∃ p, p = y / 100 := ⟨_, rfl⟩
        obtain ⟨s, hs⟩ : ∃ s, s = y / 10 := ⟨_, rfl⟩
        obtain ⟨q, hq⟩ : ∃ q, q = s % 10 := ⟨_, rfl⟩
        obtain ⟨r, hr⟩ : ∃ r, r = y % 10 := ⟨_, rfl⟩
        obtain ⟨b1, hb1⟩ : ∃ b, b = dB p := ⟨_, rfl⟩
        obtain ⟨b2, hb2⟩ : ∃ b, b = dB q := ⟨_, rfl⟩
        obtain ⟨b3, hb3⟩ : ∃ b, b = dB r := ⟨_, rfl⟩
        have g1 : (y : Int) / 100 = (p : Int) := by omega
        have g0 : (y : Int) / 10 = (s : Int) := by omega
        have g2 : (s : Int) % 10 = (q : Int) := by omega
        have g5 : (y : Int) % 10 = (r : Int) := by omega
        have g3 : p < 10 := by omega
        have g4 : q < 10 := by omega
        have g6 : r < 10 := by omega
        have g7 : s < 100 := by omega
        have e1 : (p : Int) + 48 = ((b1.toNat : Nat) : Int) := by rw [hb1, dB_nat g3]; omega
        have e2 : (q : Int) + 48 = ((b2.toNat : Nat) : Int) := by rw [hb2, dB_nat g4]; omega
        have e3 : (r : Int) + 48 = ((b3.toNat : Nat) : Int) := by rw [hb3, dB_nat g6]; omega
        have HB1 : Hid _ := hb1
        have HB2 : Hid _ := hb2
        have HB3 : Hid _ := hb3
        have HPQ : Hid _ := hp
        have HS : Hid _ := hs
        have HQ : Hid _ := hq
        have HR : Hid _ := hr
        clear hb1 hb2 hb3 hq hr hp hs
        go_wp2_with (at_builtin; refine wpList_append_fits _ rfl (.tmp 136) (.tmp 150) 38 rfl D 5 i5 1 Tryd.underlying38 HI.out.1 HI.out.2 D (c + 1 + 1) 24 _ rfl (HU2.out.own.alloc _) ⟨v2.heap.size, 0, none⟩ 3 3 ([b1, b2, b3].map bv) rfl rfl (cell_new v2 ([b1, b2, b3].map bv) 5) (bv_one _) (by omega) ?_)
        intro v3 own1 gr1
        obtain ⟨pl3, hp⟩ : ∃ l, l = pl2 ++ [b1, b2, b3] := ⟨_, rfl⟩
        have HP3 : Hid _ := hp
        have HU3 : Hid (Txt w v3 D pl3 ((c + 1 + 1) + 3)) := by rw [Hid, hp]; exact HU2.out.add [b1, b2, b3] rfl own1 gr1
        clear own1 gr1 HU2 hp
        go_wp2_with fail
        go_ret
        refine ⟨_, rfl, ?_⟩
        have h := HU3.out
        rw [HP3.out, HP2.out, HP1.out] at h
        rw [HB1.out, HB2.out, HB3.out, HPQ.out, HQ.out, HS.out, HR.out] at h
        rw [HTX.out, HX.out, HE.out]
        simp only [List.append_assoc, List.cons_append, List.nil_append, List.map_cons, List.map_nil] at h ⊢
        exact h
set_option maxRecDepth 100000 in
set_option maxHeartbeats 4000000 in
theorem efg_01 (D B k : Nat) (u n : Nat) (dp : Int) (w : World) (hown : w.ownsRow D 5 1 (.slice (some ⟨D, 0, none⟩) 0 24) 0 []) (hB : B < w.heap.size) (hBD : B ≠ D) (hd : DigitsAt w B u n) (hk : 2 ≤ k) (hkn : k ≤ n) (hn : n ≤ 17) (h1 : -900 ≤ dp) (h2 : dp ≤ 900) :
    Calls Tryd.prog 31 #[.slice (some ⟨D, 0, none⟩) 0 24, .bool false, .slice (some ⟨B, 0, none⟩) 32 32, .int .i64 dp, .int .i64 k, .int .i64 ((k : Int) - 1), .int .u8 101, .bool true] w fun e w' =>
      ∃ c, e = .returned (.slice (some ⟨D, 0, none⟩) c 24) ∧ Txt w w' D (textT false (digs u n k) (dp - 1)) c := by
  obtain ⟨i5, hi5, hz5, hy5, hb5⟩ := info_parts Tryd.info5'
  have HI : Hid (Tryd.prog.info? 5 = some i5 ∧ i5.size = 1) := ⟨hi5, hy5⟩
  clear hi5 hz5 hy5 hb5
  have HT0 : Hid (Txt w w D [] 0) := Txt.start hown
  clear hown
  have HD : Hid (DigitsAt w B u n) := hd
  clear hd
  have x1 : ((k : Int) == 0) = false := by rw [beq_eq_false_iff_ne]; omega
  have x2 : ((k : Int) != 0) = true := by rw [bne_iff_ne]; omega
  have x3 : (0 : Int) < (k : Int) - 1 := by omega
  have x4 : decide ((k : Int) - 1 > 0) = true := by simp; omega
  have x5 : (k : Int) - 1 + 1 = (k : Int) := by omega
  have x6 : (1 : Int) < (k : Int) := by omega
  have x7 : (k : Int) ≤ 32 := by omega
  have x8 : (k : Int) - (k : Int) = 0 := by omega
  go_enter Tryd.func31, Tryd.ntmps31
  have hc0 := dig_cell HT0.out hB hBD HD.out 0 (by omega)
  obtain ⟨b0, hb0⟩ : ∃ b, b = dB (dgt u n 0) := ⟨_, rfl⟩
  rw [← hb0] at hc0
  unfold bv at hc0
  have HB0 : Hid _ := hb0
  clear hb0
  go_wp2_with (at_builtin; refine wpList_append_fits _ rfl (.tmp 87) (.tmp 89) 38 rfl D 5 i5 1 Tryd.underlying38 HI.out.1 HI.out.2 D 0 24 _ rfl (HT0.out.own.alloc _) ⟨w.heap.size, 0, none⟩ 1 1 ([b0].map bv) rfl rfl (cell_new w ([b0].map bv) 5) (bv_one _) (by omega) ?_)
  intro w2 own1 gr1
  have HT2 : Hid _ := HT0.out.add [b0] rfl own1 gr1
  clear own1 gr1 HT0
  go_wp2_with (at_builtin; refine wpList_append_fits _ rfl (.tmp 93) (.tmp 94) 38 rfl D 5 i5 1 Tryd.underlying38 HI.out.1 HI.out.2 D 1 24 _ rfl (HT2.out.own.alloc _) ⟨w2.heap.size, 0, none⟩ 1 1 ([46].map bv) rfl rfl (cell_new w2 ([46].map bv) 5) (bv_one _) (by omega) ?_)
  intro w3 own1 gr1
  have HT3 : Hid _ := HT2.out.add [46] rfl own1 gr1
  clear own1 gr1 HT2
  obtain ⟨dl, hdl⟩ : ∃ l, l = ((digs u n k).drop 1).map dB := ⟨_, rfl⟩
  have HDL : Hid _ := hdl
  have hdll : dl.length = k - 1 := by rw [hdl, List.length_map, List.length_drop, digs_len]
  have HDC : Hid (∀ j v, (dl.map bv)[j]? = some v → w3.cell? ((⟨B, 1, none⟩ : Addr).add j) = some v) := by
    intro j v hv
    rw [hdl] at hv
    have hj : j < k - 1 := by
      have := (List.getElem?_eq_some_iff.1 hv).1
      simpa [digs_len] using this
    rw [Addr.add_lit, dig_cell HT3.out hB hBD HD.out (1 + j) (by omega)]
    rw [← hv]
    simp only [List.getElem?_map, List.getElem?_drop, digs]
    rw [List.getElem?_range (by omega)]
    rfl
  clear hdl
  go_wp2_with (at_builtin; refine wpList_append_fits _ rfl (.tmp 103) (.tmp 107) 38 rfl D 5 i5 1 Tryd.underlying38 HI.out.1 HI.out.2 D 2 24 _ rfl (HT3.out.own) ⟨B, 1, none⟩ (k - 1) 31 (dl.map bv) rfl (by rw [List.length_map, hdll, Nat.mul_one]) HDC.out (bv_one _) (by omega) ?_)
  intro w4 own1 gr1
  have HT4 : Hid _ := HT3.out.add0 dl hdll own1 gr1
  clear own1 gr1 HT3 HDC
  obtain ⟨pl, hpl⟩ : ∃ l, l = [b0] ++ [46] ++ dl := ⟨_, rfl⟩
  obtain ⟨c, hc⟩ : ∃ c, c = 2 + (k - 1) := ⟨_, rfl⟩
  have HTX : Hid (textT false (digs u n k) (dp - 1) = pl ++ expT (dp - 1)) := by
    rw [Hid, hpl, HDL.out, HB0.out, textT, mantT_many (by rw [digs_len]; exact hk)]
    simp [signT, digs]
  have HT5 : Hid (Txt w w4 D pl c) := by rw [Hid, hpl, hc]; exact HT4.out
  have hcb : c ≤ 19 := by omega
  clear HT4 hpl HDL HB0 hdll
  go_wp2_with fail
  rw [← hc]
  clear hc
  go_loop [0, 114] (fun dv jv => dv = .slice (some ⟨D, 0, none⟩) c 24 ∧ jv = .int .i64 0) (fun _ _ => 0)
  case atStart => exact ⟨rfl, rfl⟩
  case round =>
  obtain ⟨rfl, rfl⟩ := hrel
  go_wp2_with (at_builtin; refine wpList_append_fits _ rfl (.tmp 120) (.tmp 122) 38 rfl D 5 i5 1 Tryd.underlying38 HI.out.1 HI.out.2 D c 24 _ rfl (HT5.out.own.alloc _) ⟨w4.heap.size, 0, none⟩ 1 1 ([101].map bv) rfl rfl (cell_new w4 ([101].map bv) 5) (bv_one _) (by omega) ?_)
  intro v1 own1 gr1
  obtain ⟨pl1, hp⟩ : ∃ l, l = pl ++ [101] := ⟨_, rfl⟩
  have HP1 : Hid _ := hp
  have HU1 : Hid (Txt w v1 D pl1 (c + 1)) := by rw [Hid, hp]; exact HT5.out.add [101] rfl own1 gr1
  clear own1 gr1 HT5 hp
  by_cases hx : dp - 1 < 0
  · obtain ⟨y, hy⟩ : ∃ y : Nat, (y : Int) = -(dp - 1) := ⟨(-(dp - 1)).toNat, by omega⟩
    have a1 : -(dp - 1) = (y : Int) := hy.symm
    have a2 : decide (dp - 1 < 0) = true := by simp; omega
    have HX : Hid (expT (dp - 1) = 101 :: 45 :: (expL y).map dB) := by
      rw [Hid, expT, if_pos hx, show (dp - 1).natAbs = y by omega]
    have hyb : y < 1000 := by omega
    clear hy
    go_wp2_with (at_builtin; refine wpList_append_fits _ rfl (.tmp 132) (.tmp 134) 38 rfl D 5 i5 1 Tryd.underlying38 HI.out.1 HI.out.2 D (c + 1) 24 _ rfl (HU1.out.own.alloc _) ⟨v1.heap.size, 0, none⟩ 1 1 ([45].map bv) rfl rfl (cell_new v1 ([45].map bv) 5) (bv_one _) (by omega) ?_)
    intro v2 own1 gr1
    obtain ⟨pl2, hp⟩ : ∃ l, l = pl1 ++ [45] := ⟨_, rfl⟩
    have HP2 : Hid _ := hp
    have HU2 : Hid (Txt w v2 D pl2 ((c + 1) + 1)) := by rw [Hid, hp]; exact HU1.out.add [45] rfl own1 gr1
    clear own1 gr1 HU1 hp
    clear a1 a2 hx
    by_cases h10 : y < 10
    · have f1 : (y : Int) < 10 := by omega
      have HE : Hid (expL y = [0, y]) := by rw [Hid, expL, if_pos h10]
      obtain ⟨b1, hb1⟩ : ∃ b, b = dB y := ⟨_, rfl⟩
      have e1 : (y : Int) + 48 = ((b1.toNat : Nat) : Int) := by rw [hb1, dB_nat (by omega)]; omega
      have HB1 : Hid _ := hb1
      clear hb1
      go_wp2_with (at_builtin; refine wpList_append_fits _ rfl (.tmp 155) (.tmp 159) 38 rfl D 5 i5 1 Tryd.underlying38 HI.out.1 HI.out.2 D (c + 1 + 1) 24 _ rfl (HU2.out.own.alloc _) ⟨v2.heap.size, 0, none⟩ 2 2 ([48, b1].map bv) rfl rfl (cell_new v2 ([48, b1].map bv) 5) (bv_one _) (by omega) ?_)
      intro v3 own1 gr1
      obtain ⟨pl3, hp⟩ : ∃ l, l = pl2 ++ [48, b1] := ⟨_, rfl⟩
      have HP3 : Hid _ := hp
      have HU3 : Hid (Txt w v3 D pl3 ((c + 1 + 1) + 2)) := by rw [Hid, hp]; exact HU2.out.add [48, b1] rfl own1 gr1
      clear own1 gr1 HU2 hp
      go_wp2_with fail
      go_ret
      refine ⟨_, rfl, ?_⟩
      have h := HU3.out
      rw [HP3.out, HP2.out, HP1.out] at h
      rw [HB1.out] at h
      rw [HTX.out, HX.out, HE.out]
      simp only [List.append_assoc, List.cons_append, List.nil_append, List.map_cons, List.map_nil, dB_zero] at h ⊢
      exact h
    · have f0 : ¬ (y : Int) < 10 := by omega
      have f0' : decide ((y : Int) < 10) = false := by simp; omega
      by_cases h100 : y < 100
      · have f1 : (y : Int) < 100 := by omega
        have HE : Hid (expL y = [y / 10, y % 10]) := by rw [Hid, expL, if_neg h10, if_pos h100]
        obtain ⟨q, hq⟩ : ∃ q, q = y / 10 := ⟨_, rfl⟩
        obtain ⟨r, hr⟩ : ∃ r, r = y % 10 := ⟨_, rfl⟩
        obtain ⟨b1, hb1⟩ : ∃ b, b = dB q := ⟨_, rfl⟩
        obtain ⟨b2, hb2⟩ : ∃ b, b = dB r := ⟨_, rfl⟩
        have g1 : (y : Int) / 10 = (q : Int) := by omega
        have g2 : (y : Int) % 10 = (r : Int) := by omega
        have g3 : q < 10 := by omega
        have g4 : r < 10 := by omega
        have e1 : (q : Int) + 48 = ((b1.toNat : Nat) : Int) := by rw [hb1, dB_nat g3]; omega
        have e2 : (r : Int) + 48 = ((b2.toNat : Nat) : Int) := by rw [hb2, dB_nat g4]; omega
        have HB1 : Hid _ := hb1
        have HB2 : Hid _ := hb2
        have HQ : Hid _ := hq
        have HR : Hid _ := hr
        clear hb1 hb2 hq hr
        go_wp2_with (at_builtin; refine wpList_append_fits _ rfl (.tmp 164) (.tmp 173) 38 rfl D 5 i5 1 Tryd.underlying38 HI.out.1 HI.out.2 D (c + 1 + 1) 24 _ rfl (HU2.out.own.alloc _) ⟨v2.heap.size, 0, none⟩ 2 2 ([b1, b2].map bv) rfl rfl (cell_new v2 ([b1, b2].map bv) 5) (bv_one _) (by omega) ?_)
        intro v3 own1 gr1
        obtain ⟨pl3, hp⟩ : ∃ l, l = pl2 ++ [b1, b2] := ⟨_, rfl⟩
        have HP3 : Hid _ := hp
        have HU3 : Hid (Txt w v3 D pl3 ((c + 1 + 1) + 2)) := by rw [Hid, hp]; exact HU2.out.add [b1, b2] rfl own1 gr1
        clear own1 gr1 HU2 hp
        go_wp2_with fail
        go_ret
        refine ⟨_, rfl, ?_⟩
        have h := HU3.out
        rw [HP3.out, HP2.out, HP1.out] at h
        rw [HB1.out, HB2.out, HQ.out, HR.out] at h
        rw [HTX.out, HX.out, HE.out]
        simp only [List.append_assoc, List.cons_append, List.nil_append, List.map_cons, List.map_nil] at h ⊢
        exact h
      · have f1 : ¬ (y : Int) < 100 := by omega
        have f1' : decide ((y : Int) < 100) = false := by simp; omega
        have HE : Hid (expL y = [y / 100, y / 10 % 10, y % 10]) := by rw [Hid, expL, if_neg h10, if_neg h100]
        obtain ⟨p, hp⟩ : ∃ p, p = y / 100 := ⟨_, rfl⟩
        obtain ⟨s, hs⟩ : ∃ s, s = y / 10 := ⟨_, rfl⟩
        obtain ⟨q, hq⟩ : ∃ q, q = s % 10 := ⟨_, rfl⟩
        obtain ⟨r, hr⟩ : ∃ r, r = y % 10 := ⟨_, rfl⟩
        obtain ⟨b1, hb1⟩ : ∃ b, b = dB p := ⟨_, rfl⟩
        obtain ⟨b2, hb2⟩ : ∃ b, b = dB q := ⟨_, rfl⟩
        obtain ⟨b3, hb3⟩ : ∃ b, b = dB r := ⟨_, rfl⟩
        have g1 : (y : Int) / 100 = (p : Int) := by omega
        have g0 : (y : Int) / 10 = (s : Int) := by omega
        have g2 : (s : Int) % 10 = (q : Int) := by omega
        have g5 : (y : Int) % 10 = (r : Int) := by omega
        have g3 : p < 10 := by omega
        have g4 : q < 10 := by omega
        have g6 : r < 10 := by omega
        have g7 : s < 100 := by omega
        have e1 : (p : Int) + 48 = ((b1.toNat : Nat) : Int) := by rw [hb1, dB_nat g3]; omega
        have e2 : (q : Int) + 48 = ((b2.toNat : Nat) : Int) := by rw [hb2, dB_nat g4]; omega
        have e3 : (r : Int) + 48 = ((b3.toNat : Nat) : Int) := by rw [hb3, dB_nat g6]; omega
        have HB1 : Hid _ := hb1
        have HB2 : Hid _ := hb2
        have HB3 : Hid _ := hb3
        have HPQ : Hid _ := hp
        have HS : Hid _ := hs
        have HQ : Hid _ := hq
        have HR : Hid _ := hr
        clear hb1 hb2 hb3 hq hr hp hs
        go_wp2_with (at_builtin; refine wpList_append_fits _ rfl (.tmp 136) (.tmp 150) 38 rfl D 5 i5 1 Tryd.underlying38 HI.out.1 HI.out.2 D (c + 1 + 1) 24 _ rfl (HU2.out.own.alloc _) ⟨v2.heap.size, 0, none⟩ 3 3 ([b1, b2, b3].map bv) rfl rfl (cell_new v2 ([b1, b2, b3].map bv) 5) (bv_one _) (by omega) ?_)
        intro v3 own1 gr1
        obtain ⟨pl3, hp⟩ : ∃ l, l = pl2 ++ [b1, b2, b3] := ⟨_, rfl⟩
        have HP3 : Hid _ := hp
        have HU3 : Hid (Txt w v3 D pl3 ((c + 1 + 1) + 3)) := by rw [Hid, hp]; exact HU2.out.add [b1, b2, b3] rfl own1 gr1
        clear own1 gr1 HU2 hp
        go_wp2_with fail
        go_ret
        refine ⟨_, rfl, ?_⟩
        have h := HU3.out
        rw [HP3.out, HP2.out, HP1.out] at h
        rw [HB1.out, HB2.out, HB3.out, HPQ.out, HQ.out, HS.out, HR.out] at h
        rw [HTX.out, HX.out, HE.out]
        simp only [List.append_assoc, List.cons_append, List.nil_append, List.map_cons, List.map_nil] at h ⊢
        exact h
  · obtain ⟨y, hy⟩ : ∃ y : Nat, (y : Int) = dp - 1 := ⟨(dp - 1).toNat, by omega⟩
    have a1 : dp - 1 = (y : Int) := hy.symm
    have a2 : decide (dp - 1 < 0) = false := by simp; omega
    have HX : Hid (expT (dp - 1) = 101 :: 43 :: (expL y).map dB) := by
      rw [Hid, expT, if_neg hx, show (dp - 1).natAbs = y by omega]
    have hyb : y < 1000 := by omega
    clear hy
    go_wp2_with (at_builtin; refine wpList_append_fits _ rfl (.tmp 132) (.tmp 134) 38 rfl D 5 i5 1 Tryd.underlying38 HI.out.1 HI.out.2 D (c + 1) 24 _ rfl (HU1.out.own.alloc _) ⟨v1.heap.size, 0, none⟩ 1 1 ([43].map bv) rfl rfl (cell_new v1 ([43].map bv) 5) (bv_one _) (by omega) ?_)
    intro v2 own1 gr1
    obtain ⟨pl2, hp⟩ : ∃ l, l = pl1 ++ [43] := ⟨_, rfl⟩
    have HP2 : Hid _ := hp
    have HU2 : Hid (Txt w v2 D pl2 ((c + 1) + 1)) := by rw [Hid, hp]; exact HU1.out.add [43] rfl own1 gr1
    clear own1 gr1 HU1 hp
    clear a1 a2 hx
    by_cases h10 : y < 10
    · have f1 : (y : Int) < 10 := by omega
      have HE : Hid (expL y = [0, y]) := by rw [Hid, expL, if_pos h10]
      obtain ⟨b1, hb1⟩ : ∃ b, b = dB y := ⟨_, rfl⟩
      have e1 : (y : Int) + 48 = ((b1.toNat : Nat) : Int) := by rw [hb1, dB_nat (by omega)]; omega
      have HB1 : Hid _ := hb1
      clear hb1
      go_wp2_with (at_builtin; refine wpList_append_fits _ rfl (.tmp 155) (.tmp 159) 38 rfl D 5 i5 1 Tryd.underlying38 HI.out.1 HI.out.2 D (c + 1 + 1) 24 _ rfl (HU2.out.own.alloc _) ⟨v2.heap.size, 0, none⟩ 2 2 ([48, b1].map bv) rfl rfl (cell_new v2 ([48, b1].map bv) 5) (bv_one _) (by omega) ?_)
      intro v3 own1 gr1
      obtain ⟨pl3, hp⟩ : ∃ l, l = pl2 ++ [48, b1] := ⟨_, rfl⟩
      have HP3 : Hid _ := hp
      have HU3 : Hid (Txt w v3 D pl3 ((c + 1 + 1) + 2)) := by rw [Hid, hp]; exact HU2.out.add [48, b1] rfl own1 gr1
      clear own1 gr1 HU2 hp
      go_wp2_with fail
      go_ret
      refine ⟨_, rfl, ?_⟩
      have h := HU3.out
      rw [HP3.out, HP2.out, HP1.out] at h
      rw [HB1.out] at h
      rw [HTX.out, HX.out, HE.out]
      simp only [List.append_assoc, List.cons_append, List.nil_append, List.map_cons, List.map_nil, dB_zero] at h ⊢
      exact h
    · have f0 : ¬ (y : Int) < 10 := by omega
      have f0' : decide ((y : Int) < 10) = false := by simp; omega
      by_cases h100 : y < 100
      · have f1 : (y : Int) < 100 := by omega
        have HE : Hid (expL y = [y / 10, y % 10]) := by rw [Hid, expL, if_neg h10, if_pos h100]
        obtain ⟨q, hq⟩ : ∃ q, q = y / 10 := ⟨_, rfl⟩
        obtain ⟨r, hr⟩ : ∃ r, r = y % 10 := ⟨_, rfl⟩
        obtain ⟨b1, hb1⟩ : ∃ b, b = dB q := ⟨_, rfl⟩
        obtain ⟨b2, hb2⟩ : ∃ b, b = dB r := ⟨_, rfl⟩
        have g1 : (y : Int) / 10 = (q : Int) := by omega
        have g2 : (y : Int) % 10 = (r : Int) := by omega
        have g3 : q < 10 := by omega
        have g4 : r < 10 := by omega
        have e1 : (q : Int) + 48 = ((b1.toNat : Nat) : Int) := by rw [hb1, dB_nat g3]; omega
        have e2 : (r : Int) + 48 = ((b2.toNat : Nat) : Int) := by rw [hb2, dB_nat g4]; omega
        have HB1 : Hid _ := hb1
        have HB2 : Hid _ := hb2
        have HQ : Hid _ := hq
        have HR : Hid _ := hr
        clear hb1 hb2 hq hr
        go_wp2_with (at_builtin; refine wpList_append_fits _ rfl (.tmp 164) (.tmp 173) 38 rfl D 5 i5 1 Tryd.underlying38 HI.out.1 HI.out.2 D (c + 1 + 1) 24 _ rfl (HU2.out.own.alloc _) ⟨v2.heap.size, 0, none⟩ 2 2 ([b1, b2].map bv) rfl rfl (cell_new v2 ([b1, b2].map bv) 5) (bv_one _) (by omega) ?_)
        intro v3 own1 gr1
        obtain ⟨pl3, hp⟩ : ∃ l, l = pl2 ++ [b1, b2] := ⟨_, rfl⟩
        have HP3 : Hid _ := hp
        have HU3 : Hid (Txt w v3 D pl3 ((c + 1 + 1) + 2)) := by rw [Hid, hp]; exact HU2.out.add [b1, b2] rfl own1 gr1
        clear own1 gr1 HU2 hp
        go_wp2_with fail
        go_ret
        refine ⟨_, rfl, ?_⟩
        have h := HU3.out
        rw [HP3.out, HP2.out, HP1.out] at h
        rw [HB1.out, HB2.out, HQ.out, HR.out] at h
        rw [HTX.out, HX.out, HE.out]
        simp only [List.append_assoc, List.cons_append, List.nil_append, List.map_cons, List.map_nil] at h ⊢
        exact h
      · have f1 : ¬ (y : Int) < 100 := by omega
        have f1' : decide ((y : Int) < 100) = false := by simp; omega
        have HE : Hid (expL y = [y / 100, y / 10 % 10, y % 10]) := by rw [Hid, expL, if_neg h10, if_neg h100]
        obtain ⟨p, hp⟩ : ∃ p, p = y / 100 := ⟨_, rfl⟩
        obtain ⟨s, hs⟩ : ∃ s, s = y / 10 := ⟨_, rfl⟩
        obtain ⟨q, hq⟩ : ∃ q, q = s % 10 := ⟨_, rfl⟩
        obtain ⟨r, hr⟩ : ∃ r, r = y % 10 := ⟨_, rfl⟩
        obtain ⟨b1, hb1⟩ : ∃ b, b = dB p := ⟨_, rfl⟩
        obtain ⟨b2, hb2⟩ : ∃ b, b = dB q := ⟨_, rfl⟩
        obtain ⟨b3, hb3⟩ : ∃ b, b = dB r := ⟨_, rfl⟩
        have g1 : (y : Int) / 100 = (p : Int) := by omega
        have g0 : (y : Int) / 10 = (s : Int) := by omega
        have g2 : (s : Int) % 10 = (q : Int) := by omega
        have g5 : (y : Int) % 10 = (r : Int) := by omega
        have g3 : p < 10 := by omega
        have g4 : q < 10 := by omega
        have g6 : r < 10 := by omega
        have g7 : s < 100 := by omega
        have e1 : (p : Int) + 48 = ((b1.toNat : Nat) : Int) := by rw [hb1, dB_nat g3]; omega
        have e2 : (q : Int) + 48 = ((b2.toNat : Nat) : Int) := by rw [hb2, dB_nat g4]; omega
        have e3 : (r : Int) + 48 = ((b3.toNat : Nat) : Int) := by rw [hb3, dB_nat g6]; omega
        have HB1 : Hid _ := hb1
        have HB2 : Hid _ := hb2
        have HB3 : Hid _ := hb3
        have HPQ : Hid _ := hp
        have HS : Hid _ := hs
        have HQ : Hid _ := hq
        have HR : Hid _ := hr
        clear hb1 hb2 hb3 hq hr hp hs
        go_wp2_with (at_builtin; refine wpList_append_fits _ rfl (.tmp 136) (.tmp 150) 38 rfl D 5 i5 1 Tryd.underlying38 HI.out.1 HI.out.2 D (c + 1 + 1) 24 _ rfl (HU2.out.own.alloc _) ⟨v2.heap.size, 0, none⟩ 3 3 ([b1, b2, b3].map bv) rfl rfl (cell_new v2 ([b1, b2, b3].map bv) 5) (bv_one _) (by omega) ?_)
        intro v3 own1 gr1
        obtain ⟨pl3, hp⟩ : ∃ l, l = pl2 ++ [b1, b2, b3] := ⟨_, rfl⟩
        have HP3 : Hid _ := hp
        have HU3 : Hid (Txt w v3 D pl3 ((c + 1 + 1) + 3)) := by rw [Hid, hp]; exact HU2.out.add [b1, b2, b3] rfl own1 gr1
        clear own1 gr1 HU2 hp
        go_wp2_with fail
        go_ret
        refine ⟨_, rfl, ?_⟩
        have h := HU3.out
        rw [HP3.out, HP2.out, HP1.out] at h
        rw [HB1.out, HB2.out, HB3.out, HPQ.out, HQ.out, HS.out, HR.out] at h
        rw [HTX.out, HX.out, HE.out]
        simp only [List.append_assoc, List.cons_append, List.nil_append, List.map_cons, List.map_nil] at h ⊢
        exact h
set_option maxRecDepth 100000 in
set_option maxHeartbeats 4000000 in
theorem efg_10 (D B k : Nat) (u n : Nat) (dp : Int) (w : World) (hown : w.ownsRow D 5 1 (.slice (some ⟨D, 0, none⟩) 0 24) 0 []) (hB : B < w.heap.size) (hBD : B ≠ D) (hd : DigitsAt w B u n) (hk : k = 1) (hkn : k ≤ n) (hn : n ≤ 17) (h1 : -900 ≤ dp) (h2 : dp ≤ 900) :
    Calls Tryd.prog 31 #[.slice (some ⟨D, 0, none⟩) 0 24, .bool true, .slice (some ⟨B, 0, none⟩) 32 32, .int .i64 dp, .int .i64 k, .int .i64 ((k : Int) - 1), .int .u8 101, .bool true] w fun e w' =>
      ∃ c, e = .returned (.slice (some ⟨D, 0, none⟩) c 24) ∧ Txt w w' D (textT true (digs u n k) (dp - 1)) c := by
  obtain ⟨i5, hi5, hz5, hy5, hb5⟩ := info_parts Tryd.info5'
  have HI : Hid (Tryd.prog.info? 5 = some i5 ∧ i5.size = 1) := ⟨hi5, hy5⟩
  clear hi5 hz5 hy5 hb5
  have HT0 : Hid (Txt w w D [] 0) := Txt.start hown
  clear hown
  have HD : Hid (DigitsAt w B u n) := hd
  clear hd
  subst hk
  go_enter Tryd.func31, Tryd.ntmps31
  go_wp2_with (at_builtin; refine wpList_append_fits _ rfl (.tmp 79) (.tmp 80) 38 rfl D 5 i5 1 Tryd.underlying38 HI.out.1 HI.out.2 D 0 24 _ rfl (HT0.out.own.alloc _) ⟨w.heap.size, 0, none⟩ 1 1 ([45].map bv) rfl rfl (cell_new w ([45].map bv) 5) (bv_one _) (by omega) ?_)
  intro w1 own1 gr1
  have HT1 : Hid _ := HT0.out.add [45] rfl own1 gr1
  clear own1 gr1 HT0
  have hc0 := dig_cell HT1.out hB hBD HD.out 0 (by omega)
  obtain ⟨b0, hb0⟩ : ∃ b, b = dB (dgt u n 0) := ⟨_, rfl⟩
  rw [← hb0] at hc0
  unfold bv at hc0
  have HB0 : Hid _ := hb0
  clear hb0
  go_wp2_with (at_builtin; refine wpList_append_fits _ rfl (.tmp 87) (.tmp 89) 38 rfl D 5 i5 1 Tryd.underlying38 HI.out.1 HI.out.2 D 1 24 _ rfl (HT1.out.own.alloc _) ⟨w1.heap.size, 0, none⟩ 1 1 ([b0].map bv) rfl rfl (cell_new w1 ([b0].map bv) 5) (bv_one _) (by omega) ?_)
  intro w2 own1 gr1
  have HT2 : Hid _ := HT1.out.add [b0] rfl own1 gr1
  clear own1 gr1 HT1
  obtain ⟨pl, hpl⟩ : ∃ l, l = [45] ++ [b0] := ⟨_, rfl⟩
  have HTX : Hid (textT true (digs u n 1) (dp - 1) = pl ++ expT (dp - 1)) := by
    rw [Hid, hpl, HB0.out, textT, mantT_one (by rw [digs_len])]
    simp [signT, digs]
  have HT5 : Hid (Txt w w2 D pl 2) := by rw [Hid, hpl]; exact HT2.out
  clear HT2 hpl HB0
  go_wp2_with (at_builtin; refine wpList_append_fits _ rfl (.tmp 120) (.tmp 122) 38 rfl D 5 i5 1 Tryd.underlying38 HI.out.1 HI.out.2 D 2 24 _ rfl (HT5.out.own.alloc _) ⟨w2.heap.size, 0, none⟩ 1 1 ([101].map bv) rfl rfl (cell_new w2 ([101].map bv) 5) (bv_one _) (by omega) ?_)
  intro v1 own1 gr1
  obtain ⟨pl1, hp⟩ : ∃ l, l = pl ++ [101] := ⟨_, rfl⟩
  have HP1 : Hid _ := hp
  have HU1 : Hid (Txt w v1 D pl1 (2 + 1)) := by rw [Hid, hp]; exact HT5.out.add [101] rfl own1 gr1
  clear own1 gr1 HT5 hp
  by_cases hx : dp - 1 < 0
  · obtain ⟨y, hy⟩ : ∃ y : Nat, (y : Int) = -(dp - 1) := ⟨(-(dp - 1)).toNat, by omega⟩
    have a1 : -(dp - 1) = (y : Int) := hy.symm
    have a2 : decide (dp - 1 < 0) = true := by simp; omega
    have HX : Hid (expT (dp - 1) = 101 :: 45 :: (expL y).map dB) := by
      rw [Hid, expT, if_pos hx, show (dp - 1).natAbs = y by omega]
    have hyb : y < 1000 := by omega
    clear hy
    go_wp2_with (at_builtin; refine wpList_append_fits _ rfl (.tmp 132) (.tmp 134) 38 rfl D 5 i5 1 Tryd.underlying38 HI.out.1 HI.out.2 D (2 + 1) 24 _ rfl (HU1.out.own.alloc _) ⟨v1.heap.size, 0, none⟩ 1 1 ([45].map bv) rfl rfl (cell_new v1 ([45].map bv) 5) (bv_one _) (by omega) ?_)
    intro v2 own1 gr1
    obtain ⟨pl2, hp⟩ : ∃ l, l = pl1 ++ [45] := ⟨_, rfl⟩
    have HP2 : Hid _ := hp
    have HU2 : Hid (Txt w v2 D pl2 ((2 + 1) + 1)) := by rw [Hid, hp]; exact HU1.out.add [45] rfl own1 gr1
    clear own1 gr1 HU1 hp
    clear a1 a2 hx
    by_cases h10 : y < 10
    · have f1 : (y : Int) < 10 := by omega
      have HE : Hid (expL y = [0, y]) := by rw [Hid, expL, if_pos h10]
      obtain ⟨b1, hb1⟩ : ∃ b, b = dB y := ⟨_, rfl⟩
      have e1 : (y : Int) + 48 = ((b1.toNat : Nat) : Int) := by rw [hb1, dB_nat (by omega)]; omega
      have HB1 : Hid _ := hb1
      clear hb1
      go_wp2_with (at_builtin; refine wpList_append_fits _ rfl (.tmp 155) (.tmp 159) 38 rfl D 5 i5 1 Tryd.underlying38 HI.out.1 HI.out.2 D (2 + 1 + 1) 24 _ rfl (HU2.out.own.alloc _) ⟨v2.heap.size, 0, none⟩ 2 2 ([48, b1].map bv) rfl rfl (cell_new v2 ([48, b1].map bv) 5) (bv_one _) (by omega) ?_)
      intro v3 own1 gr1
      obtain ⟨pl3, hp⟩ : ∃ l, l = pl2 ++ [48, b1] := ⟨_, rfl⟩
      have HP3 : Hid _ := hp
      have HU3 : Hid (Txt w v3 D pl3 ((2 + 1 + 1) + 2)) := by rw [Hid, hp]; exact HU2.out.add [48, b1] rfl own1 gr1
      clear own1 gr1 HU2 hp
      go_wp2_with fail
      go_ret
      refine ⟨_, rfl, ?_⟩
      have h := HU3.out
      rw [HP3.out, HP2.out, HP1.out] at h
      rw [HB1.out] at h
      rw [HTX.out, HX.out, HE.out]
      simp only [List.append_assoc, List.cons_append, List.nil_append, List.map_cons, List.map_nil, dB_zero] at h ⊢
      exact h
    · have f0 : ¬ (y : Int) < 10 := by omega
      have f0' : decide ((y : Int) < 10) = false := by simp; omega
      by_cases h100 : y < 100
      · have f1 : (y : Int) < 100 := by omega
        have HE : Hid (expL y = [y / 10, y % 10]) := by rw [Hid, expL, if_neg h10, if_pos h100]
        obtain ⟨q, hq⟩ : ∃ q, q = y / 10 := ⟨_, rfl⟩
        obtain ⟨r, hr⟩ : ∃ r, r = y % 10 := ⟨_, rfl⟩
        obtain ⟨b1, hb1⟩ : ∃ b, b = dB q := ⟨_, rfl⟩
        obtain ⟨b2, hb2⟩ : ∃ b, b = dB r := ⟨_, rfl⟩
        have g1 : (y : Int) / 10 = (q : Int) := by omega
        have g2 : (y : Int) % 10 = (r : Int) := by omega
        have g3 : q < 10 := by omega
        have g4 : r < 10 := by omega
        have e1 : (q : Int) + 48 = ((b1.toNat : Nat) : Int) := by rw [hb1, dB_nat g3]; omega
        have e2 : (r : Int) + 48 = ((b2.toNat : Nat) : Int) := by rw [hb2, dB_nat g4]; omega
        have HB1 : Hid _ := hb1
        have HB2 : Hid _ := hb2
        have HQ : Hid _ := hq
        have HR : Hid _ := hr
        clear hb1 hb2 hq hr
        go_wp2_with (at_builtin; refine wpList_append_fits _ rfl (.tmp 164) (.tmp 173) 38 rfl D 5 i5 1 Tryd.underlying38 HI.out.1 HI.out.2 D (2 + 1 + 1) 24 _ rfl (HU2.out.own.alloc _) ⟨v2.heap.size, 0, none⟩ 2 2 ([b1, b2].map bv) rfl rfl (cell_new v2 ([b1, b2].map bv) 5) (bv_one _) (by omega) ?_)
        intro v3 own1 gr1
        obtain ⟨pl3, hp⟩ : ∃ l, l = pl2 ++ [b1, b2] := ⟨_, rfl⟩
        have HP3 : Hid _ := hp
        have HU3 : Hid (Txt w v3 D pl3 ((2 + 1 + 1) + 2)) := by rw [Hid, hp]; exact HU2.out.add [b1, b2] rfl own1 gr1
        clear own1 gr1 HU2 hp
        go_wp2_with fail
        go_ret
        refine ⟨_, rfl, ?_⟩
        have h := HU3.out
        rw [HP3.out, HP2.out, HP1.out] at h
        rw [HB1.out, HB2.out, HQ.out, HR.out] at h
        rw [HTX.out, HX.out, HE.out]
        simp only [List.append_assoc, List.cons_append, List.nil_append, List.map_cons, List.map_nil] at h ⊢
        exact h
      · have f1 : ¬ (y : Int) < 100 := by omega
        have f1' : decide ((y : Int) < 100) = false := by simp; omega
        have HE : Hid (expL y = [y / 100, y / 10 % 10, y % 10]) := by rw [Hid, expL, if_neg h10, if_neg h100]
        obtain ⟨p, hp⟩ : ∃ p, p = y / 100 := ⟨_, rfl⟩
        obtain ⟨s, hs⟩ : ∃ s, s = y / 10 := ⟨_, rfl⟩
        obtain ⟨q, hq⟩ : ∃ q, q = s % 10 := ⟨_, rfl⟩
        obtain ⟨r, hr⟩ : ∃ r, r = y % 10 := ⟨_, rfl⟩
        obtain ⟨b1, hb1⟩ : ∃ b, b = dB p := ⟨_, rfl⟩
        obtain ⟨b2, hb2⟩ : ∃ b, b = dB q := ⟨_, rfl⟩
        obtain ⟨b3, hb3⟩ : ∃ b, b = dB r := ⟨_, rfl⟩
        have g1 : (y : Int) / 100 = (p : Int) := by omega
        have g0 : (y : Int) / 10 = (s : Int) := by omega
        have g2 : (s : Int) % 10 = (q : Int) := by omega
        have g5 : (y : Int) % 10 = (r : Int) := by omega
        have g3 : p < 10 := by omega
        have g4 : q < 10 := by omega
        have g6 : r < 10 := by omega
        have g7 : s < 100 := by omega
        have e1 : (p : Int) + 48 = ((b1.toNat : Nat) : Int) := by rw [hb1, dB_nat g3]; omega
        have e2 : (q : Int) + 48 = ((b2.toNat : Nat) : Int) := by rw [hb2, dB_nat g4]; omega
        have e3 : (r : Int) + 48 = ((b3.toNat : Nat) : Int) := by rw [hb3, dB_nat g6]; omega
        have HB1 : Hid _ := hb1
        have HB2 : Hid _ := hb2
        have HB3 : Hid _ := hb3
        have HPQ : Hid _ := hp
        have HS : Hid _ := hs
        have HQ : Hid _ := hq
        have HR : Hid _ := hr
        clear hb1 hb2 hb3 hq hr hp hs
        go_wp2_with (at_builtin; refine wpList_append_fits _ rfl (.tmp 136) (.tmp 150) 38 rfl D 5 i5 1 Tryd.underlying38 HI.out.1 HI.out.2 D (2 + 1 + 1) 24 _ rfl (HU2.out.own.alloc _) ⟨v2.heap.size, 0, none⟩ 3 3 ([b1, b2, b3].map bv) rfl rfl (cell_new v2 ([b1, b2, b3].map bv) 5) (bv_one _) (by omega) ?_)
        intro v3 own1 gr1
        obtain ⟨pl3, hp⟩ : ∃ l, l = pl2 ++ [b1, b2, b3] := ⟨_, rfl⟩
        have HP3 : Hid _ := hp
        have HU3 : Hid (Txt w v3 D pl3 ((2 + 1 + 1) + 3)) := by rw [Hid, hp]; exact HU2.out.add [b1, b2, b3] rfl own1 gr1
        clear own1 gr1 HU2 hp
        go_wp2_with fail
        go_ret
        refine ⟨_, rfl, ?_⟩
        have h := HU3.out
        rw [HP3.out, HP2.out, HP1.out] at h
        rw [HB1.out, HB2.out, HB3.out, HPQ.out, HQ.out, HS.out, HR.out] at h
        rw [HTX.out, HX.out, HE.out]
        simp only [List.append_assoc, List.cons_append, List.nil_append, List.map_cons, List.map_nil] at h ⊢
        exact h
  · obtain ⟨y, hy⟩ : ∃ y : Nat, (y : Int) = dp - 1 := ⟨(dp - 1).toNat, by omega⟩
    have a1 : dp - 1 = (y : Int) := hy.symm
    have a2 : decide (dp - 1 < 0) = false := by simp; omega
    have HX : Hid (expT (dp - 1) = 101 :: 43 :: (expL y).map dB) := by
      rw [Hid, expT, if_neg hx, show (dp - 1).natAbs = y by omega]
    have hyb : y < 1000 := by omega
    clear hy
    go_wp2_with (at_builtin; refine wpList_append_fits _ rfl (.tmp 132) (.tmp 134) 38 rfl D 5 i5 1 Tryd.underlying38 HI.out.1 HI.out.2 D (2 + 1) 24 _ rfl (HU1.out.own.alloc _) ⟨v1.heap.size, 0, none⟩ 1 1 ([43].map bv) rfl rfl (cell_new v1 ([43].map bv) 5) (bv_one _) (by omega) ?_)
    intro v2 own1 gr1
    obtain ⟨pl2, hp⟩ : ∃ l, l = pl1 ++ [43] := ⟨_, rfl⟩
    have HP2 : Hid _ := hp
    have HU2 : Hid (Txt w v2 D pl2 ((2 + 1) + 1)) := by rw [Hid, hp]; exact HU1.out.add [43] rfl own1 gr1
    clear own1 gr1 HU1 hp
    clear a1 a2 hx
    by_cases h10 : y < 10
    · have f1 : (y : Int) < 10 := by omega
      have HE : Hid (expL y = [0, y]) := by rw [Hid, expL, if_pos h10]
      obtain ⟨b1, hb1⟩ : ∃ b, b = dB y := ⟨_, rfl⟩
      have e1 : (y : Int) + 48 = ((b1.toNat : Nat) : Int) := by rw [hb1, dB_nat (by omega)]; omega
      have HB1 : Hid _ := hb1
      clear hb1
      go_wp2_with (at_builtin; refine wpList_append_fits _ rfl (.tmp 155) (.tmp 159) 38 rfl D 5 i5 1 Tryd.underlying38 HI.out.1 HI.out.2 D (2 + 1 + 1) 24 _ rfl (HU2.out.own.alloc _) ⟨v2.heap.size, 0, none⟩ 2 2 ([48, b1].map bv) rfl rfl (cell_new v2 ([48, b1].map bv) 5) (bv_one _) (by omega) ?_)
      intro v3 own1 gr1
      obtain ⟨pl3, hp⟩ : ∃ l, l = pl2 ++ [48, b1] := ⟨_, rfl⟩
      have HP3 : Hid _ := hp
      have HU3 : Hid (Txt w v3 D pl3 ((2 + 1 + 1) + 2)) := by rw [Hid, hp]; exact HU2.out.add [48, b1] rfl own1 gr1
      clear own1 gr1 HU2 hp
      go_wp2_with fail
      go_ret
      refine ⟨_, rfl, ?_⟩
      have h := HU3.out
      rw [HP3.out, HP2.out, HP1.out] at h
      rw [HB1.out] at h
      rw [HTX.out, HX.out, HE.out]
      simp only [List.append_assoc, List.cons_append, List.nil_append, List.map_cons, List.map_nil, dB_zero] at h ⊢
      exact h
    · have f0 : ¬ (y : Int) < 10 := by omega
      have f0' : decide ((y : Int) < 10) = false := by simp; omega
      by_cases h100 : y < 100
      · have f1 : (y : Int) < 100 := by omega
        have HE : Hid (expL y = [y / 10, y % 10]) := by rw [Hid, expL, if_neg h10, if_pos h100]
        obtain ⟨q, hq⟩ : ∃ q, q = y / 10 := ⟨_, rfl⟩
        obtain ⟨r, hr⟩ : ∃ r, r = y % 10 := ⟨_, rfl⟩
        obtain ⟨b1, hb1⟩ : ∃ b, b = dB q := ⟨_, rfl⟩
        obtain ⟨b2, hb2⟩ : ∃ b, b = dB r := ⟨_, rfl⟩
        have g1 : (y : Int) / 10 = (q : Int) := by omega
        have g2 : (y : Int) % 10 = (r : Int) := by omega
        have g3 : q < 10 := by omega
        have g4 : r < 10 := by omega
        have e1 : (q : Int) + 48 = ((b1.toNat : Nat) : Int) := by rw [hb1, dB_nat g3]; omega
        have e2 : (r : Int) + 48 = ((b2.toNat : Nat) : Int) := by rw [hb2, dB_nat g4]; omega
        have HB1 : Hid _ := hb1
        have HB2 : Hid _ := hb2
        have HQ : Hid _ := hq
        have HR : Hid _ := hr
        clear hb1 hb2 hq hr
        go_wp2_with (at_builtin; refine wpList_append_fits _ rfl (.tmp 164) (.tmp 173) 38 rfl D 5 i5 1 Tryd.underlying38 HI.out.1 HI.out.2 D (2 + 1 + 1) 24 _ rfl (HU2.out.own.alloc _) ⟨v2.heap.size, 0, none⟩ 2 2 ([b1, b2].map bv) rfl rfl (cell_new v2 ([b1, b2].map bv) 5) (bv_one _) (by omega) ?_)
        intro v3 own1 gr1
        obtain ⟨pl3, hp⟩ : ∃ l, l = pl2 ++ [b1, b2] := ⟨_, rfl⟩
        have HP3 : Hid _ := hp
        have HU3 : Hid (Txt w v3 D pl3 ((2 + 1 + 1) + 2)) := by rw [Hid, hp]; exact HU2.out.add [b1, b2] rfl own1 gr1
        clear own1 gr1 HU2 hp
        go_wp2_with fail
        go_ret
        refine ⟨_, rfl, ?_⟩
        have h := HU3.out
        rw [HP3.out, HP2.out, HP1.out] at h
        rw [HB1.out, HB2.out, HQ.out, HR.out] at h
        rw [HTX.out, HX.out, HE.out]
        simp only [List.append_assoc, List.cons_append, List.nil_append, List.map_cons, List.map_nil] at h ⊢
        exact h
      · have f1 : ¬ (y : Int) < 100 := by omega
        have f1' : decide ((y : Int) < 100) = false := by simp; omega
        have HE : Hid (expL y = [y / 100, y / 10 % 10, y % 10]) := by rw [Hid, expL, if_neg h10, if_neg h100]
        obtain ⟨p, hp⟩ : ∃ p, p = y / 100 := ⟨_, rfl⟩
        obtain ⟨s, hs⟩ : ∃ s, s = y / 10 := ⟨_, rfl⟩
        obtain ⟨q, hq⟩ : ∃ q, q = s % 10 := ⟨_, rfl⟩
        obtain ⟨r, hr⟩ : ∃ r, r = y % 10 := ⟨_, rfl⟩
        obtain ⟨b1, hb1⟩ : ∃ b, b = dB p := ⟨_, rfl⟩
        obtain ⟨b2, hb2⟩ : ∃ b, b = dB q := ⟨_, rfl⟩
        obtain ⟨b3, hb3⟩ : ∃ b, b = dB r := ⟨_, rfl⟩
        have g1 : (y : Int) / 100 = (p : Int) := by omega
        have g0 : (y : Int) / 10 = (s : Int) := by omega
        have g2 : (s : Int) % 10 = (q : Int) := by omega
        have g5 : (y : Int) % 10 = (r : Int) := by omega
        have g3 : p < 10 := by omega
        have g4 : q < 10 := by omega
        have g6 : r < 10 := by omega
        have g7 : s < 100 := by omega
        have e1 : (p : Int) + 48 = ((b1.toNat : Nat) : Int) := by rw [hb1, dB_nat g3]; omega
        have e2 : (q : Int) + 48 = ((b2.toNat : Nat) : Int) := by rw [hb2, dB_nat g4]; omega
        have e3 : (r : Int) + 48 = ((b3.toNat : Nat) : Int) := by rw [hb3, dB_nat g6]; omega
        have HB1 : Hid _ := hb1
        have HB2 : Hid _ := hb2
        have HB3 : Hid _ := hb3
        have HPQ : Hid _ := hp
        have HS : Hid _ := hs
        have HQ : Hid _ := hq
        have HR : Hid _ := hr
        clear hb1 hb2 hb3 hq hr hp hs
        go_wp2_with (at_builtin; refine wpList_append_fits _ rfl (.tmp 136) (.tmp 150) 38 rfl D 5 i5 1 Tryd.underlying38 HI.out.1 HI.out.2 D (2 + 1 + 1) 24 _ rfl (HU2.out.own.alloc _) ⟨v2.heap.size, 0, none⟩ 3 3 ([b1, b2, b3].map bv) rfl rfl (cell_new v2 ([b1, b2, b3].map bv) 5) (bv_one _) (by omega) ?_)
        intro v3 own1 gr1
        obtain ⟨pl3, hp⟩ : ∃ l, l = pl2 ++ [b1, b2, b3] := ⟨_, rfl⟩
        have HP3 : Hid _ := hp
        have HU3 : Hid (Txt w v3 D pl3 ((2 + 1 + 1) + 3)) := by rw [Hid, hp]; exact HU2.out.add [b1, b2, b3] rfl own1 gr1
        clear own1 gr1 HU2 hp
        go_wp2_with fail
        go_ret
        refine ⟨_, rfl, ?_⟩
        have h := HU3.out
        rw [HP3.out, HP2.out, HP1.out] at h
        rw [HB1.out, HB2.out, HB3.out, HPQ.out, HQ.out, HS.out, HR.out] at h
        rw [HTX.out, HX.out, HE.out]
        simp only [List.append_assoc, List.cons_append, List.nil_append, List.map_cons, List.map_nil] at h ⊢
        exact h
set_option maxRecDepth 100000 in
set_option maxHeartbeats 4000000 in
theorem efg_00 (D B k : Nat) (u n : Nat) (dp : Int) (w : World) (hown : w.ownsRow D 5 1 (.slice (some ⟨D, 0, none⟩) 0 24) 0 []) (hB : B < w.heap.size) (hBD : B ≠ D) (hd : DigitsAt w B u n) (hk : k = 1) (hkn : k ≤ n) (hn : n ≤ 17) (h1 : -900 ≤ dp) (h2 : dp ≤ 900) :
    Calls Tryd.prog 31 #[.slice (some ⟨D, 0, none⟩) 0 24, .bool false, .slice (some ⟨B, 0, none⟩) 32 32, .int .i64 dp, .int .i64 k, .int .i64 ((k : Int) - 1), .int .u8 101, .bool true] w fun e w' =>
      ∃ c, e = .returned (.slice (some ⟨D, 0, none⟩) c 24) ∧ Txt w w' D (textT false (digs u n k) (dp - 1)) c := by
  obtain ⟨i5, hi5, hz5, hy5, hb5⟩ := info_parts Tryd.info5'
  have HI : Hid (Tryd.prog.info? 5 = some i5 ∧ i5.size = 1) := ⟨hi5, hy5⟩
  clear hi5 hz5 hy5 hb5
  have HT0 : Hid (Txt w w D [] 0) := Txt.start hown
  clear hown
  have HD : Hid (DigitsAt w B u n) := hd
  clear hd
  subst hk
  go_enter Tryd.func31, Tryd.ntmps31
  have hc0 := dig_cell HT0.out hB hBD HD.out 0 (by omega)
  obtain ⟨b0, hb0⟩ : ∃ b, b = dB (dgt u n 0) := ⟨_, rfl⟩
  rw [← hb0] at hc0
  unfold bv at hc0
  have HB0 : Hid _ := hb0
  clear hb0
  go_wp2_with (at_builtin; refine wpList_append_fits _ rfl (.tmp 87) (.tmp 89) 38 rfl D 5 i5 1 Tryd.underlying38 HI.out.1 HI.out.2 D 0 24 _ rfl (HT0.out.own.alloc _) ⟨w.heap.size, 0, none⟩ 1 1 ([b0].map bv) rfl rfl (cell_new w ([b0].map bv) 5) (bv_one _) (by omega) ?_)
  intro w2 own1 gr1
  have HT2 : Hid _ := HT0.out.add [b0] rfl own1 gr1
  clear own1 gr1 HT0
  obtain ⟨pl, hpl⟩ : ∃ l, l = [b0] := ⟨_, rfl⟩
  have HTX : Hid (textT false (digs u n 1) (dp - 1) = pl ++ expT (dp - 1)) := by
    rw [Hid, hpl, HB0.out, textT, mantT_one (by rw [digs_len])]
    simp [signT, digs]
  have HT5 : Hid (Txt w w2 D pl 1) := by rw [Hid, hpl]; exact HT2.out
  clear HT2 hpl HB0
  go_wp2_with (at_builtin; refine wpList_append_fits _ rfl (.tmp 120) (.tmp 122) 38 rfl D 5 i5 1 Tryd.underlying38 HI.out.1 HI.out.2 D 1 24 _ rfl (HT5.out.own.alloc _) ⟨w2.heap.size, 0, none⟩ 1 1 ([101].map bv) rfl rfl (cell_new w2 ([101].map bv) 5) (bv_one _) (by omega) ?_)
  intro v1 own1 gr1
  obtain ⟨pl1, hp⟩ : ∃ l, l = pl ++ [101] := ⟨_, rfl⟩
  have HP1 : Hid _ := hp
  have HU1 : Hid (Txt w v1 D pl1 (1 + 1)) := by rw [Hid, hp]; exact HT5.out.add [101] rfl own1 gr1
  clear own1 gr1 HT5 hp
  by_cases hx : dp - 1 < 0
  · obtain ⟨y, hy⟩ : ∃ y : Nat, (y : Int) = -(dp - 1) := ⟨(-(dp - 1)).toNat, by omega⟩
    have a1 : -(dp - 1) = (y : Int) := hy.symm
    have a2 : decide (dp - 1 < 0) = true := by simp; omega
    have HX : Hid (expT (dp - 1) = 101 :: 45 :: (expL y).map dB) := by
      rw [Hid, expT, if_pos hx, show (dp - 1).natAbs = y by omega]
    have hyb : y < 1000 := by omega
    clear hy
    go_wp2_with (at_builtin; refine wpList_append_fits _ rfl (.tmp 132) (.tmp 134) 38 rfl D 5 i5 1 Tryd.underlying38 HI.out.1 HI.out.2 D (1 + 1) 24 _ rfl (HU1.out.own.alloc _) ⟨v1.heap.size, 0, none⟩ 1 1 ([45].map bv) rfl rfl (cell_new v1 ([45].map bv) 5) (bv_one _) (by omega) ?_)
    intro v2 own1 gr1
    obtain ⟨pl2, hp⟩ : ∃ l, l = pl1 ++ [45] := ⟨_, rfl⟩
    have HP2 : Hid _ := hp
    have HU2 : Hid (Txt w v2 D pl2 ((1 + 1) + 1)) := by rw [Hid, hp]; exact HU1.out.add [45] rfl own1 gr1
    clear own1 gr1 HU1 hp
    clear a1 a2 hx
    by_cases h10 : y < 10
    · have f1 : (y : Int) < 10 := by omega
      have HE : Hid (expL y = [0, y]) := by rw [Hid, expL, if_pos h10]
      obtain ⟨b1, hb1⟩ : ∃ b, b = dB y := ⟨_, rfl⟩
      have e1 : (y : Int) + 48 = ((b1.toNat : Nat) : Int) := by rw [hb1, dB_nat (by omega)]; omega
      have HB1 : Hid _ := hb1
      clear hb1
      go_wp2_with (at_builtin; refine wpList_append_fits _ rfl (.tmp 155) (.tmp 159) 38 rfl D 5 i5 1 Tryd.underlying38 HI.out.1 HI.out.2 D (1 + 1 + 1) 24 _ rfl (HU2.out.own.alloc _) ⟨v2.heap.size, 0, none⟩ 2 2 ([48, b1].map bv) rfl rfl (cell_new v2 ([48, b1].map bv) 5) (bv_one _) (by omega) ?_)
      intro v3 own1 gr1
      obtain ⟨pl3, hp⟩ : ∃ l, l = pl2 ++ [48, b1] := ⟨_, rfl⟩
      have HP3 : Hid _ := hp
      have HU3 : Hid (Txt w v3 D pl3 ((1 + 1 + 1) + 2)) := by rw [Hid, hp]; exact HU2.out.add [48, b1] rfl own1 gr1
      clear own1 gr1 HU2 hp
      go_wp2_with fail
      go_ret
      refine ⟨_, rfl, ?_⟩
      have h := HU3.out
      rw [HP3.out, HP2.out, HP1.out] at h
      rw [HB1.out] at h
      rw [HTX.out, HX.out, HE.out]
      simp only [List.append_assoc, List.cons_append, List.nil_append, List.map_cons, List.map_nil, dB_zero] at h ⊢
      exact h
    · have f0 : ¬ (y : Int) < 10 := by omega
      have f0' : decide ((y : Int) < 10) = false := by simp; omega
      by_cases h100 : y < 100
      · have f1 : (y : Int) < 100 := by omega
        have HE : Hid (expL y = [y / 10, y % 10]) := by rw [Hid, expL, if_neg h10, if_pos h100]
        obtain ⟨q, hq⟩ : ∃ q, q = y / 10 := ⟨_, rfl⟩
        obtain ⟨r, hr⟩ : ∃ r, r = y % 10 := ⟨_, rfl⟩
        obtain ⟨b1, hb1⟩ : ∃ b, b = dB q := ⟨_, rfl⟩
        obtain ⟨b2, hb2⟩ : ∃ b, b = dB r := ⟨_, rfl⟩
        have g1 : (y : Int) / 10 = (q : Int) := by omega
        have g2 : (y : Int) % 10 = (r : Int) := by omega
        have g3 : q < 10 := by omega
        have g4 : r < 10 := by omega
        have e1 : (q : Int) + 48 = ((b1.toNat : Nat) : Int) := by rw [hb1, dB_nat g3]; omega
        have e2 : (r : Int) + 48 = ((b2.toNat : Nat) : Int) := by rw [hb2, dB_nat g4]; omega
        have HB1 : Hid _ := hb1
        have HB2 : Hid _ := hb2
        have HQ : Hid _ := hq
        have HR : Hid _ := hr
        clear hb1 hb2 hq hr
        go_wp2_with (at_builtin; refine wpList_append_fits _ rfl (.tmp 164) (.tmp 173) 38 rfl D 5 i5 1 Tryd.underlying38 HI.out.1 HI.out.2 D (1 + 1 + 1) 24 _ rfl (HU2.out.own.alloc _) ⟨v2.heap.size, 0, none⟩ 2 2 ([b1, b2].map bv) rfl rfl (cell_new v2 ([b1, b2].map bv) 5) (bv_one _) (by omega) ?_)
        intro v3 own1 gr1
        obtain ⟨pl3, hp⟩ : ∃ l, l = pl2 ++ [b1, b2] := ⟨_, rfl⟩
        have HP3 : Hid _ := hp
        have HU3 : Hid (Txt w v3 D pl3 ((1 + 1 + 1) + 2)) := by rw [Hid, hp]; exact HU2.out.add [b1, b2] rfl own1 gr1
        clear own1 gr1 HU2 hp
        go_wp2_with fail
        go_ret
        refine ⟨_, rfl, ?_⟩
        have h := HU3.out
        rw [HP3.out, HP2.out, HP1.out] at h
        rw [HB1.out, HB2.out, HQ.out, HR.out] at h
        rw [HTX.out, HX.out, HE.out]
        simp only [List.append_assoc, List.cons_append, List.nil_append, List.map_cons, List.map_nil] at h ⊢
        exact h
      · have f1 : ¬ (y : Int) < 100 := by omega
        have f1' : decide ((y : Int) < 100) = false := by simp; omega
        have HE : Hid (expL y = [y / 100, y / 10 % 10, y % 10]) := by rw [Hid, expL, if_neg h10, if_neg h100]
        obtain ⟨p, hp⟩ : ∃ p, p = y / 100 := ⟨_, rfl⟩
        obtain ⟨s, hs⟩ : ∃ s, s = y / 10 := ⟨_, rfl⟩
        obtain ⟨q, hq⟩ : ∃ q, q = s % 10 := ⟨_, rfl⟩
        obtain ⟨r, hr⟩ : ∃ r, r = y % 10 := ⟨_, rfl⟩
        obtain ⟨b1, hb1⟩ : ∃ b, b = dB p := ⟨_, rfl⟩
        obtain ⟨b2, hb2⟩ : ∃ b, b = dB q := ⟨_, rfl⟩
        obtain ⟨b3, hb3⟩ : ∃ b, b = dB r := ⟨_, rfl⟩
        have g1 : (y : Int) / 100 = (p : Int) := by omega
        have g0 : (y : Int) / 10 = (s : Int) := by omega
        have g2 : (s : Int) % 10 = (q : Int) := by omega
        have g5 : (y : Int) % 10 = (r : Int) := by omega
        have g3 : p < 10 := by omega
        have g4 : q < 10 := by omega
        have g6 : r < 10 := by omega
        have g7 : s < 100 := by omega
        have e1 : (p : Int) + 48 = ((b1.toNat : Nat) : Int) := by rw [hb1, dB_nat g3]; omega
        have e2 : (q : Int) + 48 = ((b2.toNat : Nat) : Int) := by rw [hb2, dB_nat g4]; omega
        have e3 : (r : Int) + 48 = ((b3.toNat : Nat) : Int) := by rw [hb3, dB_nat g6]; omega
        have HB1 : Hid _ := hb1
        have HB2 : Hid _ := hb2
        have HB3 : Hid _ := hb3
        have HPQ : Hid _ := hp
        have HS : Hid _ := hs
        have HQ : Hid _ := hq
        have HR : Hid _ := hr
        clear hb1 hb2 hb3 hq hr hp hs
        go_wp2_with (at_builtin; refine wpList_append_fits _ rfl (.tmp 136) (.tmp 150) 38 rfl D 5 i5 1 Tryd.underlying38 HI.out.1 HI.out.2 D (1 + 1 + 1) 24 _ rfl (HU2.out.own.alloc _) ⟨v2.heap.size, 0, none⟩ 3 3 ([b1, b2, b3].map bv) rfl rfl (cell_new v2 ([b1, b2, b3].map bv) 5) (bv_one _) (by omega) ?_)
        intro v3 own1 gr1
        obtain ⟨pl3, hp⟩ : ∃ l, l = pl2 ++ [b1, b2, b3] := ⟨_, rfl⟩
        have HP3 : Hid _ := hp
        have HU3 : Hid (Txt w v3 D pl3 ((1 + 1 + 1) + 3)) := by rw [Hid, hp]; exact HU2.out.add [b1, b2, b3] rfl own1 gr1
        clear own1 gr1 HU2 hp
        go_wp2_with fail
        go_ret
        refine ⟨_, rfl, ?_⟩
        have h := HU3.out
        rw [HP3.out, HP2.out, HP1.out] at h
        rw [HB1.out, HB2.out, HB3.out, HPQ.out, HQ.out, HS.out, HR.out] at h
        rw [HTX.out, HX.out, HE.out]
        simp only [List.append_assoc, List.cons_append, List.nil_append, List.map_cons, List.map_nil] at h ⊢
        exact h
  · obtain ⟨y, hy⟩ : ∃ y : Nat, (y : Int) = dp - 1 := ⟨(dp - 1).toNat, by omega⟩
    have a1 : dp - 1 = (y : Int) := hy.symm
    have a2 : decide (dp - 1 < 0) = false := by simp; omega
    have HX : Hid (expT (dp - 1) = 101 :: 43 :: (expL y).map dB) := by
      rw [Hid, expT, if_neg hx, show (dp - 1).natAbs = y by omega]
    have hyb : y < 1000 := by omega
    clear hy
    go_wp2_with (at_builtin; refine wpList_append_fits _ rfl (.tmp 132) (.tmp 134) 38 rfl D 5 i5 1 Tryd.underlying38 HI.out.1 HI.out.2 D (1 + 1) 24 _ rfl (HU1.out.own.alloc _) ⟨v1.heap.size, 0, none⟩ 1 1 ([43].map bv) rfl rfl (cell_new v1 ([43].map bv) 5) (bv_one _) (by omega) ?_)
    intro v2 own1 gr1
    obtain ⟨pl2, hp⟩ : ∃ l, l = pl1 ++ [43] := ⟨_, rfl⟩
    have HP2 : Hid _ := hp
    have HU2 : Hid (Txt w v2 D pl2 ((1 + 1) + 1)) := by rw [Hid, hp]; exact HU1.out.add [43] rfl own1 gr1
    clear own1 gr1 HU1 hp
    clear a1 a2 hx
    by_cases h10 : y < 10
    · have f1 : (y : Int) < 10 := by omega
      have HE : Hid (expL y = [0, y]) := by rw [Hid, expL, if_pos h10]
      obtain ⟨b1, hb1⟩ : ∃ b, b = dB y := ⟨_, rfl⟩
      have e1 : (y : Int) + 48 = ((b1.toNat : Nat) : Int) := by rw [hb1, dB_nat (by omega)]; omega
      have HB1 : Hid _ := hb1
      clear hb1
      go_wp2_with (at_builtin; refine wpList_append_fits _ rfl (.tmp 155) (.tmp 159) 38 rfl D 5 i5 1 Tryd.underlying38 HI.out.1 HI.out.2 D (1 + 1 + 1) 24 _ rfl (HU2.out.own.alloc _) ⟨v2.heap.size, 0, none⟩ 2 2 ([48, b1].map bv) rfl rfl (cell_new v2 ([48, b1].map bv) 5) (bv_one _) (by omega) ?_)
      intro v3 own1 gr1
      obtain ⟨pl3, hp⟩ : ∃ l, l = pl2 ++ [48, b1] := ⟨_, rfl⟩
      have HP3 : Hid _ := hp
      have HU3 : Hid (Txt w v3 D pl3 ((1 + 1 + 1) + 2)) := by rw [Hid, hp]; exact HU2.out.add [48, b1] rfl own1 gr1
      clear own1 gr1 HU2 hp
      go_wp2_with fail
      go_ret
      refine ⟨_, rfl, ?_⟩
      have h := HU3.out
      rw [HP3.out, HP2.out, HP1.out] at h
      rw [HB1.out] at h
      rw [HTX.out, HX.out, HE.out]
      simp only [List.append_assoc, List.cons_append, List.nil_append, List.map_cons, List.map_nil, dB_zero] at h ⊢
      exact h
    · have f0 : ¬ (y : Int) < 10 := by omega
      have f0' : decide ((y : Int) < 10) = false := by simp; omega
      by_cases h100 : y < 100
      · have f1 : (y : Int) < 100 := by omega
        have HE : Hid (expL y = [y / 10, y % 10]) := by rw [Hid, expL, if_neg h10, if_pos h100]
        obtain ⟨q, hq⟩ : ∃ q, q = y / 10 := ⟨_, rfl⟩
        obtain ⟨r, hr⟩ : ∃ r, r = y % 10 := ⟨_, rfl⟩
        obtain ⟨b1, hb1⟩ : ∃ b, b = dB q := ⟨_, rfl⟩
        obtain ⟨b2, hb2⟩ : ∃ b, b = dB r := ⟨_, rfl⟩
        have g1 : (y : Int) / 10 = (q : Int) := by omega
        have g2 : (y : Int) % 10 = (r : Int) := by omega
        have g3 : q < 10 := by omega
        have g4 : r < 10 := by omega
        have e1 : (q : Int) + 48 = ((b1.toNat : Nat) : Int) := by rw [hb1, dB_nat g3]; omega
        have e2 : (r : Int) + 48 = ((b2.toNat : Nat) : Int) := by rw [hb2, dB_nat g4]; omega
        have HB1 : Hid _ := hb1
        have HB2 : Hid _ := hb2
        have HQ : Hid _ := hq
        have HR : Hid _ := hr
        clear hb1 hb2 hq hr
        go_wp2_with (at_builtin; refine wpList_append_fits _ rfl (.tmp 164) (.tmp 173) 38 rfl D 5 i5 1 Tryd.underlying38 HI.out.1 HI.out.2 D (1 + 1 + 1) 24 _ rfl (HU2.out.own.alloc _) ⟨v2.heap.size, 0, none⟩ 2 2 ([b1, b2].map bv) rfl rfl (cell_new v2 ([b1, b2].map bv) 5) (bv_one _) (by omega) ?_)
        intro v3 own1 gr1
        obtain ⟨pl3, hp⟩ : ∃ l, l = pl2 ++ [b1, b2] := ⟨_, rfl⟩
        have HP3 : Hid _ := hp
        have HU3 : Hid (Txt w v3 D pl3 ((1 + 1 + 1) + 2)) := by rw [Hid, hp]; exact HU2.out.add [b1, b2] rfl own1 gr1
        clear own1 gr1 HU2 hp
        go_wp2_with fail
        go_ret
        refine ⟨_, rfl, ?_⟩
        have h := HU3.out
        rw [HP3.out, HP2.out, HP1.out] at h
        rw [HB1.out, HB2.out, HQ.out, HR.out] at h
        rw [HTX.out, HX.out, HE.out]
        simp only [List.append_assoc, List.cons_append, List.nil_append, List.map_cons, List.map_nil] at h ⊢
        exact h
      · have f1 : ¬ (y : Int) < 100 := by omega
        have f1' : decide ((y : Int) < 100) = false := by simp; omega
        have HE : Hid (expL y = [y / 100, y / 10 % 10, y % 10]) := by rw [Hid, expL, if_neg h10, if_neg h100]
        obtain ⟨p, hp⟩ : ∃ p, p = y / 100 := ⟨_, rfl⟩
        obtain ⟨s, hs⟩ : ∃ s, s = y / 10 := ⟨_, rfl⟩
        obtain ⟨q, hq⟩ : ∃ q, q = s % 10 := ⟨_, rfl⟩
        obtain ⟨r, hr⟩ : ∃ r, r = y % 10 := ⟨_, rfl⟩
        obtain ⟨b1, hb1⟩ : ∃ b, b = dB p := ⟨_, rfl⟩
        obtain ⟨b2, hb2⟩ : ∃ b, b = dB q := ⟨_, rfl⟩
        obtain ⟨b3, hb3⟩ : ∃ b, b = dB r := ⟨_, rfl⟩
        have g1 : (y : Int) / 100 = (p : Int) := by omega
        have g0 : (y : Int) / 10 = (s : Int) := by omega
        have g2 : (s : Int) % 10 = (q : Int) := by omega
        have g5 : (y : Int) % 10 = (r : Int) := by omega
        have g3 : p < 10 := by omega
        have g4 : q < 10 := by omega
        have g6 : r < 10 := by omega
        have g7 : s < 100 := by omega
        have e1 : (p : Int) + 48 = ((b1.toNat : Nat) : Int) := by rw [hb1, dB_nat g3]; omega
        have e2 : (q : Int) + 48 = ((b2.toNat : Nat) : Int) := by rw [hb2, dB_nat g4]; omega
        have e3 : (r : Int) + 48 = ((b3.toNat : Nat) : Int) := by rw [hb3, dB_nat g6]; omega
        have HB1 : Hid _ := hb1
        have HB2 : Hid _ := hb2
        have HB3 : Hid _ := hb3
        have HPQ : Hid _ := hp
        have HS : Hid _ := hs
        have HQ : Hid _ := hq
        have HR : Hid _ := hr
        clear hb1 hb2 hb3 hq hr hp hs
        go_wp2_with (at_builtin; refine wpList_append_fits _ rfl (.tmp 136) (.tmp 150) 38 rfl D 5 i5 1 Tryd.underlying38 HI.out.1 HI.out.2 D (1 + 1 + 1) 24 _ rfl (HU2.out.own.alloc _) ⟨v2.heap.size, 0, none⟩ 3 3 ([b1, b2, b3].map bv) rfl rfl (cell_new v2 ([b1, b2, b3].map bv) 5) (bv_one _) (by omega) ?_)
        intro v3 own1 gr1
        obtain ⟨pl3, hp⟩ : ∃ l, l = pl2 ++ [b1, b2, b3] := ⟨_, rfl⟩
        have HP3 : Hid _ := hp
        have HU3 : Hid (Txt w v3 D pl3 ((1 + 1 + 1) + 3)) := by rw [Hid, hp]; exact HU2.out.add [b1, b2, b3] rfl own1 gr1
        clear own1 gr1 HU2 hp
        go_wp2_with fail
        go_ret
        refine ⟨_, rfl, ?_⟩
        have h := HU3.out
        rw [HP3.out, HP2.out, HP1.out] at h
        rw [HB1.out, HB2.out, HB3.out, HPQ.out, HQ.out, HS.out, HR.out] at h
        rw [HTX.out, HX.out, HE.out]
        simp only [List.append_assoc, List.cons_append, List.nil_append, List.map_cons, List.map_nil] at h ⊢
        exact h
end Go.Proofs.Qxb6615058aDoor
