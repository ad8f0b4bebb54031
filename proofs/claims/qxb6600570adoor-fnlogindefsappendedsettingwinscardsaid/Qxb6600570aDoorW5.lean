/-
  Walks: strings.SplitSeq (24), splitSeq (39), its closure (63) at a newline.
-/
import Derived.Test.Qxb6600570aDoorP2
import Derived.Test.Qxb6600570aDoorRange
import Derived.Test.Qxb6600570aDoorShelf
import Derived.Deep.RegionHeld
namespace Go.Proofs.Qxb6600570aDoor
open Go.RowKit Go.Shelf
attribute [local go_sem] Oper.semAt_some

abbrev nl : ByteArray := ⟨#[10]⟩

set_option maxRecDepth 100000 in
set_option maxHeartbeats 2000000 in
theorem split_seq (n lo hi pb sb vb : Nat) (s : ByteArray) (w : World) (hn : 2 ≤ n) (hsz : s.size < 4611686018427387904) (hp : w.cell? ⟨pb, 0, none⟩ = some (.string nl)) (hs : w.cell? ⟨sb, 0, none⟩ = some (.string s)) (hf : w.frozen? ⟨sb, 0, none⟩ = false) (hv : w.cell? ⟨vb, 0, none⟩ = some (.int .i64 0))
    (l1 : lo ≤ pb) (l2 : lo ≤ sb) (l3 : lo ≤ vb) (l4 : pb < hi) (l5 : sb < hi) (l6 : vb < hi) (hps : pb ≠ sb) (hvs : vb ≠ sb) :
    CellSeq Fence.wide n Tryd.prog 63 #[.pointer (some ⟨pb, 0, none⟩), .pointer (some ⟨sb, 0, none⟩), .pointer (some ⟨vb, 0, none⟩)] (fun x : ByteArray => #[.string x]) (fun x => x.size ≤ s.size) lo hi sb (piecesB s) w := by
  intro l J W hb hJs hY h0
  have g1 := (hb.cell (World.block_lt_of_cell? _ _ hp)).trans hp
  have g2 := (hb.cell (World.block_lt_of_cell? _ _ hs)).trans hs
  have g3 := (hb.cell (World.block_lt_of_cell? _ _ hv)).trans hv
  have g4 := (hb.frozen (World.block_lt_of_cell? _ _ hs)).trans hf
  clear hp hs hf hv
  refine callsIn_of_wp Tryd.func63 rfl trivial ?_ rfl
  simp only [Tryd.ntmps63, List.size_toArray, List.length_cons, List.length_nil, Nat.reduceAdd, Nat.reduceSub, Array.replicate_succ, Array.replicate_zero, List.push_toArray, List.append_toArray, List.nil_append, List.cons_append]
  gi_wp2
  gi_loopw [7, 8] (fun _ _ wr => ∃ (pre : List ByteArray) (rest : ByteArray), J pre wr ∧ wr.cell? ⟨pb, 0, none⟩ = some (.string nl) ∧ wr.cell? ⟨sb, 0, none⟩ = some (.string rest) ∧ wr.cell? ⟨vb, 0, none⟩ = some (.int .i64 0) ∧ wr.frozen? ⟨sb, 0, none⟩ = false ∧ rest.size ≤ s.size ∧ piecesB s = pre ++ piecesB rest)
    (fun _ _ wr => match wr.cell? ⟨sb, 0, none⟩ with | some (.string t) => t.size | _ => 0)
  case atStart => exact ⟨[], s, h0, g1, g2, g3, g4, Nat.le_refl _, rfl⟩
  case round =>
    clear g1 g2 g3 g4
    obtain ⟨pre, rest, hJ, g1, g2, g3, g4, hrs, hpc⟩ := hrel
    have HI : Hid (CallsIn Fence.wide (n - 1) Tryd.prog 64 #[.string rest, .string nl] wr fun e w' => e = .returned (.int .i64 (Lib.indexByte rest.data.toList 10)) ∧ w' = wr) := callsIn_wide.2 (Tryd.strings_Index_one rest 10 wr)
    have HJ : Hid _ := hJ
    have HPC : Hid _ := hpc
    clear hJ hpc h0
    by_cases hneg : Lib.indexByte rest.data.toList 10 < 0
    · have hi1 : Lib.indexByte rest.data.toList 10 = -1 := by have := Lib.indexByte_ge rest.data.toList 10; omega
      rw [hi1] at HI
      have HPN : Hid _ := piecesB_none hi1
      clear hneg hi1
      obtain ⟨fn, tmps, assign, body, hy, hR⟩ := hY pre rest wr hrs HJ.out
      gi_wp2
      refine ⟨trivial, fun _ => by omega, ?_⟩
      refine HI.out.mono ?_
      rintro e w' ⟨rfl, rfl⟩
      gi_wp2
      refine ⟨fun _ => by omega, ?_⟩
      refine hR.mono ?_
      rintro e W3 ⟨rfl, hJ3, hk3⟩
      gi_wp2
      go_end0
      exact ⟨⟨_, rfl⟩, by rw [HPC.out, HPN.out]; exact hJ3⟩
    · obtain ⟨i, hi1⟩ : ∃ i : Nat, Lib.indexByte rest.data.toList 10 = (i : Int) := ⟨(Lib.indexByte rest.data.toList 10).toNat, by omega⟩
      rw [hi1] at HI
      obtain ⟨hir, hps2⟩ := piecesB_split hi1
      have HPN : Hid _ := hps2
      clear hneg hi1 hps2
      have z1 : (i : Int) ≤ (rest.size : Int) := by omega
      have z2 : ((i : Int) + 1) ≤ (rest.size : Int) := by omega
      obtain ⟨fn, tmps, assign, body, hy, hR⟩ := hY pre (rest.extract 0 i) wr (by rw [ByteArray.size_extract]; omega) HJ.out
      gi_wp2
      refine ⟨trivial, fun _ => by omega, ?_⟩
      refine HI.out.mono ?_
      rintro e w' ⟨rfl, rfl⟩
      gi_wp2
      refine ⟨fun _ => by omega, ?_⟩
      refine hR.mono ?_
      rintro e W3 ⟨rfl, hJ3, hk3⟩
      have k1 := (World.cell?_of_block (hk3 pb l1 l4)).trans g1
      have k2 := (World.cell?_of_block (hk3 sb l2 l5)).trans g2
      have k3 := (World.cell?_of_block (hk3 vb l3 l6)).trans g3
      have k4 : W3.frozen? ⟨sb, 0, none⟩ = false := by
        rw [← g4]
        simp only [World.frozen?, hk3 sb l2 l5]
      have HJ3 : Hid _ := hJ3
      have y1 : IntKind.i64.wrap ((i : Int) + 1) = ((i + 1 : Nat) : Int) := by rw [IntKind.wrap_i64]; omega
      clear hJ3 hk3 hy hR
      gi_wp2
      have k5 : (W3.setCell ⟨sb, 0, none⟩ (.string (rest.extract (i + 1) rest.size))).cell? ⟨sb, 0, none⟩ = some (.string (rest.extract (i + 1) rest.size)) := World.cell?_setCell_same' _ _ _ (by rw [k2]; rfl)
      refine ⟨⟨pre ++ [rest.extract 0 i], rest.extract (i + 1) rest.size, hJs _ _ _ HJ3.out, (World.cell?_setCell_far _ _ _ _ (by show sb ≠ pb; omega)).trans k1, k5, (World.cell?_setCell_far _ _ _ _ (by show sb ≠ vb; omega)).trans k3, by rw [World.frozen?_setCell]; exact k4, by rw [ByteArray.size_extract]; omega, by rw [HPC.out, HPN.out]; simp⟩, ?_⟩
      rw [k5, g2]
      simp only [ByteArray.size_extract]
      omega

/-- Behind strings.SplitSeq: its three cells. -/
abbrev splitWorld (w : World) (s : ByteArray) : World := ((w.alloc (.cells #[.string s] 9)).alloc (.cells #[.string nl] 9)).alloc (.cells #[.int .i64 0] 3)
abbrev splitFunc (w : World) : Value := .func (.func 63) #[] #[.pointer (some ⟨w.heap.size + 1, 0, none⟩), .pointer (some ⟨w.heap.size, 0, none⟩), .pointer (some ⟨w.heap.size + 1 + 1, 0, none⟩)]

theorem splitSeq0_any (s : ByteArray) (w : World) :
    Calls Tryd.prog 39 #[.string s, .string nl, .int .i64 0] w fun e w' => e = .returned (splitFunc w) ∧ w' = splitWorld w s := by
  go_enter Tryd.func39, Tryd.ntmps39
  go_wp2_with fail
  go_ret
  exact ⟨rfl, rfl⟩

theorem splitSeq_any (s : ByteArray) (w : World) :
    Calls Tryd.prog 24 #[.string s, .string nl] w fun e w' => e = .returned (splitFunc w) ∧ w' = splitWorld w s := by
  go_enter Tryd.func24, Tryd.ntmps24
  go_wp2_with fail
  refine (splitSeq0_any s w).mono ?_
  rintro e w' ⟨rfl, rfl⟩
  go_wp2_with fail
  go_ret
  exact ⟨rfl, rfl⟩
end Go.Proofs.Qxb6600570aDoor
