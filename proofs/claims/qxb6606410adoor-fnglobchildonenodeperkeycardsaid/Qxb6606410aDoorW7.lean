/-
  globSet.child (13), ZZglobSetChild (9).
-/
import Derived.Test.Qxb6606410aDoorW6
import Derived.Deep.RegionHeld3
namespace Go.Proofs.Qxb6606410aDoor
open Go.RowKit

/-- The path of a glob's value, out of its parts: prefix, suffix read from its end, the middles that are not empty. -/
def midStep (q : Path) (m : ByteArray) : Path := if m.size = 0 then q else none :: walk q m.data.toList
def sufPath (pre suf : ByteArray) : Path := none :: walk (none :: walk [] pre.data.toList) suf.data.toList.reverse
def nth (ps : List ByteArray) (i : Nat) : ByteArray := ps.getD i ByteArray.empty
def midPath (ps : List ByteArray) (k : Nat) : Path := ((ps.drop 1).take k).foldl midStep (sufPath (nth ps 0) (nth ps (ps.length - 1)))
def keyPath (ps : List ByteArray) : Path := midPath ps (ps.length - 2)

theorem top_none (q : Path) : top (none :: q) = false := by simp [top]
theorem top_walk_false (q : Path) (l : List UInt8) (h : top q = false) : top (walk q l) = false := (top_walk q l).trans h

/-- A place where a globMiddles stands. -/
def IsMid (q : Path) : Prop := ∃ q', q = none :: q' ∧ top q' = false
theorem IsMid.off {q : Path} (h : IsMid q) : offOf q = 1 := by obtain ⟨q', rfl, h2⟩ := h; simp [offOf, h2]
theorem IsMid.top {q : Path} (h : IsMid q) : top q = false := by obtain ⟨q', rfl, _⟩ := h; exact top_none q'
theorem isMid_suf (pre suf : ByteArray) : IsMid (sufPath pre suf) := ⟨_, rfl, top_walk_false _ _ (top_none _)⟩
theorem isMid_step (q : Path) (m : ByteArray) (h : IsMid q) : IsMid (midStep q m) := by
  unfold midStep
  split
  · exact h
  · exact ⟨_, rfl, top_walk_false _ _ h.top⟩
theorem isMid_path (ps : List ByteArray) (k : Nat) : IsMid (midPath ps k) := by
  unfold midPath
  have : ∀ (l : List ByteArray) (q : Path), IsMid q → IsMid (l.foldl midStep q) := by
    intro l
    induction l with
    | nil => exact fun q h => h
    | cons a l ih => exact fun q h => ih _ (isMid_step q a h)
  exact this _ _ (isMid_suf _ _)

theorem midPath_succ (ps : List ByteArray) (k : Nat) (h : k + 1 < ps.length) : midPath ps (k + 1) = midStep (midPath ps k) (nth ps (k + 1)) := by
  unfold midPath
  rw [List.take_succ_eq_append_getElem (by simp; omega), List.foldl_append]
  have : (ps.drop 1)[k]'(by simp; omega) = nth ps (k + 1) := by
    rw [List.getElem_drop]
    unfold nth
    rw [List.getD, List.getElem?_eq_getElem (by omega)]
    simp [Nat.add_comm]
  rw [this]
  rfl

/-- What 'child' leaves. -/
def Got (w : World) (g B : Nat) (T : Tri) (q : Path) (e : Ending) (w' : World) : Prop :=
  ∃ T' r' k, e = .returned (.pointer (some ⟨k, 0, none⟩)) ∧ Inv w' g B T' ∧ Fr w w' T T' ∧ T' q = some r' ∧ r'.pn = some k

theorem put_before {w w1 w' : World} {g B : Nat} {T : Tri} {q : Path} {e : Ending} (hb : Below w.heap.size w w1) (h : Put w1 g B T q e w') : Put w g B T q e w' := by
  obtain ⟨T', r', k, he, hI, hF, hT, hv⟩ := h
  exact ⟨T', r', k, he, hI, (Fr.below T hb).trans hF, hT, hv⟩

theorem empty_iff (m : ByteArray) : m.toList.isEmpty = true ↔ m.size = 0 := by
  rw [List.isEmpty_iff, ← List.length_eq_zero_iff, Lib.toList_data]
  simp

theorem put_after {w w1 w' : World} {g B : Nat} {T T1 : Tri} {q : Path} {e : Ending} (hf : Fr w w1 T T1) (h : Put w1 g B T1 q e w') : Put w g B T q e w' := by
  obtain ⟨T', r', k, he, hI, hF, hT, hv⟩ := h
  exact ⟨T', r', k, he, hI, hf.trans hF, hT, hv⟩

set_option maxHeartbeats 1000000 in
theorem child13_any (w : World) (g B : Nat) (T : Tri) (s : ByteArray) (ps : List ByteArray) (m : Nat) (hI : Inv w g B T) (hB : B ≤ w.heap.size) (hn : ps.length = m + 2) (hm : m ≤ 4294967296) (hsz : ∀ i, (nth ps i).size ≤ maxLen)
    (HS : Hid (Calls Tryd.prog 14 #[.string s, .string ⟨#[42]⟩] w fun e w' => e = .returned (.slice (some ⟨w.heap.size, 0, none⟩) (m + 2) (m + 2)) ∧ w' = w.alloc (.cells (ps.map Value.string).toArray 9))) :
    Calls Tryd.prog 13 #[.pointer (some ⟨g, 0, none⟩), .string s] w fun e w' => Got w g B T (keyPath ps) e w' := by
  obtain ⟨W1, hW1⟩ : ∃ W1, W1 = w.alloc (.cells (ps.map Value.string).toArray 9) := ⟨_, rfl⟩
  have hb1 : Below w.heap.size w W1 := by rw [hW1]; exact (Below.refl _ _).alloc (Nat.le_refl _) _
  have hs1 : W1.heap.size = w.heap.size + 1 := by rw [hW1]; simp
  have hcell : ∀ i, i < m + 2 → W1.cell? ⟨w.heap.size, i, none⟩ = some (.string (nth ps i)) := fun i hi => by
    rw [hW1]
    have : i < ps.length := by omega
    simp [nth, this, List.getD]
  have hno : ¬ Own T w.heap.size := fun ⟨q, r2, h1, h3⟩ => by have := (hI.lo q r2 _ h1 h3).2; omega
  have hI1 := hI.below hb1
  have hF1 := Fr.below T hb1
  rw [← hW1] at HS
  obtain ⟨r0, hr0, hb0⟩ := Option.map_eq_some_iff.1 hI.root
  have HP15 : Hid (Calls Tryd.prog 15 #[.pointer (some ⟨g, 0, none⟩), .string (nth ps 0)] W1.drew fun e w' => Put W1 g B T (walk [] (nth ps 0).data.toList) e w') := by
    have := put15_any W1.drew g B T [] r0 (nth ps 0) (hI1.below ((Below.refl _ _).drew)) (by show B ≤ W1.heap.size; omega) hr0 rfl (hsz 0)
    rw [hb0] at this
    exact this.mono fun e w' h => put_before ((Below.refl _ _).drew) h
  have HP16 : Hid (∀ (w2 : World) (T2 : Tri) (r2 : Node), Inv w2 g B T2 → Fr W1 w2 T T2 → T2 (none :: walk [] (nth ps 0).data.toList) = some r2 → Calls Tryd.prog 16 #[.pointer (some ⟨r2.b, 0, none⟩), .string (nth ps (m + 1))] w2 fun e w' => Put W1 g B T (walk (none :: walk [] (nth ps 0).data.toList) (nth ps (m + 1)).data.toList.reverse) e w') := by
    intro w2 T2 r2 hI2 hF2 hT2
    have := put16_any w2 g B T2 _ r2 (nth ps (m + 1)) hI2 (by have := hF2.size; omega) hT2 (top_none _) (hsz _)
    rw [show offOf (none :: walk [] (nth ps 0).data.toList) = 0 from by show (if top (walk _ _) = true then 0 else 1) = 0; rw [top_walk]; rfl] at this
    exact this.mono fun e w' h => put_after hF2 h
  have HK : Hid (∀ w2 T2, Fr W1 w2 T T2 → ∀ i, i < m + 2 → w2.cell? ⟨w.heap.size, i, none⟩ = some (.string (nth ps i))) := fun w2 T2 hF i hi => (cell_of (hF.block _ (by omega) hno) i).trans (hcell i hi)
  have HPS : Hid (sufPath (nth ps 0) (nth ps (m + 1)) = none :: walk (none :: walk [] (nth ps 0).data.toList) (nth ps (m + 1)).data.toList.reverse) := rfl
  have HI1 : Hid _ := hI1
  have HF1 : Hid _ := hF1
  have HB1 : Hid (B ≤ W1.heap.size) := by show B ≤ _; omega
  have HN : Hid _ := hn
  have hc0 : W1.cell? ⟨w.heap.size, 0, none⟩ = some (.string (nth ps 0)) := hcell 0 (by omega)
  have hcl : W1.cell? ⟨w.heap.size, m + 1, none⟩ = some (.string (nth ps (m + 1))) := hcell (m + 1) (by omega)
  have HW1 : Hid _ := hW1
  have hz0 : (0 : Int) < (m : Int) + 2 := by omega
  have hz1 : (0 : Int) ≤ (m : Int) + 1 := by omega
  have hz2 : (m : Int) + 1 < (m : Int) + 2 := by omega
  have hz3 : (m : Int) + 2 - 1 = (m : Int) + 1 := by omega
  have hz4 : (0 : Int) ≤ (m : Int) + 1 ∧ (m : Int) + 1 < (m : Int) + 2 := by omega
  have hz5 : IntKind.i64.wrap ((m : Int) + 2 - 1) = (m : Int) + 1 := by rw [IntKind.wrap_i64]; omega
  have hz6 : IntKind.i64.wrap ((m : Int) + 1) = (m : Int) + 1 := by rw [IntKind.wrap_i64]; omega
  have hz7 : ((m : Int) + 1).toNat = m + 1 := by omega
  clear hI hI1 hF1 hb1 hcell hb0 hr0 hn hW1 hB hs1 hno
  go_enter Tryd.func13, Tryd.ntmps13
  go_wp2_with fail
  refine HS.out.mono ?_
  rintro e w1 ⟨rfl, rfl⟩
  go_wp2_with fail
  go_region_held3 (fun w' => w'.cell? ⟨w.heap.size, 0, none⟩ = some (.string (nth ps 0)) ∧ w'.cell? ⟨w.heap.size, m + 1, none⟩ = some (.string (nth ps (m + 1)))) (first | go_keep | (exact ⟨HK.out _ _ (by assumption) 0 (by omega), HK.out _ _ (by assumption) (m + 1) (by omega)⟩))
    (first | (go_at_call 15; refine HP15.out.mono ?_; rintro e w2 ⟨T2, r2, k2, rfl, hI2, hF2, hT2, rfl⟩) | (go_at_call 16; refine (HP16.out _ _ _ ‹_› ‹_› ‹_›).mono ?_; rintro e w3 ⟨T3, r3, k3, rfl, hI3, hF3, hT3, rfl⟩))
  have HI3 : Hid _ := hI3
  have HF3 : Hid _ := hF3
  have HT3 : Hid (T3 (midPath ps 0) = some r3) := by
    show T3 (sufPath (nth ps 0) (nth ps (ps.length - 1))) = some r3
    rw [HN.out]
    exact hT3
  clear hI3 hF3 hT3 hI2 hF2 hT2 HP15 HP16 hz1 hz2 hz3 hz4 hz5 hz6 hz7 hc0 hcl
  go_wp2_with fail
  rw [show m + 2 - 1 - 1 = m from by omega]
  go_loopw [6, 33] (fun mv cv wr => ∃ (k : Nat) (T' : Tri) (r' : Node), k ≤ m ∧ cv = .int .i64 k ∧ mv = .pointer (some ⟨r'.b, 0, none⟩) ∧ T' (midPath ps k) = some r' ∧ Inv wr g B T' ∧ Fr w1 wr T T') (fun _ cv _ => m - (intOf cv).toNat)
  case atStart => exact ⟨0, T3, r3, Nat.zero_le _, rfl, rfl, HT3.out, HI3.out, HF3.out⟩
  case round =>
    obtain ⟨k, T4, r4, hk, rfl, rfl, hT4, hI4, hF4⟩ := hrel
    have HI4 : Hid _ := hI4
    have HF4 : Hid _ := hF4
    have HT4 : Hid _ := hT4
    have HM : Hid (IsMid (midPath ps k)) := isMid_path ps k
    have hB4 : B ≤ wr.heap.size := Nat.le_trans HB1.out hF4.size
    clear hT4 hI4 hF4 HT3 HI3 HF3
    by_cases hlt : k < m
    · have hck : wr.cell? ⟨w.heap.size, 1 + k, none⟩ = some (.string (nth ps (k + 1))) := by rw [Nat.add_comm]; exact HK.out _ _ HF4.out (k + 1) (by omega)
      have HMS : Hid (midPath ps (k + 1) = midStep (midPath ps k) (nth ps (k + 1))) := midPath_succ ps k (by rw [HN.out]; omega)
      have HSZ : Hid _ := hsz (k + 1)
      generalize nth ps (k + 1) = mid at hck HMS HSZ
      by_cases hz : mid.toList.isEmpty = true
      · have HE : Hid (midPath ps (k + 1) = midPath ps k) := by rw [HMS.out]; unfold midStep; rw [if_pos ((empty_iff mid).1 hz)]; exact rfl
        go_wp2_with fail
        go_roundw
        case rel => exact ⟨k + 1, T4, r4, by omega, by go_num, rfl, by rw [HE.out]; exact HT4.out, HI4.out, HF4.out⟩
        case measure => simp [intOf]; omega
      · have hz : mid.toList.isEmpty = false := by simpa using hz
        have HE : Hid (midPath ps (k + 1) = none :: walk (midPath ps k) mid.data.toList) := by rw [HMS.out]; unfold midStep; rw [if_neg (fun e => by rw [(empty_iff mid).2 e] at hz; cases hz)]; exact rfl
        have HP : Hid (Calls Tryd.prog 17 #[.pointer (some ⟨r4.b, 1, none⟩), .string mid] wr fun e w' => Put w1 g B T (walk (midPath ps k) mid.data.toList) e w') := by
          have := put17_any wr g B T4 _ r4 mid HI4.out hB4 HT4.out HM.out.top HSZ.out
          rw [HM.out.off] at this
          exact this.mono fun e w' h => put_after HF4.out h
        go_wp2_with fail
        refine HP.out.mono ?_
        rintro e w5 ⟨T5, r5, k5, rfl, hI5, hF5, hT5, rfl⟩
        have hM5 : IsMid (none :: walk (midPath ps k) mid.data.toList) := ⟨_, rfl, top_walk_false _ _ HM.out.top⟩
        have hN5 := hI5.ok _ _ hT5
        obtain ⟨⟨s5, hs5⟩, _⟩ := hN5.mid hM5.off
        have hf5 := hN5.fz 0
        have hms := mid_set (s := mid) hI5 hT5 hM5.off
        have HI5 : Hid _ := hms.1
        have HF5 : Hid _ := hF5.trans hms.2
        have HT5 : Hid _ := hT5
        clear hI5 hF5 hT5 hM5 hN5 hms
        go_wp2_with fail
        go_roundw
        case rel => exact ⟨k + 1, T5, r5, by omega, by go_num, rfl, by rw [HE.out]; exact HT5.out, HI5.out, HF5.out⟩
        case measure => simp [intOf]; omega
    · have HKP : Hid (keyPath ps = midPath ps k) := by
        show midPath ps (ps.length - 2) = _
        rw [HN.out]
        congr 1
        omega
      have hN4 := HI4.out.ok _ _ HT4.out
      obtain ⟨⟨s4, hs4⟩, hn4⟩ := hN4.mid HM.out.off
      have hf4 := hN4.fz 4
      have hbs : r4.b < wr.heap.size := (HI4.out.lo _ _ r4.b HT4.out (mem_blocks.2 (.inl rfl))).2
      clear hN4
      rcases hpn : r4.pn with _ | v
      · have hn4' : wr.cell? ⟨r4.b, 4, none⟩ = some (.pointer none) := by rw [hpn] at hn4; exact hn4
        obtain ⟨T6, r6, hI6, hF6, hT6, hb6, hp6⟩ := node_set (O := .cells #[.map none, .pointer none, .pointer none, .pointer none, .slice none 0 0] 58) rfl HI4.out hB4 HT4.out HM.out.off hpn
        have HI6 : Hid _ := hI6
        have HF6 : Hid _ := HF1.out.trans (HF4.out.trans hF6)
        have HT6 : Hid _ := hT6
        have HP6 : Hid _ := hp6
        clear hI6 hF6 hT6 hp6 hpn hn4 hb6
        go_wp2_with fail
        go_ret
        exact ⟨T6, r6, wr.heap.size, rfl, HI6.out, HF6.out, by rw [HKP.out]; exact HT6.out, HP6.out⟩
      · have hn4' : wr.cell? ⟨r4.b, 4, none⟩ = some (.pointer (some ⟨v, 0, none⟩)) := by rw [hpn] at hn4; exact hn4
        have HPN : Hid _ := hpn
        clear hpn hn4
        go_wp2_with fail
        go_ret
        exact ⟨T4, r4, v, rfl, HI4.out, HF1.out.trans HF4.out, by rw [HKP.out]; exact HT4.out, HPN.out⟩

set_option maxHeartbeats 1000000 in
theorem child9_any (w : World) (g B : Nat) (T : Tri) (s : ByteArray) (q : Path) (HC : Hid (Calls Tryd.prog 13 #[.pointer (some ⟨g, 0, none⟩), .string s] w fun e w' => Got w g B T q e w')) :
    Calls Tryd.prog 9 #[.pointer (some ⟨g, 0, none⟩), .string s] w fun e w' => Got w g B T q e w' := by
  go_enter Tryd.func9, Tryd.ntmps9
  go_wp2_with fail
  refine HC.out.mono ?_
  rintro e w2 ⟨T', r', k, rfl, h⟩
  go_wp2_with fail
  go_ret
  exact ⟨T', r', k, rfl, h⟩
end Go.Proofs.Qxb6606410aDoor
