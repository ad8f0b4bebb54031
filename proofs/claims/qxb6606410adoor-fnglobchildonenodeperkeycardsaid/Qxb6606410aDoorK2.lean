/-
  zzSameKey (11): the walk.
-/
import Derived.Test.Qxb6606410aDoorK1
import Derived.Deep.QuietTactic
import Derived.BigQuiet
namespace Go.Proofs.Qxb6606410aDoor
open Go.RowKit

def SameEnd (p : Prop) (w : World) (e : Ending) (w' : World) : Prop := ∃ r : Bool, e = .returned (.bool r) ∧ (r = true ↔ p) ∧ Below w.heap.size w w'

theorem same_no {p : Prop} {w w' : World} (h : ¬ p) (hb : Below w.heap.size w w') : SameEnd p w (.returned (.bool false)) w' := ⟨false, rfl, ⟨fun e => (by cases e), fun hp => absurd hp h⟩, hb⟩
theorem same_yes {p : Prop} {w w' : World} (h : p) (hb : Below w.heap.size w w') : SameEnd p w (.returned (.bool true)) w' := ⟨true, rfl, ⟨fun _ => h, fun _ => rfl⟩, hb⟩

/-- The world up to draws. -/
structure Up (w w' : World) : Prop where
  heap : w'.heap = w.heap
  os : w'.os = w.os
  tape : w'.tape = w.tape
  output : w'.output = w.output
theorem Up.refl (w : World) : Up w w := ⟨rfl, rfl, rfl, rfl⟩
theorem Up.drewN {w w' : World} (h : Up w w') (q : Nat) : Up w (w'.drewN q) := ⟨h.heap, h.os, h.tape, h.output⟩
theorem Up.cell {w w' : World} (h : Up w w') (a : Addr) : w'.cell? a = w.cell? a := by unfold World.cell?; rw [h.heap]
theorem Up.below {B : Nat} {w0 w w' : World} (h : Up w w') (hb : Below B w0 w) : Below B w0 w' :=
  ⟨h.os.trans hb.os, h.tape.trans hb.tape, h.output.trans hb.output, by rw [h.heap]; exact hb.size, fun k hk => by rw [h.heap]; exact hb.block k hk⟩

theorem two_boxes (w : World) (x y : Obj) : Below w.heap.size w ((w.alloc x).alloc y) := ((Below.refl _ _).alloc (Nat.le_refl _) _).alloc (by simp) _

theorem strs_get {w wr : World} {b off n i : Nat} {ss : List ByteArray} (h : StrsAt w (some ⟨b, off, none⟩) n ss) (hb : Below w.heap.size w wr) (hi : i < n) : wr.cell? ⟨b, off + i, none⟩ = some (.string (ss.getD i ByteArray.empty)) := by
  obtain ⟨b', off', e, hc⟩ := h i hi
  simp only [Option.some.injEq, Addr.mk.injEq, and_true] at e
  obtain ⟨rfl, rfl⟩ := e
  exact (hb.cell (World.block_lt_of_cell? _ _ hc)).trans hc

theorem eq_upto {ms1 ms2 : List ByteArray} {k : Nat} (h : ∀ j, j < k → (ms1.getD j ByteArray.empty).toList = (ms2.getD j ByteArray.empty).toList) (e : (ms1.getD k ByteArray.empty).toList = (ms2.getD k ByteArray.empty).toList) :
    ∀ j, j < k + 1 → (ms1.getD j ByteArray.empty).toList = (ms2.getD j ByteArray.empty).toList := fun j hj => by
  by_cases h2 : j = k
  · rw [h2]; exact e
  · exact h j (by omega)

theorem maps_eq {ms1 ms2 : List ByteArray} {m : Nat} (h1 : ms1.length = m) (h2 : ms2.length = m) (h : ∀ j, j < m → (ms1.getD j ByteArray.empty).toList = (ms2.getD j ByteArray.empty).toList) : ms1.map (·.data.toList) = ms2.map (·.data.toList) := by
  refine List.ext_getElem (by simp [h1, h2]) fun j hj1 hj2 => ?_
  have hj : j < m := by simpa [h1] using hj1
  have := h j hj
  rw [Lib.toList_data, Lib.toList_data] at this
  simpa [List.getD, show j < ms1.length by omega, show j < ms2.length by omega] using this

theorem maps_ne {ms1 ms2 : List ByteArray} {m k : Nat} (h1 : ms1.length = m) (h2 : ms2.length = m) (hk : k < m) (h : ¬ (ms1.getD k ByteArray.empty).toList = (ms2.getD k ByteArray.empty).toList) : ¬ ms1.map (·.data.toList) = ms2.map (·.data.toList) := by
  intro e
  apply h
  have := congrArg (fun l => l[k]?) e
  rw [Lib.toList_data, Lib.toList_data]
  simpa [List.getD, show k < ms1.length by omega, show k < ms2.length by omega] using this

set_option maxHeartbeats 1000000 in
theorem same_any (p1 s1 p2 s2 : ByteArray) (a1 a2 : Option Addr) (m1 c1 m2 c2 : Nat) (ms1 ms2 : List ByteArray) (w : World) (h1 : StrsAt w a1 m1 ms1) (h2 : StrsAt w a2 m2 ms2) (hl1 : ms1.length = m1) (hl2 : ms2.length = m2) (hm1 : m1 ≤ 1048576) (hm2 : m2 ≤ 1048576) :
    Calls Tryd.prog 11 #[.agg #[.string p1, .string s1, .slice a1 m1 c1], .agg #[.string p2, .string s2, .slice a2 m2 c2]] w fun e w' =>
      SameEnd (p1.data.toList = p2.data.toList ∧ s1.data.toList = s2.data.toList ∧ ms1.map (·.data.toList) = ms2.map (·.data.toList)) w e w' := by
  have HL1 : Hid _ := hl1
  have HL2 : Hid _ := hl2
  clear hl1 hl2
  by_cases hp : p1.toList = p2.toList
  · by_cases hs : s1.toList = s2.toList
    · by_cases hm : m1 = m2
      · subst hm
        have HP : Hid (p1.data.toList = p2.data.toList) := by rw [← Lib.toList_data, ← Lib.toList_data]; exact hp
        have HS : Hid (s1.data.toList = s2.data.toList) := by rw [← Lib.toList_data, ← Lib.toList_data]; exact hs
        have hpb : (p1.toList == p2.toList) = true := by simp [hp]
        have hsb : (s1.toList == s2.toList) = true := by simp [hs]
        clear hp hs
        go_enter Tryd.func11, Tryd.ntmps11
        go_wp2
        obtain ⟨W2, hW2⟩ : ∃ W2, W2 = (w.alloc (.cells #[.string p1, .string s1, .slice a1 m1 c1] 33)).alloc (.cells #[.string p2, .string s2, .slice a2 m1 c2] 33) := ⟨_, rfl⟩
        have hb2 : Below w.heap.size w W2 := by rw [hW2]; exact two_boxes _ _ _
        have hc1 : W2.cell? ⟨w.heap.size, 2, none⟩ = some (.slice a1 m1 c1) := by rw [hW2]; simp
        have hc2 : W2.cell? ⟨w.heap.size + 1, 2, none⟩ = some (.slice a2 m1 c2) := by rw [hW2]; simp
        rw [← hW2]
        clear hW2
        go_loopw [5] (fun i wr => ∃ k : Nat, k ≤ m1 ∧ i = .int .i64 k ∧ Up W2 wr ∧ ∀ j, j < k → (ms1.getD j ByteArray.empty).toList = (ms2.getD j ByteArray.empty).toList) (fun i _ => m1 - (intOf i).toNat)
        case atStart => exact ⟨0, Nat.zero_le _, rfl, Up.refl _, fun j hj => by omega⟩
        case round =>
          obtain ⟨k, hk, rfl, hup, hall⟩ := hrel
          have HUP : Hid _ := hup
          have HALL : Hid (∀ j, j < k → (ms1.getD j ByteArray.empty).toList = (ms2.getD j ByteArray.empty).toList) := hall
          have hd1 := (hup.cell ⟨w.heap.size, 2, none⟩).trans hc1
          have hd2 := (hup.cell ⟨w.heap.size + 1, 2, none⟩).trans hc2
          clear hup hall
          by_cases hlt : k < m1
          · obtain ⟨b1, o1, rfl, _⟩ := h1 k hlt
            obtain ⟨b2, o2, rfl, _⟩ := h2 k hlt
            have he1 := strs_get h1 (HUP.out.below hb2) hlt
            have he2 := strs_get h2 (HUP.out.below hb2) hlt
            have HN : Hid _ := maps_ne HL1.out HL2.out hlt
            have HY : Hid _ := eq_upto HALL.out
            generalize ms1.getD k ByteArray.empty = x1 at he1 HN HY
            generalize ms2.getD k ByteArray.empty = x2 at he2 HN HY
            have hx : (k : Int) < (m1 : Int) := by omega
            go_wp2
            go_quiet (fail)
            go_wp2
            · have hq : (!x1.toList == x2.toList) = true := by assumption
              go_ret
              exact same_no (fun ⟨_, _, h⟩ => HN.out (by simpa using hq) h) ((HUP.out.drewN nq).below hb2)
            · have hq : (!x1.toList == x2.toList) = false := by assumption
              have hq2 : x1.toList = x2.toList := by simpa using hq
              have HA : Hid _ := HY.out hq2
              have HU2 : Hid _ := HUP.out.drewN nq
              go_roundw
              case rel => exact ⟨k + 1, by omega, by go_num, HU2.out, HA.out⟩
              case measure => simp [intOf]; omega
          · go_wp2
            go_ret
            exact same_yes ⟨HP.out, HS.out, maps_eq HL1.out HL2.out fun j hj => HALL.out j (by omega)⟩ (HUP.out.below hb2)
      · have hmb : ((m1 : Int) != (m2 : Int)) = true := by rw [bne_iff_ne]; omega
        have hpb : (p1.toList == p2.toList) = true := by simp [hp]
        have hsb : (s1.toList == s2.toList) = true := by simp [hs]
        clear hp hs
        go_enter Tryd.func11, Tryd.ntmps11
        go_wp2
        go_ret
        exact same_no (fun ⟨_, _, h⟩ => by have := congrArg List.length h; simp [HL1.out, HL2.out] at this; omega) (two_boxes _ _ _)
    · have hpb : (p1.toList == p2.toList) = true := by simp [hp]
      have hsb : (s1.toList == s2.toList) = false := by simp [hs]
      have HSN : Hid _ := hs
      clear hp hs
      go_enter Tryd.func11, Tryd.ntmps11
      go_wp2
      go_ret
      exact same_no (fun ⟨_, h, _⟩ => HSN.out (by rw [Lib.toList_data, Lib.toList_data]; exact h)) (two_boxes _ _ _)
  · have hpb : (p1.toList == p2.toList) = false := by simp [hp]
    have HPN : Hid _ := hp
    clear hp
    go_enter Tryd.func11, Tryd.ntmps11
    go_wp2
    go_ret
    exact same_no (fun ⟨h, _, _⟩ => HPN.out (by rw [Lib.toList_data, Lib.toList_data]; exact h)) (two_boxes _ _ _)
end Go.Proofs.Qxb6606410aDoor
