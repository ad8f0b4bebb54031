/-
  Walk: strings.IndexAny (26) at a space and a tab, whatever the string.
-/
import Derived.Test.Qxb6600570aDoorW6
import Derived.Lib.OthersKept
namespace Go.Proofs.Qxb6600570aDoor
open Go.RowKit Go.Shelf

theorem decode_skip (s : ByteArray) (i : Nat) (h : i < s.size) (hx : ¬ (s.get! i).toNat < 128) : 1 ≤ (Utf8.decode s i).2 ∧ i + (Utf8.decode s i).2 ≤ s.size ∧ ∀ j, j < (Utf8.decode s i).2 → 128 ≤ (s.get! (i + j)).toNat := by
  have h0 : 128 ≤ (s.get! (i + 0)).toNat := by simpa using hx
  have one : ∀ d : Nat, d = 1 → 1 ≤ d ∧ i + d ≤ s.size ∧ ∀ j, j < d → 128 ≤ (s.get! (i + j)).toNat := by
    rintro d rfl
    refine ⟨Nat.le_refl _, h, fun j hj => ?_⟩
    obtain rfl : j = 0 := by omega
    exact h0
  simp only [Utf8.decode, Nat.add_zero]
  rw [if_neg hx]
  split
  · rename_i hc
    simp only [Bool.and_eq_true, decide_eq_true_eq, beq_iff_eq] at hc
    split
    · refine ⟨by omega, by omega, fun j hj => ?_⟩
      rcases (by omega : j = 0 ∨ j = 1) with rfl | rfl
      · exact h0
      · omega
    · exact one _ rfl
  · split
    · rename_i hc
      simp only [Bool.and_eq_true, decide_eq_true_eq, beq_iff_eq] at hc
      split
      · refine ⟨by omega, by omega, fun j hj => ?_⟩
        rcases (by omega : j = 0 ∨ j = 1 ∨ j = 2) with rfl | rfl | rfl
        · exact h0
        · omega
        · omega
      · exact one _ rfl
    · split
      · rename_i hc
        simp only [Bool.and_eq_true, decide_eq_true_eq, beq_iff_eq] at hc
        split
        · refine ⟨by omega, by omega, fun j hj => ?_⟩
          rcases (by omega : j = 0 ∨ j = 1 ∨ j = 2 ∨ j = 3) with rfl | rfl | rfl | rfl
          · exact h0
          · omega
          · omega
          · omega
        · exact one _ rfl
      · exact one _ rfl

theorem get_is (s : ByteArray) (i : Nat) (h : i < s.size) : s.get! i = s[i]'h := by
  have h' : i < s.data.size := h
  show s.data[i]! = s.data[i]'h'
  exact getElem!_pos s.data i h'

theorem noAny_skip {s : ByteArray} {i d : Nat} (h : Lib.NoAny s.data.toList [32, 9] i) (hd : ∀ j, j < d → 128 ≤ (s.get! (i + j)).toNat) : Lib.NoAny s.data.toList [32, 9] (i + d) := fun j b hj hb => by
  by_cases hji : j < i
  · exact h j b hji hb
  · have h1 := hd (j - i) (by omega)
    rw [show i + (j - i) = j by omega] at h1
    have hlt : j < s.size := by
      have := (List.getElem?_eq_some_iff.1 hb).1
      rwa [len_list] at this
    rw [get_is s j hlt] at h1
    rw [list_at s j hlt] at hb
    cases hb
    have e1 : ¬ s[j] = 32 := fun e => by rw [e] at h1; simp at h1
    have e2 : ¬ s[j] = 9 := fun e => by rw [e] at h1; simp at h1
    simp [e1, e2]

theorem useSet_any (n : Int) (w : World) : Calls Tryd.prog 44 #[.int .i64 n] w fun e w' => e = .returned (.bool (decide (8 < n))) ∧ w' = w := by
  go_enter Tryd.func44, Tryd.ntmps44
  go_wp2
  go_ret
  exact ⟨rfl, rfl⟩

theorem back_byte (x : UInt8) : ((x.toNat : Int)).toNat.toUInt8 = x := by simp

set_option maxRecDepth 100000 in
set_option maxHeartbeats 4000000 in
theorem indexAny_short (s : ByteArray) (w : World) (h8 : s.size ≤ 8) :
    Calls Tryd.prog 26 #[.string s, .string st] w fun e w' => e = .returned (.int .i64 (Lib.indexAny s.data.toList [32, 9])) ∧ Below w.heap.size w w' := by
  have x1 : ¬ (8 : Int) < (s.size : Int) := by omega
  go_enter Tryd.func26, Tryd.ntmps26
  go_wp2_with fail
  refine (useSet_any _ w).mono ?_
  rintro e w1 ⟨rfl, rfl⟩
  go_wp2_with fail
  go_loopw [9, 10] (fun _ _ wr => ∃ i : Nat, i ≤ s.size ∧ wr.heap[w1.heap.size]? = some (.stringIter s i) ∧ Below w1.heap.size w1 wr ∧ Lib.NoAny s.data.toList [32, 9] i) (fun _ _ wr => s.size - wr.iterPos w1.heap.size)
  case atStart => exact ⟨0, Nat.zero_le _, World.iter_heap w1 s 0, below_iter w1 s 0, Lib.NoAny.zero _ _⟩
  case round =>
    obtain ⟨i, hi, hk, hb, hno⟩ := hrel
    have HK : Hid _ := hk
    have HB : Hid _ := hb
    have HN : Hid _ := hno
    have HP : Hid (wr.iterPos w1.heap.size = i) := by
      show wr.iterPos w1.heap.size = i
      simp [World.iterPos, HK.out]
    clear hk hb hno
    by_cases hlt : i < s.size
    · by_cases hx : (s[i]'hlt).toNat < 128
      · have hnx := fun ty => Lib.run_next_ascii_at (P := Tryd.prog) wr w1.heap.size s i ty HK.out hlt hx
        have HX : Hid _ := list_at s i hlt
        have HB2 : Hid _ := Lib.below_iterAt HB.out (Nat.le_refl _) s (i + 1)
        have HK2 : Hid _ := Lib.iterAt_heap wr w1.heap.size s i (i + 1) HK.out
        have hcon := Lib.contains_iff_indexByte [32, 9] s[i]
        generalize wr.iterAt w1.heap.size s (i + 1) = wr2 at *
        generalize s[i] = x at *
        have hbk := back_byte x
        cases hin : ([32, 9] : List UInt8).contains x
        · rw [hin] at hcon
          have hlt2 : ¬ ((0 : Int) ≤ Lib.indexByte [32, 9] x) := of_decide_eq_false hcon.symm
          have HIN : Hid _ := hin
          clear hcon hin
          go_wp2_with fail
          refine (Tryd.strings_IndexRune_ascii st (x.toNat : Int) wr2 (by omega) (by omega)).mono ?_
          rintro e w3 ⟨rfl, rfl⟩
          rw [hbk]
          go_wp2_with fail
          go_roundw
          case rel => exact ⟨i + 1, hlt, HK2.out, HB2.out, Lib.NoAny.succ HN.out HX.out HIN.out⟩
          case measure =>
            rw [HP.out]
            simp only [World.iterPos, HK2.out]
            omega
        · rw [hin] at hcon
          have hlt2 : (0 : Int) ≤ Lib.indexByte [32, 9] x := of_decide_eq_true hcon.symm
          have HIN : Hid _ := hin
          clear hcon hin
          go_wp2_with fail
          refine (Tryd.strings_IndexRune_ascii st (x.toNat : Int) wr2 (by omega) (by omega)).mono ?_
          rintro e w3 ⟨rfl, rfl⟩
          rw [hbk]
          go_wp2_with fail
          go_ret
          exact ⟨ret_int (Lib.indexAny_hit HN.out HX.out HIN.out).symm, HB2.out⟩
      · have hnx := fun ty => Lib.run_next_any_at (P := Tryd.prog) wr w1.heap.size s i ty HK.out hlt
        obtain ⟨d1, d2, d3⟩ := decode_skip s i hlt (by rw [get_is s i hlt]; exact hx)
        have hr1 := decode_nonascii s i hlt hx
        have hr2 := decode_le s i
        have HNO : Hid _ := noAny_skip HN.out d3
        have HB2 : Hid _ := Lib.below_iterAt HB.out (Nat.le_refl _) s (i + (Utf8.decode s i).2)
        have HK2 : Hid _ := Lib.iterAt_heap wr w1.heap.size s i (i + (Utf8.decode s i).2) HK.out
        generalize wr.iterAt w1.heap.size s (i + (Utf8.decode s i).2) = wr2 at *
        generalize (Utf8.decode s i).2 = d at *
        generalize (Utf8.decode s i).1 = r at *
        clear d3 hx
        go_wp2_with fail
        refine (indexRune_far (r : Int) wr2 (by omega) (by omega)).mono ?_
        rintro e w3 ⟨rfl, hb3⟩
        have HB3 : Hid _ := HB2.out.trans (hb3.mono HB2.out.size)
        have HK3 : Hid _ := (hb3.block _ (Array.getElem?_eq_some_iff.1 HK2.out).1).trans HK2.out
        clear hb3
        go_wp2_with fail
        go_roundw
        case rel => exact ⟨i + d, d2, HK3.out, HB3.out, HNO.out⟩
        case measure =>
          rw [HP.out]
          simp only [World.iterPos, HK3.out]
          omega
    · have hie : i = s.size := by omega
      have hnx := fun ty => Lib.run_next_end_at (P := Tryd.prog) wr w1.heap.size s i ty HK.out hlt
      have HR : Hid (Lib.indexAny s.data.toList [32, 9] = -1) := by
        refine Lib.indexAny_none ?_
        rw [len_list, ← hie]
        exact HN.out
      clear hie hlt
      go_wp2_with fail
      go_ret
      exact ⟨ret_int HR.out.symm, HB.out⟩

/-- strings.IndexAny at a space and a tab. -/
theorem indexAny_any (s : ByteArray) (w : World) (hs : s.size < 4294967281) :
    Calls Tryd.prog 26 #[.string s, .string st] w fun e w' => e = .returned (.int .i64 (Lib.indexAny s.data.toList [32, 9])) ∧ Below w.heap.size w w' := by
  by_cases h8 : s.size ≤ 8
  · exact indexAny_short s w h8
  · refine (Tryd.strings_IndexAny_long (fun w => by kernel_rfl) s st w (by decide) (by omega) hs (by decide) ?_).mono ?_
    · intro j b hb
      have : b ∈ ([32, 9] : List UInt8) := List.mem_of_getElem? hb
      simp at this
      rcases this with rfl | rfl <;> decide
    · rintro e w' ⟨rfl, rfl⟩
      exact ⟨rfl, ((Below.refl _ w).alloc (Nat.le_refl _) _).alloc (by simp) _⟩
end Go.Proofs.Qxb6600570aDoor
