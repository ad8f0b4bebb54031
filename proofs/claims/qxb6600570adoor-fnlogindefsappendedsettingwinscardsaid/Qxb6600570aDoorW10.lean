/-
  Walks: zzHasByte (16), zzDefsNameOK (15), zzBytes (14).
-/
import Derived.Test.Qxb6600570aDoorL5
namespace Go.Proofs.Qxb6600570aDoor
open Go.RowKit Go.Shelf

/-- What zzHasByte says. -/
def HasPost (s : ByteArray) (c : Nat) (e : Ending) : Prop := ∃ b : Bool, e = .returned (.bool b) ∧ (b = false → ∀ j, j < s.size → ¬ (s.get! j).toNat = c)
theorem hasPost_mk {s : ByteArray} {c : Nat} (b : Bool) (h : b = false → ∀ j, j < s.size → ¬ (s.get! j).toNat = c) : HasPost s c (.returned (.bool b)) := ⟨b, rfl, h⟩

set_option maxRecDepth 100000 in
set_option maxHeartbeats 2000000 in
theorem hasByte_any (s : ByteArray) (c : Nat) (w : World) (hs : s.size < 1073741824) :
    Calls Tryd.prog 16 #[.string s, .int .u8 c] w fun e w' => HasPost s c e ∧ w' = w := by
  go_enter Tryd.func16, Tryd.ntmps16
  go_wp2_with fail
  go_loop [5] (fun iv => ∃ i : Nat, iv = .int .i64 i ∧ i ≤ s.size ∧ ∀ j, j < i → ¬ (s.get! j).toNat = c) (fun iv => s.size - (intOf iv).toNat)
  case atStart => exact ⟨0, rfl, Nat.zero_le _, fun j h => absurd h (Nat.not_lt_zero _)⟩
  case round =>
    obtain ⟨i, rfl, hi, hno⟩ := hrel
    have HN : Hid _ := hno
    clear hno
    by_cases hlt : i < s.size
    · have x1 : (i : Int) < (s.size : Int) := by omega
      by_cases hq : (s.get! i).toNat = c
      · have f1 : (((s[i]'hlt).toNat : Int) == (c : Int)) = true := byte_eq hlt hq
        clear hq
        go_wp2_with fail
        go_ret
        exact ⟨hasPost_mk true (fun h => by cases h), rfl⟩
      · have f1 : (((s[i]'hlt).toNat : Int) == (c : Int)) = false := byte_ne hlt hq
        have HN2 : Hid (∀ j, j < i + 1 → ¬ (s.get! j).toNat = c) := fun j hj => by
          by_cases e : j = i
          · subst e; exact hq
          · exact HN.out j (by omega)
        clear hq
        go_wp2_with fail
        go_round
        case rel => exact ⟨i + 1, by go_num, by omega, HN2.out⟩
        case measure => simp [intOf]; omega
    · have x1 : ¬ (i : Int) < (s.size : Int) := by omega
      have HE : Hid (i = s.size) := by show i = s.size; omega
      clear hlt
      go_wp2_with fail
      go_ret
      exact ⟨hasPost_mk false (fun _ => by rw [← HE.out]; exact HN.out), rfl⟩

/-- A name that zzDefsNameOK lets pass. -/
structure NameOk (n : ByteArray) : Prop where
  pos : 0 < n.size
  hash : ¬ (n.get! 0).toNat = 35
  trim : trimB n = n
  sp : ∀ j, j < n.size → ¬ (n.get! j).toNat = 32
  tab : ∀ j, j < n.size → ¬ (n.get! j).toNat = 9
  nl : ∀ j, j < n.size → ¬ (n.get! j).toNat = 10

/-- What zzDefsNameOK says. -/
def OkPost (n : ByteArray) (e : Ending) : Prop := ∃ b : Bool, e = .returned (.bool b) ∧ (b = true → NameOk n)
theorem okPost_mk {n : ByteArray} (b : Bool) (h : b = true → NameOk n) : OkPost n (.returned (.bool b)) := ⟨b, rfl, h⟩

set_option maxRecDepth 100000 in
set_option maxHeartbeats 4000000 in
theorem nameOk_any (n : ByteArray) (w : World) (hs : n.size < 1073741824) :
    Calls Tryd.prog 15 #[.string n] w fun e w' => OkPost n e ∧ ∃ m, w' = w.drewN m := by
  by_cases h0 : n.size = 0
  · have e0 : n.toList.isEmpty = true := list_nil.2 h0
    clear h0
    go_enter Tryd.func15, Tryd.ntmps15
    go_wp2_with fail
    go_ret
    exact ⟨okPost_mk false (fun h => by cases h), 0, rfl⟩
  · have e0 : n.toList.isEmpty = false := by
      cases h : n.toList.isEmpty
      · rfl
      · exact absurd (list_nil.1 h) h0
    have hpos : 0 < n.size := by omega
    have y0 : (0 : Int) < (n.size : Int) := by omega
    by_cases h35 : (n.get! 0).toNat = 35
    · have e1 : (((n[0]'hpos).toNat : Int) == 35) = true := byte_eq hpos h35
      clear h35 h0
      go_enter Tryd.func15, Tryd.ntmps15
      go_wp2_with fail
      go_ret
      exact ⟨okPost_mk false (fun h => by cases h), 0, rfl⟩
    · have e1 : (((n[0]'hpos).toNat : Int) == 35) = false := byte_ne hpos h35
      by_cases ht : trimB n = n
      · have e2 : ((trimB n).toList == n.toList) = true := str_eq ht
        have HOK : Hid ((∀ j, j < n.size → ¬ (n.get! j).toNat = 32) → (∀ j, j < n.size → ¬ (n.get! j).toNat = 9) → (∀ j, j < n.size → ¬ (n.get! j).toNat = 10) → NameOk n) := fun a b c => ⟨hpos, h35, ht, a, b, c⟩
        clear h35 h0 ht
        go_enter Tryd.func15, Tryd.ntmps15
        go_wp2_with fail
        refine (trim_any n w (by omega)).mono ?_
        rintro e w2 ⟨rfl, m2, rfl⟩
        go_wp2_with fail
        refine (hasByte_any n 32 _ hs).mono ?_
        rintro e w3 ⟨⟨b1, rfl, hb1⟩, rfl⟩
        have HB1 : Hid _ := hb1
        clear hb1
        cases b1
        · go_wp2_with fail
          refine (hasByte_any n 9 _ hs).mono ?_
          rintro e w3 ⟨⟨b2, rfl, hb2⟩, rfl⟩
          have HB2 : Hid _ := hb2
          clear hb2
          cases b2
          · go_wp2_with fail
            refine (hasByte_any n 10 _ hs).mono ?_
            rintro e w3 ⟨⟨b3, rfl, hb3⟩, rfl⟩
            have HB3 : Hid _ := hb3
            clear hb3
            cases b3
            · go_wp2_with fail
              go_ret
              exact ⟨okPost_mk true (fun _ => HOK.out (HB1.out (by trivial)) (HB2.out (by trivial)) (HB3.out (by trivial))), m2, rfl⟩
            · go_wp2_with fail
              go_ret
              exact ⟨okPost_mk false (fun h => by cases h), m2, rfl⟩
          · go_wp2_with fail
            go_ret
            exact ⟨okPost_mk false (fun h => by cases h), m2, rfl⟩
        · go_wp2_with fail
          go_ret
          exact ⟨okPost_mk false (fun h => by cases h), m2, rfl⟩
      · have e2 : ((trimB n).toList == n.toList) = false := str_ne ht
        clear h35 h0 ht
        go_enter Tryd.func15, Tryd.ntmps15
        go_wp2_with fail
        refine (trim_any n w (by omega)).mono ?_
        rintro e w2 ⟨rfl, m2, rfl⟩
        go_wp2_with fail
        go_ret
        exact ⟨okPost_mk false (fun h => by cases h), m2, rfl⟩
end Go.Proofs.Qxb6600570aDoor
