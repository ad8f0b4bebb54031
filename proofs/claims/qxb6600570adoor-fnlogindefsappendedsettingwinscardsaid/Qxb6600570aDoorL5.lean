/-
  FnLoginDefsMatchesBackwardScan: the law's walk.
-/
import Derived.Test.Qxb6600570aDoorW9
namespace Go.Proofs.Qxb6600570aDoor
open Go.RowKit Go.Shelf

theorem bytes5_any (a b : ByteArray) (w : World) :
    Calls Tryd.prog 11 #[.string a, .string b] w fun e w' => (∃ t, e = .returned (.bool t)) ∧ w' = w := by
  go_enter Tryd.func11, Tryd.ntmps11
  go_wp2
  all_goals
    go_ret
    exact ⟨⟨_, rfl⟩, rfl⟩

theorem below_drewN {B : Nat} {a w : World} (h : Below B a w) (n : Nat) : Below B a (w.drewN n) := ⟨h.os, h.tape, h.output, h.size, h.block⟩

set_option maxRecDepth 100000 in
set_option maxHeartbeats 2000000 in
theorem law5 (data name : ByteArray) (w : World) (htab : ∀ W, Below w.heap.size w W → Lib.TabIs Tryd.prog W "strings.asciiSpace" .u8 Lib.asciiSpaceTab ∧ Lib.Utf8Tabs 6 7 W ∧ Lib.WhiteTab 1 W) :
    Calls Tryd.prog 5 #[.string data, .string name] w fun e w' => e = .returned (.bool true) ∧ Below w.heap.size w w' := by
  have HT : Hid (∀ W, Below w.heap.size w W → Lib.TabIs Tryd.prog W "strings.asciiSpace" .u8 Lib.asciiSpaceTab ∧ Lib.Utf8Tabs 6 7 W ∧ Lib.WhiteTab 1 W) := htab
  clear htab
  go_enter Tryd.func5, Tryd.ntmps5
  go_wp2_with fail
  refine (bytes5_any data name w).mono ?_
  rintro e w1 ⟨⟨t, rfl⟩, rfl⟩
  cases t
  · go_wp2_with fail
    go_ret
    exact ⟨rfl, Below.refl _ _⟩
  by_cases s1 : 524288 < (data.size : Int)
  · go_wp2_with fail
    go_ret
    exact ⟨rfl, Below.refl _ _⟩
  by_cases s2 : 524288 < (name.size : Int)
  · go_wp2_with fail
    go_ret
    exact ⟨rfl, Below.refl _ _⟩
  go_wp2_with fail
  refine (loginDefs_any data name w1 (by omega) HT.out).mono ?_
  rintro e w2 ⟨rfl, hb2⟩
  have HB2 : Hid _ := hb2
  have HMD : Hid (∀ W, Calls Tryd.prog 13 #[.string data, .string name] W fun e w' => e = .returned (.tuple #[.string (valOf (last name (piecesB data))), .bool (last name (piecesB data)).isSome]) ∧ ∃ m, w' = W.drewN m) := fun W => model_any data name W (by omega)
  clear hb2 HT
  generalize valOf (last name (piecesB data)) = vv at *
  generalize (last name (piecesB data)).isSome = bb at *
  have hq : (vv.toList == vv.toList) = true := by simp
  go_wp2_with fail
  refine (HMD.out w2).mono ?_
  rintro e w3 ⟨rfl, m3, rfl⟩
  have HB3 : Hid _ := below_drewN HB2.out m3
  clear HMD HB2
  generalize w2.drewN m3 = w3 at *
  cases bb
  all_goals
    go_wp2_with fail
    go_ret
    exact ⟨rfl, HB3.out⟩
end Go.Proofs.Qxb6600570aDoor
