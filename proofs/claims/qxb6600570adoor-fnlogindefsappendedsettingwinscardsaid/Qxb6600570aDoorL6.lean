/-
  FnLoginDefsAppendedSettingWins: the law's walk.
-/
import Derived.Test.Qxb6600570aDoorP4
namespace Go.Proofs.Qxb6600570aDoor
open Go.RowKit Go.Shelf

theorem bytes6_any (a b c : ByteArray) (q : Bool) (w : World) :
    Calls Tryd.prog 14 #[.string a, .string b, .string c, .bool q] w fun e w' => (∃ t, e = .returned (.bool t)) ∧ w' = w := by
  go_enter Tryd.func14, Tryd.ntmps14
  go_wp2
  all_goals
    go_ret
    exact ⟨⟨_, rfl⟩, rfl⟩

theorem app_list (a b : ByteArray) : (a ++ b).data.toList = a.data.toList ++ b.data.toList := by simp
theorem not_mem_nl {s : ByteArray} (h : ∀ j, j < s.size → ¬ (s.get! j).toNat = 10) : 10 ∉ s.data.toList := fun hm => by
  obtain ⟨j, hj⟩ := List.mem_iff_getElem?.1 hm
  have hlt : j < s.size := by rw [← len_list]; exact (List.getElem?_eq_some_iff.1 hj).1
  rw [get_list s j hlt] at hj
  exact h j hlt ((u8_10 _).1 (Option.some.inj hj))
theorem wins {n d v line : ByteArray} (hno : 10 ∉ line.data.toList) (hg : give n line = some v) : last n (piecesB (d ++ ⟨#[10]⟩ ++ line)) = some v := by
  show lastL n (d ++ ⟨#[10]⟩ ++ line).data.toList = some v
  rw [app_list, app_list, List.append_assoc]
  show lastL n (d.data.toList ++ 10 :: line.data.toList) = some v
  rw [lastL_cut n _ _ hno, toB_list]
  exact upd_some hg
theorem wins_plain {n d v : ByteArray} (hn : NameOk n) (hv : ∀ j, j < v.size → ¬ (v.get! j).toNat = 10) (ht : trimB v = v) (hq : quo v = false) : last n (piecesB (d ++ ⟨#[10]⟩ ++ (n ++ ⟨#[32]⟩ ++ v))) = some v := by
  have hl : (n ++ ⟨#[32]⟩ ++ v).data.toList = n.data.toList ++ 32 :: v.data.toList := by
    rw [app_list, app_list, List.append_assoc]
    rfl
  refine wins ?_ ?_
  · rw [hl]
    have h1 := not_mem_nl hn.nl
    have h2 := not_mem_nl hv
    simp [h1, h2]
  · rw [← toB_list (n ++ ⟨#[32]⟩ ++ v), hl]
    exact give_plain hn ht hq
theorem wins_quoted {n d v : ByteArray} (hn : NameOk n) (hv : ∀ j, j < v.size → ¬ (v.get! j).toNat = 10) : last n (piecesB (d ++ ⟨#[10]⟩ ++ (n ++ ⟨#[32, 34]⟩ ++ v ++ ⟨#[34]⟩))) = some v := by
  have hl : (n ++ ⟨#[32, 34]⟩ ++ v ++ ⟨#[34]⟩).data.toList = n.data.toList ++ 32 :: (34 :: v.data.toList ++ [34]) := by
    rw [app_list, app_list, app_list, List.append_assoc, List.append_assoc]
    rfl
  refine wins ?_ ?_
  · rw [hl]
    have h1 := not_mem_nl hn.nl
    have h2 := not_mem_nl hv
    simp [h1, h2]
  · rw [← toB_list (n ++ ⟨#[32, 34]⟩ ++ v ++ ⟨#[34]⟩), hl]
    exact give_quoted hn

set_option maxRecDepth 100000 in
set_option maxHeartbeats 2000000 in
theorem law6 (data name v : ByteArray) (quoted : Bool) (w : World) (htab : ∀ W, Below w.heap.size w W → Lib.TabIs Tryd.prog W "strings.asciiSpace" .u8 Lib.asciiSpaceTab ∧ Lib.Utf8Tabs 6 7 W ∧ Lib.WhiteTab 1 W) :
    Calls Tryd.prog 6 #[.string data, .string name, .string v, .bool quoted] w fun e w' => e = .returned (.bool true) ∧ Below w.heap.size w w' := by
  have HT : Hid (∀ W, Below w.heap.size w W → Lib.TabIs Tryd.prog W "strings.asciiSpace" .u8 Lib.asciiSpaceTab ∧ Lib.Utf8Tabs 6 7 W ∧ Lib.WhiteTab 1 W) := htab
  clear htab
  go_enter Tryd.func6, Tryd.ntmps6
  go_wp2_with fail
  refine (bytes6_any data name v quoted w).mono ?_
  rintro e w1 ⟨⟨t, rfl⟩, rfl⟩
  cases t
  · go_wp2_with fail
    go_ret
    exact ⟨rfl, Below.refl _ _⟩
  by_cases s1 : 262144 < (data.size : Int)
  · go_wp2_with fail
    go_ret
    exact ⟨rfl, Below.refl _ _⟩
  by_cases s2 : 262144 < (name.size : Int)
  · go_wp2_with fail
    go_ret
    exact ⟨rfl, Below.refl _ _⟩
  by_cases s3 : 262144 < (v.size : Int)
  · go_wp2_with fail
    go_ret
    exact ⟨rfl, Below.refl _ _⟩
  go_wp2_with fail
  refine (nameOk_any name w1 (by omega)).mono ?_
  rintro e w2 ⟨⟨b1, rfl, hb1⟩, m2, rfl⟩
  have HB2 : Hid (Below w1.heap.size w1 (w1.drewN m2)) := below_drewN (Below.refl _ _) m2
  generalize w1.drewN m2 = w2 at *
  cases b1
  · clear hb1
    go_wp2_with fail
    go_ret
    exact ⟨rfl, HB2.out⟩
  have HNM : Hid (NameOk name) := hb1 rfl
  clear hb1
  go_wp2_with fail
  refine (hasByte_any v 10 w2 (by omega)).mono ?_
  rintro e w3 ⟨⟨b2, rfl, hb2⟩, rfl⟩
  cases b2
  · have HNL : Hid (∀ j, j < v.size → ¬ (v.get! j).toNat = 10) := hb2 rfl
    clear hb2
    have hqv : (v.toList == v.toList) = true := by simp
    cases quoted
    · by_cases ht : trimB v = v
      · have e2 : ((trimB v).toList == v.toList) = true := str_eq ht
        cases hqu : quo v with
        | true =>
          clear HNL HNM HT
          go_wp2_with fail
          refine (trim_any v w3 (by omega)).mono ?_
          rintro e w4 ⟨rfl, m4, rfl⟩
          go_wp2_with fail
          refine (quoted_any v _ (by omega)).mono ?_
          rintro e w5 ⟨rfl, m5, rfl⟩
          rw [hqu]
          go_wp2_with fail
          go_ret
          exact ⟨rfl, by first | exact below_drewN HB2.out _ | exact below_drewN (below_drewN HB2.out _) _⟩
        | false =>
          have HW : Hid (last name (piecesB (data ++ ⟨#[10]⟩ ++ (name ++ ⟨#[32]⟩ ++ v))) = some v) := wins_plain HNM.out HNL.out ht hqu
          have hsz : (data ++ ⟨#[10]⟩ ++ (name ++ ⟨#[32]⟩ ++ v)).size < 1073741824 := by
            simp only [ByteArray.size_append]
            show data.size + 1 + (name.size + 1 + v.size) < _
            omega
          clear HNL HNM ht
          go_wp2_with fail
          refine (trim_any v w3 (by omega)).mono ?_
          rintro e w4 ⟨rfl, m4, rfl⟩
          go_wp2_with fail
          refine (quoted_any v _ (by omega)).mono ?_
          rintro e w5 ⟨rfl, m5, rfl⟩
          have HB5 : Hid (Below w1.heap.size w1 ((w3.drewN m4).drewN m5)) := below_drewN (below_drewN HB2.out _) _
          rw [hqu]
          generalize (w3.drewN m4).drewN m5 = w5 at *
          go_wp2_with fail
          refine (loginDefs_any _ name w5 hsz (fun W hb => HT.out W (HB5.out.trans (hb.mono HB5.out.size)))).mono ?_
          rintro e w6 ⟨rfl, hb6⟩
          rw [HW.out]
          have HB6 : Hid _ := HB5.out.trans (hb6.mono HB5.out.size)
          clear hb6
          show _
          simp only [valOf, Option.getD_some, Option.isSome_some]
          go_wp2_with fail
          go_ret
          exact ⟨rfl, HB6.out⟩
      · have e2 : ((trimB v).toList == v.toList) = false := str_ne ht
        clear HNL HNM HT ht
        go_wp2_with fail
        refine (trim_any v w3 (by omega)).mono ?_
        rintro e w4 ⟨rfl, m4, rfl⟩
        go_wp2_with fail
        go_ret
        exact ⟨rfl, below_drewN HB2.out _⟩
    · have HW : Hid (last name (piecesB (data ++ ⟨#[10]⟩ ++ (name ++ ⟨#[32, 34]⟩ ++ v ++ ⟨#[34]⟩))) = some v) := wins_quoted HNM.out HNL.out
      have hsz : (data ++ ⟨#[10]⟩ ++ (name ++ ⟨#[32, 34]⟩ ++ v ++ ⟨#[34]⟩)).size < 1073741824 := by
        simp only [ByteArray.size_append]
        show data.size + 1 + (name.size + 2 + v.size + 1) < _
        omega
      clear HNL HNM
      go_wp2_with fail
      refine (loginDefs_any _ name w3 hsz (fun W hb => HT.out W (HB2.out.trans (hb.mono HB2.out.size)))).mono ?_
      rintro e w6 ⟨rfl, hb6⟩
      rw [HW.out]
      have HB6 : Hid _ := HB2.out.trans (hb6.mono HB2.out.size)
      clear hb6
      simp only [valOf, Option.getD_some, Option.isSome_some]
      go_wp2_with fail
      go_ret
      exact ⟨rfl, HB6.out⟩
  · clear hb2
    go_wp2_with fail
    go_ret
    exact ⟨rfl, HB2.out⟩
end Go.Proofs.Qxb6600570aDoor
