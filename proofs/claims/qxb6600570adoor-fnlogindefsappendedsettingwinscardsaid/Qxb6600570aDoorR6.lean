/-
  FnLoginDefsAppendedSettingWins: the row and the card.
-/
import Derived.Test.Qxb6600570aDoorL6
import Derived.Test.Qxb6600570aDoorRowKit
namespace Go.Proofs.Qxb6600570aDoor
open Go.ChangeShapes Go.WideShapes Go.ChangeAt Go.RowKit
open Go.ChangeMaps (open_string shut_string)

theorem trodAll_4 {H : Type} {enc : TypeId × Value → H} {P : Program} {w : World} {base : Nat} {spare : Nat → Bool} {held : Bool} {t t1 t2 t3 : TypeId} {args : Array Value} {ds : List (DataW H)} {ps : List MemPlace} (h : DataW.TrodAll enc P w base spare held [t, t1, t2, t3] args.toList ds ps) :
    ∃ v v1 v2 v3 d d1 d2 d3 p p1 p2 p3, args = #[v, v1, v2, v3] ∧ ds = [d, d1, d2, d3] ∧ ps = p ++ (p1 ++ (p2 ++ p3)) ∧ DataW.Trod enc P w base spare held t v d p ∧ DataW.Trod enc P w base spare held t1 v1 d1 p1 ∧ DataW.Trod enc P w base spare held t2 v2 d2 p2 ∧ DataW.Trod enc P w base spare held t3 v3 d3 p3 := by
  obtain ⟨v, vs, d, ds', p, q, hargs, rfl, rfl, hd, hrest⟩ := trodAll_cons h
  obtain ⟨v1, vs1, d1, ds1, p1, q1, rfl, rfl, rfl, hd1, hrest1⟩ := trodAll_cons hrest
  obtain ⟨v2, vs2, d2, ds2, p2, q2, rfl, rfl, rfl, hd2, hrest2⟩ := trodAll_cons hrest1
  obtain ⟨v3, vs3, d3, ds3, p3, q3, rfl, rfl, rfl, hd3, hrest3⟩ := trodAll_cons hrest2
  obtain ⟨rfl, rfl, rfl⟩ := trodAll_nil hrest3
  exact ⟨v, v1, v2, v3, d, d1, d2, d3, p, p1, p2, p3, by cases args; simp_all, rfl, by simp, hd, hd1, hd2, hd3⟩

set_option maxRecDepth 100000 in
set_option maxHeartbeats 1000000 in
theorem law6_lifted (os : Os) (started : os.Started) (H : Type) (enc : TypeId × Value → H) :
    ReturnsInHanded {} Tryd.checked os 6 .any (fun w args => (Rows.fnLoginDefsAppendedSettingWinsSpec.pre enc Tryd.prog Tryd.f6 Rows.fnLoginDefsAppendedSettingWinsRow.domain false w args ∧ laidMetH Tryd.prog Rows.fnLoginDefsAppendedSettingWinsRow.laid w) ∧ sizedMet enc Tryd.prog Tryd.f6 (OpenSpec.ofChange Rows.fnLoginDefsAppendedSettingWinsSpec) false w args)
      (Rows.fnLoginDefsAppendedSettingWinsSpec.post enc Tryd.prog Tryd.f6 false true false false) := by
  refine returnsInHanded_of_change_and (C := Tryd.checked) (X := fun w _ => laidMetH Tryd.prog Rows.fnLoginDefsAppendedSettingWinsRow.laid w) (fun _ _ _ hh h => h.of_heap hh) own started (by kernel_rfl) Tryd.func6
    (ChangeSpec.witness_shaped (enc := enc) (C := Tryd.checked) (os := os) (X := fun w _ => laidMetH Tryd.prog Rows.fnLoginDefsAppendedSettingWinsRow.laid w) false (World.laidAll Tryd.prog os Rows.fnLoginDefsAppendedSettingWinsRow.laid) #[.string ⟨#[]⟩, .string ⟨#[]⟩, .string ⟨#[]⟩, .bool false] 8 (World.laidAll_os _ _ _)
      (World.shaped_of_ZipB (by kernel_rfl) (by kernel_rfl)) (by kernel_rfl) (by kernel_rfl) (by kernel_rfl)
      (by rw [MakeChecks.laidMetH_plain _ _ _ (by kernel_rfl)]; exact laidMet_laidAll _ (by kernel_rfl) (by kernel_rfl))) ?_
  intro W base args ds gs before hval0 hW _ _ hL _
  have hval : ∀ (j : Nat) t v, Tryd.f6.params[j]? = some t → args[j]? = some v → Value.okWide Tryd.prog W .any base t v := hval0
  have hW' := hW
  obtain ⟨p, q, hA0, hV, rfl, _, _⟩ := hW
  have hA : DataW.TrodAll enc Tryd.prog W 0 (fun _ => true) true Tryd.f6.params.toList args.toList ds p := hA0
  rw [Tryd.params6] at hA hval
  obtain ⟨v0, v1, v2, v3, d0, d1, d2, d3, p0, p1, p2, p3, rfl, rfl, rfl, h0, h1, h2, h3⟩ := trodAll_4 hA
  obtain ⟨rfl, rfl⟩ := trodVars_none hV
  obtain ⟨a, rfl, rfl, rfl, wa⟩ := open_string Tryd.underlying9 (hval 0 9 v0 rfl rfl) h0
  obtain ⟨b, rfl, rfl, rfl, wb⟩ := open_string Tryd.underlying9 (hval 1 9 v1 rfl rfl) h1
  obtain ⟨c, rfl, rfl, rfl, wc⟩ := open_string Tryd.underlying9 (hval 2 9 v2 rfl rfl) h2
  obtain ⟨x, rfl, rfl, rfl⟩ := open_bool Tryd.underlying4 (hval 3 4 v3 rfl rfl) h3
  clear hA0 hval0
  have hL' : laidMet Tryd.prog laidAll W := by
    have h := hL
    rw [MakeChecks.laidMetH_plain _ _ _ (by kernel_rfl)] at h
    exact h
  refine (law6 a b c x W (fun W' hb => tabs_below (tabs_of hL') hb)).mono fun e W' ⟨he, hb⟩ => ?_
  subst he
  exact ⟨_, rfl, _, _, _, [], [], [], hW', trodAll_mk1 (shut_bool Tryd.underlying4 _), Go.trodAll_cons_mk (shut_string Tryd.underlying9 wa) (Go.trodAll_cons_mk (shut_string Tryd.underlying9 wb) (Go.trodAll_cons_mk (shut_string Tryd.underlying9 wc) (trodAll_mk1 (shut_bool Tryd.underlying4 _)))), rfl, hb.frame _, fun h => by cases h⟩

theorem fnLoginDefsAppendedSettingWins_holds : Rows.FnLoginDefsAppendedSettingWinsSaid :=
  OpenClaim.holds_of_wide 6 Tryd.f6 rfl rfl rfl rfl rfl rfl rfl ⟨rfl, rfl, rfl, rfl, rfl⟩ rfl rfl rfl rfl rfl (by kernel_rfl) Tryd.func6 (by kernel_rfl)
    (of_decide_eq_true (by kernel_rfl)) (by unfold Func.isWrapper; first | (rw [if_pos (by decide +kernel)]; kernel_rfl) | (rw [if_neg (by decide +kernel)]; exact ⟨rfl, rfl⟩))
    (fun os started H enc _ => law6_lifted os started H enc)

theorem fnLoginDefsAppendedSettingWins_card : Rows.FnLoginDefsAppendedSettingWinsCardSaid :=
  Claim7.holds_tied_plain_at .later [] [.data, .listed, .data, .pinned] true (true, "e996dc704682fc1372ac8af4cdc0727e5f865de8f00072e98ee118ec652b3045") true
    fnLoginDefsAppendedSettingWins_holds (fun _ h => by cases h) (by kernel_rfl) (fun _ h => by cases h) fnLoginDefsAppendedSettingWins_row_tie rfl ⟨rfl, rfl⟩ (by kernel_rfl) rfl
    (fun f fn hf hfn => by
      obtain rfl : f = 6 := Option.some.inj ((show Tryd.prog.funcNamed Tryd.f6.name = some 6 by kernel_rfl).symm.trans hf) |>.symm
      obtain rfl : fn = Tryd.f6 := (Option.some.inj (Tryd.func6.symm.trans hfn)).symm
      exact ⟨by kernel_rfl, fun j t ht => by
        rw [Tryd.params6] at ht
        have hm : t ∈ [9, 9, 9, 4] := by simpa using Array.mem_of_getElem? ht
        have hall : ([9, 9, 9, 4].all fun u => !Tryd.prog.wantsStandIn u) = true := by kernel_rfl
        exact (show Tryd.prog.wantsStandIn t = false by simpa using List.all_eq_true.1 hall t hm)⟩)
    (by kernel_rfl)
end Go.Proofs.Qxb6600570aDoor
