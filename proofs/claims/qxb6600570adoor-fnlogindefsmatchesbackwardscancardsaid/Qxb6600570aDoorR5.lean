/-
  FnLoginDefsMatchesBackwardScan: the row and the card.
-/
import Derived.Test.Qxb6600570aDoorL5
import Derived.Test.Qxb6600570aDoorRowKit
namespace Go.Proofs.Qxb6600570aDoor
open Go.ChangeShapes Go.WideShapes Go.ChangeAt Go.RowKit
open Go.ChangeMaps (open_string shut_string)

theorem trodAll_2 {H : Type} {enc : TypeId × Value → H} {P : Program} {w : World} {base : Nat} {spare : Nat → Bool} {held : Bool} {t t1 : TypeId} {args : Array Value} {ds : List (DataW H)} {ps : List MemPlace} (h : DataW.TrodAll enc P w base spare held [t, t1] args.toList ds ps) :
    ∃ v v1 d d1 p p1, args = #[v, v1] ∧ ds = [d, d1] ∧ ps = p ++ p1 ∧ DataW.Trod enc P w base spare held t v d p ∧ DataW.Trod enc P w base spare held t1 v1 d1 p1 := by
  obtain ⟨v, vs, d, ds', p, q, hargs, rfl, rfl, hd, hrest⟩ := trodAll_cons h
  obtain ⟨v1, vs1, d1, ds1, p1, q1, rfl, rfl, rfl, hd1, hrest1⟩ := trodAll_cons hrest
  obtain ⟨rfl, rfl, rfl⟩ := trodAll_nil hrest1
  exact ⟨v, v1, d, d1, p, p1, by cases args; simp_all, rfl, by simp, hd, hd1⟩

set_option maxRecDepth 100000 in
set_option maxHeartbeats 1000000 in
theorem law5_lifted (os : Os) (started : os.Started) (H : Type) (enc : TypeId × Value → H) :
    ReturnsInHanded {} Tryd.checked os 5 .any (fun w args => (Rows.fnLoginDefsMatchesBackwardScanSpec.pre enc Tryd.prog Tryd.f5 Rows.fnLoginDefsMatchesBackwardScanRow.domain false w args ∧ laidMetH Tryd.prog Rows.fnLoginDefsMatchesBackwardScanRow.laid w) ∧ sizedMet enc Tryd.prog Tryd.f5 (OpenSpec.ofChange Rows.fnLoginDefsMatchesBackwardScanSpec) false w args)
      (Rows.fnLoginDefsMatchesBackwardScanSpec.post enc Tryd.prog Tryd.f5 false true false false) := by
  refine returnsInHanded_of_change_and (C := Tryd.checked) (X := fun w _ => laidMetH Tryd.prog Rows.fnLoginDefsMatchesBackwardScanRow.laid w) (fun _ _ _ hh h => h.of_heap hh) own started (by kernel_rfl) Tryd.func5
    (ChangeSpec.witness_shaped (enc := enc) (C := Tryd.checked) (os := os) (X := fun w _ => laidMetH Tryd.prog Rows.fnLoginDefsMatchesBackwardScanRow.laid w) false (World.laidAll Tryd.prog os Rows.fnLoginDefsMatchesBackwardScanRow.laid) #[.string ⟨#[]⟩, .string ⟨#[]⟩] 8 (World.laidAll_os _ _ _)
      (World.shaped_of_ZipB (by kernel_rfl) (by kernel_rfl)) (by kernel_rfl) (by kernel_rfl) (by kernel_rfl)
      (by rw [MakeChecks.laidMetH_plain _ _ _ (by kernel_rfl)]; exact laidMet_laidAll _ (by kernel_rfl) (by kernel_rfl))) ?_
  intro W base args ds gs before hval0 hW _ _ hL _
  have hval : ∀ (j : Nat) t v, Tryd.f5.params[j]? = some t → args[j]? = some v → Value.okWide Tryd.prog W .any base t v := hval0
  have hW' := hW
  obtain ⟨p, q, hA0, hV, rfl, _, _⟩ := hW
  have hA : DataW.TrodAll enc Tryd.prog W 0 (fun _ => true) true Tryd.f5.params.toList args.toList ds p := hA0
  rw [Tryd.params5] at hA hval
  obtain ⟨v0, v1, d0, d1, p0, p1, rfl, rfl, rfl, h0, h1⟩ := trodAll_2 hA
  obtain ⟨rfl, rfl⟩ := trodVars_none hV
  obtain ⟨a, rfl, rfl, rfl, wa⟩ := open_string Tryd.underlying9 (hval 0 9 v0 rfl rfl) h0
  obtain ⟨b, rfl, rfl, rfl, wb⟩ := open_string Tryd.underlying9 (hval 1 9 v1 rfl rfl) h1
  clear hA0 hval0
  have hL' : laidMet Tryd.prog laidAll W := by
    have h := hL
    rw [MakeChecks.laidMetH_plain _ _ _ (by kernel_rfl)] at h
    exact h
  refine (law5 a b W (fun W' hb => tabs_below (tabs_of hL') hb)).mono fun e W' ⟨he, hb⟩ => ?_
  subst he
  exact ⟨_, rfl, _, _, _, [], [], [], hW', trodAll_mk1 (shut_bool Tryd.underlying4 _), Go.trodAll_cons_mk (shut_string Tryd.underlying9 wa) (trodAll_mk1 (shut_string Tryd.underlying9 wb)), rfl, hb.frame _, fun h => by cases h⟩

theorem fnLoginDefsMatchesBackwardScan_holds : Rows.FnLoginDefsMatchesBackwardScanSaid :=
  OpenClaim.holds_of_wide 5 Tryd.f5 rfl rfl rfl rfl rfl rfl rfl ⟨rfl, rfl, rfl, rfl, rfl⟩ rfl rfl rfl rfl rfl (by kernel_rfl) Tryd.func5 (by kernel_rfl)
    (of_decide_eq_true (by kernel_rfl)) (by unfold Func.isWrapper; first | (rw [if_pos (by decide +kernel)]; kernel_rfl) | (rw [if_neg (by decide +kernel)]; exact ⟨rfl, rfl⟩))
    (fun os started H enc _ => law5_lifted os started H enc)

theorem fnLoginDefsMatchesBackwardScan_card : Rows.FnLoginDefsMatchesBackwardScanCardSaid :=
  Claim7.holds_tied_plain_at .later [] [.data, .listed, .data, .pinned] true (true, "e996dc704682fc1372ac8af4cdc0727e5f865de8f00072e98ee118ec652b3045") true
    fnLoginDefsMatchesBackwardScan_holds (fun _ h => by cases h) (by kernel_rfl) (fun _ h => by cases h) fnLoginDefsMatchesBackwardScan_row_tie rfl ⟨rfl, rfl⟩ (by kernel_rfl) rfl
    (fun f fn hf hfn => by
      obtain rfl : f = 5 := Option.some.inj ((show Tryd.prog.funcNamed Tryd.f5.name = some 5 by kernel_rfl).symm.trans hf) |>.symm
      obtain rfl : fn = Tryd.f5 := (Option.some.inj (Tryd.func5.symm.trans hfn)).symm
      exact ⟨by kernel_rfl, fun j t ht => by
        rw [Tryd.params5] at ht
        have hm : t ∈ [9, 9] := by simpa using Array.mem_of_getElem? ht
        have hall : ([9, 9].all fun u => !Tryd.prog.wantsStandIn u) = true := by kernel_rfl
        exact (show Tryd.prog.wantsStandIn t = false by simpa using List.all_eq_true.1 hall t hm)⟩)
    (by kernel_rfl)
end Go.Proofs.Qxb6600570aDoor
