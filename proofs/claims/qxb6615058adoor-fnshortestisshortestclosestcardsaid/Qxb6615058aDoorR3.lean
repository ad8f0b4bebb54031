/-
  FnShortestIsShortestClosest: the row and the card.
-/
import Derived.Test.Qxb6615058aDoorL3
import Derived.Test.Qxb6615058aDoorRowKit
namespace Go.Proofs.Qxb6615058aDoor
open Go.ChangeShapes Go.WideShapes Go.ChangeAt Go.RowKit

theorem trodAll_1 {H : Type} {enc : TypeId × Value → H} {P : Program} {w : World} {base : Nat} {spare : Nat → Bool} {held : Bool} {t : TypeId} {args : Array Value} {ds : List (DataW H)} {ps : List MemPlace} (h : DataW.TrodAll enc P w base spare held [t] args.toList ds ps) :
    ∃ v d p, args = #[v] ∧ ds = [d] ∧ ps = p ∧ DataW.Trod enc P w base spare held t v d p := by
  obtain ⟨v, vs, d, ds', p, q, hargs, rfl, rfl, hd, hrest⟩ := trodAll_cons h
  obtain ⟨rfl, rfl, rfl⟩ := trodAll_nil hrest
  exact ⟨v, d, p, by cases args; simp_all, rfl, by simp, hd⟩

theorem wf_lt {b : Nat} (h : (Lit.float .f64 b).wf = true) : b < 18446744073709551616 := by
  simpa [Lit.wf] using h

set_option maxRecDepth 100000 in
set_option maxHeartbeats 1000000 in
theorem law3_lifted (os : Os) (started : os.Started) (H : Type) (enc : TypeId × Value → H) :
    ReturnsInHanded {} Tryd.checked os 3 .any (fun w args => (Rows.fnShortestIsShortestClosestSpec.pre enc Tryd.prog Tryd.f3 Rows.fnShortestIsShortestClosestRow.domain false w args ∧ laidMetH Tryd.prog Rows.fnShortestIsShortestClosestRow.laid w) ∧ sizedMet enc Tryd.prog Tryd.f3 (OpenSpec.ofChange Rows.fnShortestIsShortestClosestSpec) false w args)
      (Rows.fnShortestIsShortestClosestSpec.post enc Tryd.prog Tryd.f3 false true false false) := by
  refine returnsInHanded_of_change_and (C := Tryd.checked) (X := fun w _ => laidMetH Tryd.prog Rows.fnShortestIsShortestClosestRow.laid w) (fun _ _ _ hh h => h.of_heap hh) own started (by kernel_rfl) Tryd.func3
    (ChangeSpec.witness_shaped (enc := enc) (C := Tryd.checked) (os := os) (X := fun w _ => laidMetH Tryd.prog Rows.fnShortestIsShortestClosestRow.laid w) false (World.laidAll Tryd.prog os Rows.fnShortestIsShortestClosestRow.laid) #[.float .f64 0] 8 (World.laidAll_os _ _ _)
      (World.shaped_of_ZipB (by kernel_rfl) (by kernel_rfl)) (by kernel_rfl) (by kernel_rfl) (by kernel_rfl)
      (by rw [MakeChecks.laidMetH_plain _ _ _ (by kernel_rfl)]; exact laidMet_laidAll _ (by kernel_rfl) (by kernel_rfl))) ?_
  intro W base args ds gs before hval0 hW _ _ hL _
  have hval : ∀ (j : Nat) t v, Tryd.f3.params[j]? = some t → args[j]? = some v → Value.okWide Tryd.prog W .any base t v := hval0
  have hW' := hW
  obtain ⟨p, q, hA0, hV, rfl, _, _⟩ := hW
  have hA : DataW.TrodAll enc Tryd.prog W 0 (fun _ => true) true Tryd.f3.params.toList args.toList ds p := hA0
  rw [Tryd.params3] at hA hval
  obtain ⟨v0, d0, p0, rfl, rfl, rfl, h0⟩ := trodAll_1 hA
  obtain ⟨rfl, rfl⟩ := trodVars_none hV
  obtain ⟨a, rfl, rfl, rfl, wa⟩ := open_float Tryd.underlying22 (hval 0 22 v0 rfl rfl) h0
  clear hA0 hval0
  have hL' : laidMet Tryd.prog laidAll W := by
    have h := hL
    rw [MakeChecks.laidMetH_plain _ _ _ (by kernel_rfl)] at h
    exact h
  refine (law3 a W (wf_lt wa) (pow10At_of hL') (tabAt_of hL')).mono fun e W' ⟨he, hb⟩ => ?_
  subst he
  exact ⟨_, rfl, _, _, _, [], [], [], hW', trodAll_mk1 (shut_bool Tryd.underlying4 _), trodAll_mk1 (shut_float Tryd.underlying22 wa), rfl, hb.frame _, fun h => by cases h⟩

theorem fnShortestIsShortestClosest_holds : Rows.FnShortestIsShortestClosestSaid :=
  OpenClaim.holds_of_wide 3 Tryd.f3 rfl rfl rfl rfl rfl rfl rfl ⟨rfl, rfl, rfl, rfl, rfl⟩ rfl rfl rfl rfl rfl (by kernel_rfl) Tryd.func3 (by kernel_rfl)
    (of_decide_eq_true (by kernel_rfl)) (by unfold Func.isWrapper; first | (rw [if_pos (by decide +kernel)]; kernel_rfl) | (rw [if_neg (by decide +kernel)]; exact ⟨rfl, rfl⟩))
    (fun os started H enc _ => law3_lifted os started H enc)

theorem fnShortestIsShortestClosest_card : Rows.FnShortestIsShortestClosestCardSaid :=
  Claim7.holds_tied_plain_at .later [] [.data, .data, .data, .data, .pinned, .pinned] true (true, "21d5331b91d26e3fe464fb26cc1fd1d74dc5a1cd41d5599e3bdf19fd9de21dcf") false
    fnShortestIsShortestClosest_holds (fun _ h => by cases h) (by kernel_rfl) (fun _ h => by cases h) fnShortestIsShortestClosest_row_tie rfl ⟨rfl, rfl⟩ (by kernel_rfl) rfl
    (fun f fn hf hfn => by
      obtain rfl : f = 3 := Option.some.inj ((show Tryd.prog.funcNamed Tryd.f3.name = some 3 by kernel_rfl).symm.trans hf) |>.symm
      obtain rfl : fn = Tryd.f3 := (Option.some.inj (Tryd.func3.symm.trans hfn)).symm
      exact ⟨by kernel_rfl, fun j t ht => by
        rw [Tryd.params3] at ht
        have hm : t ∈ [22] := by simpa using Array.mem_of_getElem? ht
        have hall : ([22].all fun u => !Tryd.prog.wantsStandIn u) = true := by kernel_rfl
        exact (show Tryd.prog.wantsStandIn t = false by simpa using List.all_eq_true.1 hall t hm)⟩)
    (by kernel_rfl)
end Go.Proofs.Qxb6615058aDoor
