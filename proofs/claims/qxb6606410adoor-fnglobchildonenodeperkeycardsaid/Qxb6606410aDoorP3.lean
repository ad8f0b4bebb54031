/-
  FnGlobChildOneNodePerKey: the row and the card.
-/
import Derived.Test.Qxb6606410aDoorL3
import Derived.Test.Qxb6606410aDoorRowKit
namespace Go.Proofs.Qxb6606410aDoor
open Go.ChangeShapes Go.WideShapes Go.ChangeAt Go.RowKit

set_option maxRecDepth 100000 in
theorem fnGlobChildOneNodePerKey_lifted (os : Os) (started : os.Started) (H : Type) (enc : TypeId × Value → H) :
    ReturnsInHanded {} Tryd.checked os 3 .any (fun w args => (Rows.fnGlobChildOneNodePerKeySpec.pre enc Tryd.prog Tryd.f3 [] false w args ∧ laidMetH Tryd.prog Rows.fnGlobChildOneNodePerKeyRow.laid w) ∧ sizedMet enc Tryd.prog Tryd.f3 (OpenSpec.ofChange Rows.fnGlobChildOneNodePerKeySpec) false w args)
      (Rows.fnGlobChildOneNodePerKeySpec.post enc Tryd.prog Tryd.f3 false true false false) := by
  refine returns_laid_shaped (C := Tryd.checked) (X := fun w _ => laidMetH Tryd.prog Rows.fnGlobChildOneNodePerKeyRow.laid w) own started (by kernel_rfl) Tryd.func3
    (ChangeSpec.witness_shaped (enc := enc) (C := Tryd.checked) (os := os) (X := fun w _ => laidMetH Tryd.prog Rows.fnGlobChildOneNodePerKeyRow.laid w) false (World.laidAll Tryd.prog os Rows.fnGlobChildOneNodePerKeyRow.laid) #[.slice none 0 0] 8 (World.laidAll_os _ _ _)
      (World.shaped_of_ZipB (by kernel_rfl) (by kernel_rfl)) (by kernel_rfl) (by kernel_rfl) (by kernel_rfl)
      (by rw [MakeChecks.laidMetH_plain _ _ _ (by kernel_rfl)]; exact laidMet_laidAll _ (by kernel_rfl) (by kernel_rfl))) ?_
  intro W base args ds gs before hval0 hW hsh
  have hval : ∀ (j : Nat) t v, Tryd.f3.params[j]? = some t → args[j]? = some v → Value.okWide Tryd.prog W .any base t v := hval0
  have hW' := hW
  obtain ⟨p, q, hA0, hV, rfl, _, _⟩ := hW
  have hA : DataW.TrodAll enc Tryd.prog W 0 (fun _ => true) true Tryd.f3.params.toList args.toList ds p := hA0
  rw [Tryd.params3] at hA hval
  obtain ⟨v0, d0, rfl, rfl, h0⟩ := trodAll_one hA
  obtain ⟨rfl, rfl⟩ := trodVars_none hV
  obtain ⟨a0, len, cap, rfl⟩ := okWide_slice Tryd.underlying22 (hval 0 22 v0 rfl rfl)
  have h0' := h0
  obtain ⟨fuel, hf⟩ := h0
  obtain ⟨m, hm⟩ := maxLen_cell hsh
  obtain ⟨ss, hn, ha, hz, hc, hlt⟩ := open_strs (by simpa [Value.cells] using hf)
  clear hA0 hval0
  simp only [List.append_nil] at hW'
  refine (law3_any a0 len cap ss m W hn ha hz hc hm).mono fun e W' ⟨he, hb⟩ => ?_
  subst he
  exact ⟨_, rfl, _, _, _, [], p, [], hW', trodAll_mk1 (shut_bool Tryd.underlying4 _), trodAll_mk1 (Below.trod laidOut (by kernel_rfl) (of_decide_eq_true (by kernel_rfl)) h0' hb hlt), rfl, hb.frame _, fun h => by cases h⟩

theorem fnGlobChildOneNodePerKey_holds : Rows.FnGlobChildOneNodePerKeySaid :=
  OpenClaim.holds_of_wide 3 Tryd.f3 rfl rfl rfl rfl rfl rfl rfl ⟨rfl, rfl, rfl, rfl, rfl⟩ rfl rfl rfl rfl rfl (by kernel_rfl) Tryd.func3 (by kernel_rfl)
    (of_decide_eq_true (by kernel_rfl)) (by unfold Func.isWrapper; first | (rw [if_pos (by decide +kernel)]; kernel_rfl) | (rw [if_neg (by decide +kernel)]; exact ⟨rfl, rfl⟩))
    (fun os started H enc _ => fnGlobChildOneNodePerKey_lifted os started H enc)

theorem fnGlobChildOneNodePerKey_card : Rows.FnGlobChildOneNodePerKeyCardSaid :=
  Claim7.holds_tied_plain_at .later [] [.data, .pinned] true (true, "eb8992fb89e430897f3c9d9d0e72b35e36371e9507982e491f72f86b87e5668c") false
    fnGlobChildOneNodePerKey_holds (fun _ h => by cases h) (by kernel_rfl) (fun _ h => by cases h) fnGlobChildOneNodePerKey_row_tie rfl ⟨rfl, rfl⟩ (by kernel_rfl) rfl
    (fun f fn hf hfn => by
      obtain rfl : f = 3 := Option.some.inj ((show Tryd.prog.funcNamed Tryd.f3.name = some 3 by kernel_rfl).symm.trans hf) |>.symm
      obtain rfl : fn = Tryd.f3 := (Option.some.inj (Tryd.func3.symm.trans hfn)).symm
      exact ⟨by kernel_rfl, fun j t ht => by
        rw [Tryd.params3] at ht
        have hm : t ∈ [22] := by simpa using Array.mem_of_getElem? ht
        have hall : ([22].all fun u => !Tryd.prog.wantsStandIn u) = true := by kernel_rfl
        exact (show Tryd.prog.wantsStandIn t = false by simpa using List.all_eq_true.1 hall t hm)⟩)
    (by kernel_rfl)
end Go.Proofs.Qxb6606410aDoor
