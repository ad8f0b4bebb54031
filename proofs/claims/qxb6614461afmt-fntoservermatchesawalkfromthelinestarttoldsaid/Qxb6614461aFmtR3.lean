import Derived.Test.Qxb6614461aFmtL3
import Derived.Test.Qxb6614461aFmtR4
import Derived.OpenShut
namespace Go.Proofs.Qxb6614461aFmt
open Go.ChangeShapes Go.WideShapes Go.ChangeAt Go.RowKit
open Go.ChangeMaps (open_string shut_string)
open Go.Extern.Stop Go.Stop Go.Extern

def args3 : Array Value := #[.string ⟨#[]⟩, .int .i64 0, .int .i64 0, .string ⟨#[]⟩, .int .i64 0]

set_option maxRecDepth 100000 in
theorem witness3 (os : Os) {H : Type} (enc : TypeId × Value → H) :
    (OpenSpec.ofChange Rows.fnToServerMatchesAWalkFromTheLineStartSpec).preRow enc Tryf.prog Tryf.f3 Rows.fnToServerMatchesAWalkFromTheLineStartRow.domain false Rows.fnToServerMatchesAWalkFromTheLineStartRow.laid ((World.laidAll Tryf.prog os laidAll).forCall (fun _ _ => 0) ⟨#[], args3, []⟩).memory args3 := by
  have hw : (DataW.whole enc Tryf.prog ((World.laidAll Tryf.prog os laidAll).forCall (fun _ _ => 0) ⟨#[], args3, []⟩).memory Tryf.f3.params.toList (OpenSpec.ofChange Rows.fnToServerMatchesAWalkFromTheLineStartSpec).vars false args3.toList 8).map (fun x => (x.1, x.2.1)) =
      some ([.lit (.string []), .lit (.int .i64 0), .lit (.int .i64 0), .lit (.string []), .lit (.int .i64 0)], []) := by kernel_rfl
  obtain ⟨⟨x1, x2, x3⟩, hx, hx1⟩ := Option.map_eq_some_iff.1 hw
  simp only [Prod.mk.injEq] at hx1
  obtain ⟨rfl, rfl⟩ := hx1
  exact OpenSpec.preRow_of_cond 8 hx (by kernel_rfl) (fun k hk => by cases hk) (by kernel_rfl) (laid_met os _)

set_option maxRecDepth 100000 in
set_option maxHeartbeats 1000000 in
theorem law3_lifted (os : Os) (started : os.Started) (H : Type) (enc : TypeId × Value → H) :
    ReturnsInTold none {} Tryf.checked os 3 .any Input.okWide ((OpenSpec.ofChange Rows.fnToServerMatchesAWalkFromTheLineStartSpec).preRow enc Tryf.prog Tryf.f3 Rows.fnToServerMatchesAWalkFromTheLineStartRow.domain false Rows.fnToServerMatchesAWalkFromTheLineStartRow.laid)
      (fun F => ((OpenSpec.ofChange Rows.fnToServerMatchesAWalkFromTheLineStartSpec).at F).post enc Tryf.prog Tryf.f3 false true false false) (aloneAtReturn Tryf.prog) nothingAlways := by
  refine returnsInTold_of_row (C := Tryf.checked) (s := OpenSpec.ofChange Rows.fnToServerMatchesAWalkFromTheLineStartSpec) (by kernel_rfl) own started (by kernel_rfl) Tryf.func3
    (OpenSpec.witness_stopped_atRef (enc := enc) (C := Tryf.checked) false (World.laidAll Tryf.prog os laidAll) args3 (World.laidAll_os _ _ _) (by kernel_rfl) (by kernel_rfl) (by kernel_rfl) (witness3 os enc)) ?_
  intro F W base args ds gs before _ hF hval0 hW _ _ _ hL _
  have hval : ∀ (j : Nat) t v, Tryf.f3.params[j]? = some t → args[j]? = some v → Value.okWide Tryf.prog W .any base t v := hval0
  have hW' := hW
  obtain ⟨p, q, hA0, hV0, rfl, _, _⟩ := hW
  have hA : DataW.TrodAll enc Tryf.prog W 0 (fun _ => true) true Tryf.f3.params.toList args.toList ds p := hA0
  rw [Tryf.params3] at hA hval
  obtain ⟨v0, v1, v2, v3, v4, d0, d1, d2, d3, d4, p0, p1, p2, p3, p4, rfl, rfl, rfl, h0, h1, h2, h3, h4⟩ := trodAll_5 hA
  obtain ⟨rfl, rfl⟩ := trodVars_none hV0
  obtain ⟨a, rfl, rfl, rfl, wa⟩ := open_string Tryf.underlying9 (hval 0 9 v0 rfl rfl) h0
  obtain ⟨ln, rfl, rfl, rfl, wl⟩ := open_int Tryf.underlying3 (hval 1 3 v1 rfl rfl) h1
  obtain ⟨col, rfl, rfl, rfl, wc⟩ := open_int Tryf.underlying3 (hval 2 3 v2 rfl rfl) h2
  obtain ⟨en, rfl, rfl, rfl, we⟩ := open_string Tryf.underlying9 (hval 3 9 v3 rfl rfl) h3
  obtain ⟨ev, rfl, rfl, rfl, wv⟩ := open_int Tryf.underlying3 (hval 4 3 v4 rfl rfl) h4
  clear hA0 hV0 hval0
  have hL' : laidMet Tryf.prog laidAll W := hL
  have hb3 : ∀ x : Int, (Lit.int .i64 x).wf = true → x ≤ 9223372036854775807 := fun x h => by
    have e1 : IntKind.i64.min = -9223372036854775808 := rfl
    have e2 : IntKind.i64.max = 9223372036854775807 := rfl
    simp [Lit.wf, e1, e2] at h
    omega
  refine (law3 F.told a en ln col ev W hF (tabs_of hL') (hb3 _ wl) (hb3 _ wc) (hb3 _ wv)).mono fun e W' ⟨he, hb⟩ => ?_
  subst he
  refine ⟨_, rfl, _, _, _, [], [], [], hW', trodAll_mk1 (shut_bool Tryf.underlying4 _), ?_, rfl, hb.frame _, fun h => by cases h⟩
  exact Go.trodAll_cons_mk (shut_string Tryf.underlying9 wa) (Go.trodAll_cons_mk (shut_int Tryf.underlying3 wl) (Go.trodAll_cons_mk (shut_int Tryf.underlying3 wc) (Go.trodAll_cons_mk (shut_string Tryf.underlying9 we) (trodAll_mk1 (shut_int Tryf.underlying3 wv)))))

theorem fnToServerMatchesAWalkFromTheLineStart_told : Rows.FnToServerMatchesAWalkFromTheLineStartToldSaid :=
  Claim7.holds_of_told_tied_any_at .later 3 Tryf.f3 "fmt.errorf" [] [] _ _ _ _ _ (by kernel_rfl) rfl rfl rfl laidOut (by kernel_rfl) rfl ⟨rfl, rfl, rfl, rfl, rfl, rfl, rfl⟩ rfl rfl (by kernel_rfl) (by kernel_rfl) Tryf.func3 (by kernel_rfl)
    (of_decide_eq_true (by kernel_rfl)) (by unfold Func.isWrapper; first | (rw [if_pos (by decide +kernel)]; kernel_rfl) | (rw [if_neg (by decide +kernel)]; exact ⟨rfl, rfl⟩)) stops.symm rfl stopKnobs.symm (by kernel_rfl)
    (by kernel_rfl) (by kernel_rfl) (by kernel_rfl) (by kernel_rfl) (by kernel_rfl) (by kernel_rfl) (by kernel_rfl) (by kernel_rfl) (by kernel_rfl) rfl (by kernel_rfl) rfl rfl
    rfl rfl
    rfl (by kernel_rfl) (by kernel_rfl) (by kernel_rfl) (by decide) (by kernel_rfl) fnToServerMatchesAWalkFromTheLineStart_row_tie
    (OpenClaim.moreEntering_of (by kernel_rfl) (by kernel_rfl) (by kernel_rfl) (by kernel_rfl) (by kernel_rfl) (by kernel_rfl) (by kernel_rfl) (by kernel_rfl) (by kernel_rfl) (by kernel_rfl))
    ⟨_, WideRow.started_initial, quiet _⟩
    (fun os started _ H enc _ => law3_lifted os started H enc)
end Go.Proofs.Qxb6614461aFmt
