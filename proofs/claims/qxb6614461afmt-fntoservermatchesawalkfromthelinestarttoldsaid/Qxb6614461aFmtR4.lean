import Derived.Test.Qxb6614461aFmtL4
import Derived.Test.Qxb6614461aFmtRowKit
import Derived.OpenShut
namespace Go.Proofs.Qxb6614461aFmt
open Go.ChangeShapes Go.WideShapes Go.ChangeAt Go.RowKit
open Go.ChangeMaps (open_string shut_string)
open Go.Extern.Stop Go.Stop Go.Extern

section
variable {H : Type} {enc : TypeId × Value → H} {P : Program} {w : World} {base : Nat} {spare : Nat → Bool} {held : Bool}
theorem trodAll_5 {t t1 t2 t3 t4 : TypeId} {args : Array Value} {ds : List (DataW H)} {ps : List MemPlace} (h : DataW.TrodAll enc P w base spare held [t, t1, t2, t3, t4] args.toList ds ps) :
    ∃ v v1 v2 v3 v4 d d1 d2 d3 d4 p p1 p2 p3 p4, args = #[v, v1, v2, v3, v4] ∧ ds = [d, d1, d2, d3, d4] ∧ ps = p ++ (p1 ++ (p2 ++ (p3 ++ p4))) ∧ DataW.Trod enc P w base spare held t v d p ∧ DataW.Trod enc P w base spare held t1 v1 d1 p1 ∧ DataW.Trod enc P w base spare held t2 v2 d2 p2 ∧ DataW.Trod enc P w base spare held t3 v3 d3 p3 ∧ DataW.Trod enc P w base spare held t4 v4 d4 p4 := by
  obtain ⟨v, vs, d, ds', p, q, hargs, rfl, rfl, hd, hrest⟩ := trodAll_cons h
  obtain ⟨v1, vs1, d1, ds1, p1, q1, rfl, rfl, rfl, hd1, hrest1⟩ := trodAll_cons hrest
  obtain ⟨v2, vs2, d2, ds2, p2, q2, rfl, rfl, rfl, hd2, hrest2⟩ := trodAll_cons hrest1
  obtain ⟨v3, vs3, d3, ds3, p3, q3, rfl, rfl, rfl, hd3, hrest3⟩ := trodAll_cons hrest2
  obtain ⟨v4, vs4, d4, ds4, p4, q4, rfl, rfl, rfl, hd4, hrest4⟩ := trodAll_cons hrest3
  obtain ⟨rfl, rfl, rfl⟩ := trodAll_nil hrest4
  exact ⟨v, v1, v2, v3, v4, d, d1, d2, d3, d4, p, p1, p2, p3, p4, by cases args; simp_all, rfl, by simp, hd, hd1, hd2, hd3, hd4⟩
end

def args4 : Array Value := #[.string ⟨#[]⟩, .string ⟨#[]⟩, .int .i64 0, .int .i64 0, .string ⟨#[]⟩]

set_option maxRecDepth 100000 in
theorem witness4 (os : Os) {H : Type} (enc : TypeId × Value → H) :
    (OpenSpec.ofChange Rows.fnToServerReadsOnlyItsOwnLineSpec).preRow enc Tryf.prog Tryf.f4 Rows.fnToServerReadsOnlyItsOwnLineRow.domain false Rows.fnToServerReadsOnlyItsOwnLineRow.laid ((World.laidAll Tryf.prog os laidAll).forCall (fun _ _ => 0) ⟨#[], args4, []⟩).memory args4 := by
  have hw : (DataW.whole enc Tryf.prog ((World.laidAll Tryf.prog os laidAll).forCall (fun _ _ => 0) ⟨#[], args4, []⟩).memory Tryf.f4.params.toList (OpenSpec.ofChange Rows.fnToServerReadsOnlyItsOwnLineSpec).vars false args4.toList 8).map (fun x => (x.1, x.2.1)) =
      some ([.lit (.string []), .lit (.string []), .lit (.int .i64 0), .lit (.int .i64 0), .lit (.string [])], []) := by kernel_rfl
  obtain ⟨⟨x1, x2, x3⟩, hx, hx1⟩ := Option.map_eq_some_iff.1 hw
  simp only [Prod.mk.injEq] at hx1
  obtain ⟨rfl, rfl⟩ := hx1
  exact OpenSpec.preRow_of_cond 8 hx (by kernel_rfl) (fun k hk => by cases hk) (by kernel_rfl) (laid_met os _)

set_option maxRecDepth 100000 in
set_option maxHeartbeats 1000000 in
theorem law4_lifted (os : Os) (started : os.Started) (H : Type) (enc : TypeId × Value → H) :
    ReturnsInTold none {} Tryf.checked os 4 .any Input.okWide ((OpenSpec.ofChange Rows.fnToServerReadsOnlyItsOwnLineSpec).preRow enc Tryf.prog Tryf.f4 Rows.fnToServerReadsOnlyItsOwnLineRow.domain false Rows.fnToServerReadsOnlyItsOwnLineRow.laid)
      (fun F => ((OpenSpec.ofChange Rows.fnToServerReadsOnlyItsOwnLineSpec).at F).post enc Tryf.prog Tryf.f4 false true false false) (aloneAtReturn Tryf.prog) nothingAlways := by
  refine returnsInTold_of_row (C := Tryf.checked) (s := OpenSpec.ofChange Rows.fnToServerReadsOnlyItsOwnLineSpec) (by kernel_rfl) own started (by kernel_rfl) Tryf.func4
    (OpenSpec.witness_stopped_atRef (enc := enc) (C := Tryf.checked) false (World.laidAll Tryf.prog os laidAll) args4 (World.laidAll_os _ _ _) (by kernel_rfl) (by kernel_rfl) (by kernel_rfl) (witness4 os enc)) ?_
  intro F W base args ds gs before _ hF hval0 hW _ _ _ hL _
  have hval : ∀ (j : Nat) t v, Tryf.f4.params[j]? = some t → args[j]? = some v → Value.okWide Tryf.prog W .any base t v := hval0
  have hW' := hW
  obtain ⟨p, q, hA0, hV0, rfl, _, _⟩ := hW
  have hA : DataW.TrodAll enc Tryf.prog W 0 (fun _ => true) true Tryf.f4.params.toList args.toList ds p := hA0
  rw [Tryf.params4] at hA hval
  obtain ⟨v0, v1, v2, v3, v4, d0, d1, d2, d3, d4, p0, p1, p2, p3, p4, rfl, rfl, rfl, h0, h1, h2, h3, h4⟩ := trodAll_5 hA
  obtain ⟨rfl, rfl⟩ := trodVars_none hV0
  obtain ⟨a, rfl, rfl, rfl, wa⟩ := open_string Tryf.underlying9 (hval 0 9 v0 rfl rfl) h0
  obtain ⟨b, rfl, rfl, rfl, wb⟩ := open_string Tryf.underlying9 (hval 1 9 v1 rfl rfl) h1
  obtain ⟨ln, rfl, rfl, rfl, wl⟩ := open_int Tryf.underlying3 (hval 2 3 v2 rfl rfl) h2
  obtain ⟨col, rfl, rfl, rfl, wc⟩ := open_int Tryf.underlying3 (hval 3 3 v3 rfl rfl) h3
  obtain ⟨en, rfl, rfl, rfl, we⟩ := open_string Tryf.underlying9 (hval 4 9 v4 rfl rfl) h4
  clear hA0 hV0 hval0
  have hL' : laidMet Tryf.prog laidAll W := hL
  have hcb : -9223372036854775808 ≤ col ∧ col ≤ 9223372036854775807 := by
    have e1 : IntKind.i64.min = -9223372036854775808 := rfl
    have e2 : IntKind.i64.max = 9223372036854775807 := rfl
    simp [Lit.wf, e1, e2] at wc
    omega
  refine (law4 F.told a b en ln col W hF (tabs_of hL') hcb.2 hcb.1).mono fun e W' ⟨he, hb⟩ => ?_
  subst he
  refine ⟨_, rfl, _, _, _, [], [], [], hW', trodAll_mk1 (shut_bool Tryf.underlying4 _), ?_, rfl, hb.frame _, fun h => by cases h⟩
  exact Go.trodAll_cons_mk (shut_string Tryf.underlying9 wa) (Go.trodAll_cons_mk (shut_string Tryf.underlying9 wb) (Go.trodAll_cons_mk (shut_int Tryf.underlying3 wl) (Go.trodAll_cons_mk (shut_int Tryf.underlying3 wc) (trodAll_mk1 (shut_string Tryf.underlying9 we)))))

theorem fnToServerReadsOnlyItsOwnLine_told : Rows.FnToServerReadsOnlyItsOwnLineToldSaid :=
  Claim7.holds_of_told_tied_any_at .later 4 Tryf.f4 "fmt.errorf" [] [] _ _ _ _ _ (by kernel_rfl) rfl rfl rfl laidOut (by kernel_rfl) rfl ⟨rfl, rfl, rfl, rfl, rfl, rfl, rfl⟩ rfl rfl (by kernel_rfl) (by kernel_rfl) Tryf.func4 (by kernel_rfl)
    (of_decide_eq_true (by kernel_rfl)) (by unfold Func.isWrapper; first | (rw [if_pos (by decide +kernel)]; kernel_rfl) | (rw [if_neg (by decide +kernel)]; exact ⟨rfl, rfl⟩)) stops.symm rfl stopKnobs.symm (by kernel_rfl)
    (by kernel_rfl) (by kernel_rfl) (by kernel_rfl) (by kernel_rfl) (by kernel_rfl) (by kernel_rfl) (by kernel_rfl) (by kernel_rfl) (by kernel_rfl) rfl (by kernel_rfl) rfl rfl
    rfl rfl
    rfl (by kernel_rfl) (by kernel_rfl) (by kernel_rfl) (by decide) (by kernel_rfl) fnToServerReadsOnlyItsOwnLine_row_tie
    (OpenClaim.moreEntering_of (by kernel_rfl) (by kernel_rfl) (by kernel_rfl) (by kernel_rfl) (by kernel_rfl) (by kernel_rfl) (by kernel_rfl) (by kernel_rfl) (by kernel_rfl) (by kernel_rfl))
    ⟨_, WideRow.started_initial, quiet _⟩
    (fun os started _ H enc _ => law4_lifted os started H enc)
end Go.Proofs.Qxb6614461aFmt
