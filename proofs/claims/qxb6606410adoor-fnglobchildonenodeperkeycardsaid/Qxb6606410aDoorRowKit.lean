/-
  The row's step, once for both laws: a []string that came in; the world's shape kept beside the listed variables.
-/
import Derived.Test.Qxb6606410aDoorSt
import Derived.Test.Qxb6606410aDoorTie
import Derived.Test.Qxb6606410aDoorCards
import Derived.ProofKit
import Derived.HandedShaped
import Derived.SliceStrings
import Derived.Lay
import Derived.LaidOnce
import Derived.SevenTiedAt
namespace Go.Proofs.Qxb6606410aDoor
open Go.ChangeShapes Go.WideShapes Go.ChangeAt Go.RowKit

theorem own : ownKnob Tryd.prog.godebug = none := by kernel_rfl
theorem laidOut : laidOutB Tryd.prog = true := by kernel_rfl
theorem Tryd.cells9 : Tryd.prog.cellsOf 9 = 1 := by kernel_rfl

/-- The wrap with a condition on the world (the listed variables) AND the world's shape. -/
theorem returns_laid_shaped {H : Type} {enc : TypeId × Value → H} {a : Assume} {C : Checked} {os : Os} {f : FuncId} {fn : Func} {s : ChangeSpec} {conds : List PathCond} {apart fresh handsOn again : Bool} {X : World → Array Value → Prop}
    (ow : ownKnob C.prog.godebug = none) (started : os.Started) (noInit : C.prog.inits.idxOf? f = none) (hfn : C.prog.funcs[f]? = some fn)
    (witness : ∃ (w : World) (tape : Tape) (i : Input), w.os = os ∧ (w.forCall tape i).Shaped C.prog ∧ i.vars = [] ∧ Input.okWide C.prog (w.forCall tape i) .any w.heap.size f i ∧
      ((s.pre enc C.prog fn conds apart (w.forCall tape i).memory i.args ∧ X (w.forCall tape i).memory i.args) ∧ sizedMet enc C.prog fn (OpenSpec.ofChange s) apart (w.forCall tape i).memory i.args) ∧ a.holds C.prog (lone (Frame.enter C.prog f i.args .normal) [] (w.forCall tape i)))
    (contract : ∀ (W : World) (base : Nat) (args : Array Value) (ds gs : List (DataW H)) (before : List MemPlace),
      (∀ (j : Nat) t v, fn.params[j]? = some t → args[j]? = some v → Value.okWide C.prog W .any base t v) →
      DataW.Whole enc C.prog fn.params.toList s.vars apart W args.toList ds gs before → W.ShapedOpen C.prog →
      Calls C.prog f args W fun e W' => ∃ v, e = .returned v ∧ s.post enc C.prog fn apart fresh handsOn again W args v W') :
    ReturnsInHanded a C os f .any (fun w args => (s.pre enc C.prog fn conds apart w args ∧ X w args) ∧ sizedMet enc C.prog fn (OpenSpec.ofChange s) apart w args) (s.post enc C.prog fn apart fresh handsOn again) := by
  refine returnsInHanded_of_calls ow started noInit witness ?_
  intro w tape i _ hsh _ hok hpre _
  obtain ⟨_, _, _, fn', hfn', _, _, _, _, hval⟩ := hok
  obtain rfl : fn' = fn := Option.some.inj (hfn'.symm.trans hfn)
  obtain ⟨⟨⟨ds, gs, before, hw, _⟩, _⟩, _⟩ := hpre
  refine (contract (w.forCall tape i) w.heap.size i.args ds gs before hval (DataW.Whole.of_heap (w' := w.forCall tape i) (by rfl) hw) hsh).mono fun e W' ⟨v, he, hp⟩ => ?_
  subst he
  exact ChangeSpec.post_blind hp

theorem maxLen_cell {W : World} (h : W.ShapedOpen Tryd.prog) : ∃ m, W.cell? ⟨0, 0, none⟩ = some (.int .i64 m) := Tryd.laysM146.s1_3 W h

/-- A []string that came in, as the walk wants it. -/
theorem open_strs {H : Type} {enc : TypeId × Value → H} {W : World} {a0 : Option Addr} {len cap fuel : Nat} {x : DataW H × List MemPlace}
    (hf : DataW.trod enc Tryd.prog W 0 (fun _ => true) true fuel 22 [.slice a0 len cap] = some x) :
    ∃ ss : List ByteArray, len ≤ maxLen ∧ (a0 = none → len = 0) ∧ (∀ i, (ss.getD i ByteArray.empty).size ≤ maxLen) ∧ StrsAt W a0 len ss ∧ (∀ p ∈ x.2, p.block < W.heap.size) := by
  rcases open_strings Tryd.underlying22 Tryd.underlying9 Tryd.cells9 hf with ⟨hcs, hx⟩ | ⟨a, len', cap', ss, hcs, _, hl, hm, hz, hx, hcell, hws⟩
  · simp at hcs
    obtain ⟨rfl, rfl, rfl⟩ := hcs
    subst hx
    exact ⟨[], Nat.zero_le _, fun _ => rfl, fun i => by simp [maxLen], fun i hi => by omega, fun p hp => by simp at hp⟩
  · simp at hcs
    obtain ⟨rfl, rfl, rfl⟩ := hcs
    subst hx
    simp only [if_true] at hz
    refine ⟨ss, by omega, (fun h => by cases h), fun i => ?_, fun i hi => ?_, fun p hp => ?_⟩
    · by_cases h : i < ss.length
      · rw [List.getD, List.getElem?_eq_getElem h]
        exact hws _ (List.getElem_mem h)
      · rw [List.getD, List.getElem?_eq_none (by omega)]
        simp [maxLen]
    · obtain ⟨b, off, spot⟩ := a
      have hspot : spot = none := by simpa [Addr.add] using World.cell?_spot (hcell 0 (by omega))
      subst hspot
      exact ⟨b, off, rfl, by rw [← add_plain]; exact hcell i (by omega)⟩
    · obtain ⟨i, hi, he⟩ := MemPlace.mem_row.1 hp
      have := World.block_lt_of_cell? _ _ (hcell i hi)
      have e : (a.add i).block = a.block := by unfold Addr.add; split <;> rfl
      rw [he]
      show a.block < _
      rw [← e]
      exact this
end Go.Proofs.Qxb6606410aDoor
