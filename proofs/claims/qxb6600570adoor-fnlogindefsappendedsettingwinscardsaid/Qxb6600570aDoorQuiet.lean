/-
  A region that draws its order and only reads, in a round of a loop over an iterator.
-/
import Derived.Sort.QuietIn
import Derived.RangeFuncNested
namespace Go.Proofs.Qxb6600570aDoor
open Go.RowKit

/-- No defer statement. -/
def plainOp (o : Oper) : Bool := match o.op with
  | .defer _ => false
  | _ => true

theorem plainOp_ne {o : Oper} (h : plainOp o = true) : ∀ c, o.op ≠ .defer c := fun c e => by
  unfold plainOp at h
  rw [e] at h
  cases h

section
variable {F : Fence} {n : Nat} {P : Program} {ops : Array Oper} {C : World → Prop}

theorem wpIn_quiet_round {o : Oper} {a : Act} {K : Act → Prop} {K' : Act → World → Prop} {Q' : Exit → Act → World → Prop} {w : World} (hp : plainOp o = true) (hw : C w) (h : ∀ a w', C w' → K a → K' a w')
    (ha : o.askedIn F P a C) (hh : o.quietIn F n P a C K) : o.wpIn F n P a w K' Q' := by
  obtain ⟨v, h1, h2⟩ := hh
  have h3 := h1 w hw
  unfold Oper.quietAtIn at h3
  refine ⟨ha w hw, ?_⟩
  rw [Oper.semAt_eq _ _ _ (plainOp_ne hp)]
  revert h3
  generalize (execOp a.eval o).run P w = r
  intro h3
  cases r with
  | halt x w' => simp only [Oper.quietUponIn] at h3
  | ok x w' =>
    cases x <;> simp only [Oper.quietUponIn] at h3 <;> simp only [Oper.uponIn]
    case value u =>
      rw [h3.1, h3.2]
      exact h _ _ hw h2
    case skip =>
      rw [h3.1, ← h3.2]
      exact h _ _ hw h2
    case enter f args =>
      rw [h3.1]
      exact ⟨h3.2.1, h3.2.2.mono fun e w'' hr => by rw [hr.1]; exact h _ _ hr.2 h2⟩

theorem wpOpIn_quiet_round {i : Nat} {a : Act} {K : Act → Prop} {K' : Act → World → Prop} {Q' : Exit → Act → World → Prop} {w : World} (hp : ∀ o ∈ ops.toList, plainOp o = true) (hC : C w) (h : ∀ a w', C w' → K a → K' a w')
    (hh : qOpIn F n P ops C i K a) : wpOpIn F n P ops Q' i K' a w := by
  unfold qOpIn at hh
  unfold wpOpIn
  split
  · rename_i ho
    simp only [ho] at hh
    exact h _ _ hC hh
  · rename_i o ho
    simp only [ho] at hh
    have hmem : o ∈ ops.toList := by
      rw [← Array.getElem?_toList] at ho
      exact List.mem_of_getElem? ho
    split
    · rename_i hg
      simp only [hg, if_true] at hh
      exact wpIn_quiet_round (hp o hmem) hC h hh.1 hh.2
    · rename_i hg
      simp only [hg] at hh
      exact ⟨hh.1 w hC, h _ _ hC hh.2⟩

theorem wpAnyIn_quiet_round {md : Region.Mode} {Q : Act → Prop} {Q' : Exit → Act → World → Prop} (hp : ∀ o ∈ ops.toList, plainOp o = true) (hQ : ∀ a w, C w → Q a → Q' .normal a w) : ∀ (fuel : Nat) (listed : Array Bool) (a : Act) (w : World), C w →
    wpAnyQIn F n P md ops C Q fuel listed a → wpAnyIn F n P md ops Q' fuel listed a w
  | 0, _, _, _, hw, h => ⟨h.1, hQ _ _ hw h.2⟩
  | fuel + 1, _, _, _, hw, h => ⟨fun h0 => hQ _ _ hw (h.1 h0), fun i hi => wpOpIn_quiet_round hp hw (fun a' w' hw' => wpAnyIn_quiet_round hp hQ fuel _ a' w' hw') (h.2 i hi)⟩

theorem wpIn_region_quiet_round {id : Nat} {Q : Exit → Act → World → Prop} {a : Act} {w : World} {l : List Oper} (hp : l.all plainOp = true) (hm : P.follows .mixedOrders = true) (hB : Region.lexB .any l.toArray = true)
    (h : wpQuietIn F n P l.toArray (fun w' => ∃ n, w' = w.drewN n) (fun a' => ∀ w', (∃ n, w' = w.drewN n) → Q .normal a' w') l a) : (Code.region id l.toArray true).wpIn F n P Q a w := by
  simp only [Region.lexB, Bool.and_eq_true] at hB
  refine wpIn_region_any hm (wpAnyIn_quiet_round (C := fun w' => ∃ n, w' = w.drewN n) (Q := fun a' => ∀ w', (∃ n, w' = w.drewN n) → Q .normal a' w') (by simpa using hp) (fun _ w' hw' h => h w' hw') _ _ _ _ ⟨1, rfl⟩ ?_)
  have := wpAnyQIn_lex (F := F) (n := n) (C := fun w' => ∃ n, w' = w.drewN n) (md := .any) hB.1 l 0 (Array.replicate l.toArray.size false) a (by simp) (by simpa using hB.2) h
  simpa using this
end
end Go.Proofs.Qxb6600570aDoor
