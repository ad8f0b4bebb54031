/-
  A range over an iterator that keeps its place in a cell of its own (strings.SplitSeq): what such an iterator promises, and what a loop over it does. The loop's body never leaves early.
-/
import Derived.RangeFuncNested
import Derived.RangeFuncBound
import Derived.RangeFuncCalls
import Derived.RangeFuncLeaves
import Derived.Shelf.Abstract
import Derived.Shelf.RegionOpen
import Derived.WalkKit
import Derived.OwnWalkIn
import Derived.TacticsInMore
import Derived.LoopNIn
import Derived.LoopIn
namespace Go.Proofs.Qxb6600570aDoor
open Go.RowKit

/-- Blocks from lo to hi lie as they lay. -/
def Kept (lo hi : Nat) (W W' : World) : Prop := ∀ k, lo ≤ k → k < hi → W'.heap[k]? = W.heap[k]?

theorem Kept.trans {lo hi : Nat} {A B C : World} (h : Kept lo hi A B) (k : Kept lo hi B C) : Kept lo hi A C := fun j h1 h2 => (k j h1 h2).trans (h j h1 h2)
theorem Kept.put {lo hi : Nat} (W : World) (l : Nat) (o : Obj) (h : hi ≤ l) : Kept lo hi W (W.putObj l o) := fun _ _ h2 => World.putObj_heap_other (by omega)

/-- The iterator: it hands out xs, one after the other, while what the caller holds true (J) is indifferent to the cell sb. -/
def CellSeq {α : Type} (F : Fence) (n : Nat) (P : Program) (g : Nat) (lb : Array Value) (encs : α → Array Value) (ok : α → Prop) (lo hi sb : Nat) (xs : List α) (w : World) : Prop :=
  ∀ (l : Nat) (J : List α → World → Prop) (W : World), Below w.heap.size w W → (∀ pre A v, J pre A → J pre (A.setCell ⟨sb, 0, none⟩ v)) →
    (∀ pre x W1, ok x → J pre W1 → YieldAt F (n - 1) P l (encs x) W1 fun e W' => e = .returned (.bool true) ∧ J (pre ++ [x]) W' ∧ Kept lo hi W1 W') →
    J [] W → CallsIn F n P g (#[.func (.yield l) #[] #[]] ++ lb) W fun e W' => (∃ v, e = .returned v) ∧ J xs W'

/-- How a round of the body ends. -/
def roundPost {α : Type} (lo hi : Nat) (I : List α → World → Prop) (xs : List α) (W : World) : Exit → Act → World → Prop
  | .normal, _, W' => KeepsOthers W W' ∧ Kept lo hi W W' ∧ I xs W'
  | _, _, _ => False

theorem wpIn_range_cell {F : Fence} {n : Nat} {P : Program} {α : Type} {g : Operand} {ps : Array Tmp} {assign body : Code} {Q : Exit → Act → World → Prop} {a : Act} {w : World}
    (hro : F.round = none) (h1 : 1 ≤ n) {gf : Nat} {lb : Array Value} (hg : a.eval g = .func (.func gf) #[] lb) (hFg : F.fn gf) (eg : ∀ args w, (callFunc gf args).run P w = .ok (.enter gf args) w)
    {encs : α → Array Value} {ok : α → Prop} {lo hi sb : Nat} {xs : List α} (hsb : sb < w.heap.size) (hhi : hi ≤ w.heap.size) (hseq : CellSeq F (n - 1) P gf lb encs ok lo hi sb xs w) (hps : ∀ x, (encs x).size = ps.size)
    (I : List α → World → Prop) (hI : OwnFrom w.heap.size I) (hIs : ∀ pre A v, I pre A → I pre (A.setCell ⟨sb, 0, none⟩ v)) (h0 : I [] w) (a₁ : α → Act)
    (hassign : ∀ (l : Nat) (x : α) (W : World) (K : Act → World → Prop), K (a₁ x) W →
      assign.wpIn (F.inRound l) (n - 1 - 1) P (Exit.then K (fun _ _ _ => False)) { tmps := (ps.zip (encs x)).foldl (fun t (p, v) => t.setIfInBounds p v) a.tmps, defers := [] } W)
    (hbody : ∀ (l : Nat) (pre : List α) (x : α) (W : World), ok x → I pre W → w.heap.size ≤ W.heap.size → body.wpIn (F.inRound l) (n - 1 - 1) P (roundPost lo hi I (pre ++ [x]) W) (a₁ x) W)
    (hdone : ∀ (D : Nat) (W : World), w.heap.size ≤ D → I xs W → W.heap[D]? = some (.deferred (some [])) → Q .normal { a with defers := { target := .collected D, args := #[] } :: a.defers } W) :
    (Code.rangeFunc g ps assign body).wpIn F n P Q a w := by
  refine wpIn_rangeFunc ?_
  intro fn hfn
  rw [hro]
  -- the loop's record, in its three states
  generalize hrec : (fun st pe => ({ state := st, pending := pe, fn, tmps := a.tmps, params := ps, assign, body, defers := w.heap.size } : Loop)) = rec
  generalize hW1 : (w.alloc (.deferred (some []))).alloc (.loop (rec .ready none)) = W1
  have hB : Below w.heap.size w W1 := by
    rw [← hW1]
    exact ((Below.refl _ w).alloc (Nat.le_refl _) _).alloc (by simp) _
  have hrow : W1.heap[w.heap.size + 1]? = some (.loop (rec .ready none)) ∧ W1.heap[w.heap.size]? = some (.deferred (some [])) := by
    rw [← hW1]
    refine ⟨?_, (Below.heap_alloc _ _ _ (by simp)).trans (World.alloc_heap_new w _)⟩
    have := World.alloc_heap_new (w.alloc (.deferred (some []))) (.loop (rec .ready none))
    rwa [World.size_alloc] at this
  have hI1 : I [] W1 := by
    rw [← hW1]
    exact hI.alloc _ (hI.alloc _ h0)
  refine ⟨w.heap.size + 1, [{ target := .collected w.heap.size, args := #[] }], W1, { target := .fn (.func gf) lb, args := #[.func (.yield (w.heap.size + 1)) #[] #[]] }, W1, gf, #[.func (.yield (w.heap.size + 1)) #[] #[]] ++ lb, W1, ?_, ?_, ?_, ?_, fun _ => h1, ?_⟩
  · rw [← hW1, ← hrec]
    exact run_enterLoop_outer _ _ _ _ _
  · simp only [resolve, hg]
    simp [go_sem]
  · intro f' hf'
    simp [Target.leads] at hf'
    subst hf'
    exact hFg
  · simp [invoke, go_sem, eg]
  · refine (hseq (w.heap.size + 1) (fun pre W => I pre W ∧ W.heap[w.heap.size + 1]? = some (.loop (rec .ready none)) ∧ W.heap[w.heap.size]? = some (.deferred (some []))) W1 hB ?_ ?_ ⟨hI1, hrow⟩).mono ?_
    · rintro pre A v ⟨k1, k2, k3⟩
      exact ⟨hIs pre A v k1, (Below.heap_setCell _ _ _ _ (by show w.heap.size + 1 ≠ sb; omega)).trans k2, (Below.heap_setCell _ _ _ _ (by show w.heap.size ≠ sb; omega)).trans k3⟩
    · rintro pre x W hok ⟨hi, hl, hk⟩
      have hlt : w.heap.size + 1 < W.heap.size := (Array.getElem?_eq_some_iff.1 hl).1
      have hy := run_yield (P := P) (args := encs x) hl (by rw [← hrec]; exact hps x)
      rw [← hrec] at hy
      refine ⟨fn, _, assign, body, hy, roundIn_of_wpIn hfn (hassign _ x W _ ⟨_, run_beginRound hl (by rw [← hrec]), ?_⟩)⟩
      generalize hbusy : ({ rec .ready none with state := .busy } : Loop) = busy
      have hl2 : (W.putObj (w.heap.size + 1) (.loop busy)).heap[w.heap.size + 1]? = some (.loop busy) := World.putObj_heap_same hlt
      have hk2 : (W.putObj (w.heap.size + 1) (.loop busy)).heap[w.heap.size]? = some (.deferred (some [])) := (World.putObj_heap_other (by omega)).trans hk
      refine wpIn_mono (hbody _ pre x _ hok (hI.putObj _ hi (by omega) hl rfl) (by have := (Array.getElem?_eq_some_iff.1 hl2).1; omega)) ?_
      rintro e a3 W3 hp
      cases e with
      | normal =>
        obtain ⟨hk3, hkp3, hi3⟩ := hp
        have hl3 := hk3.same _ _ hl2 rfl
        have hend := run_endRound (P := P) none (by rw [← hbusy] at hl3; exact hl3)
        refine ⟨_, _, hend, rfl, ⟨?_, ?_, ?_⟩, ?_⟩
        · exact hI.putObj _ hi3 (by omega) hl3 rfl
        · refine (World.putObj_heap_same (Array.getElem?_eq_some_iff.1 hl3).1).trans ?_
          rw [← hrec]
          rfl
        · exact (World.putObj_heap_other (by omega)).trans (hk3.same _ _ hk2 rfl)
        · exact (((Kept.put W _ _ (by omega)).trans hkp3)).trans (Kept.put W3 _ _ (by omega))
      | ret => exact hp.elim
      | exit id => exact hp.elim
      | goto t => exact hp.elim
      | panic ch => exact hp.elim
      | outgrown => exact hp.elim
    · rintro e W2 ⟨⟨v, rfl⟩, hi, hl, hk⟩
      exact ⟨none, _, by have := run_endLoop (P := P) hl (by rw [← hrec]; simp); rw [← hrec] at this; exact this, hdone _ _ (Nat.le_refl _) (hI.putObj _ hi (by omega) hl rfl) ((World.putObj_heap_other (by omega)).trans hk)⟩
end Go.Proofs.Qxb6600570aDoor
