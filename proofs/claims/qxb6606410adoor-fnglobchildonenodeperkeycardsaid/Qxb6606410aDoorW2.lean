/-
  zzCloneStrings (7).
-/
import Derived.Test.Qxb6606410aDoorW1
namespace Go.Proofs.Qxb6606410aDoor
open Go.RowKit

theorem Tryd.info9 : (Tryd.prog.info? 9).map (fun i => (i.zero, i.size, i.bytes)) = some (some (.string ByteArray.empty), 1, 16) := by kernel_rfl

theorem clone_step {n k : Nat} {ss : List ByteArray} {xs : List Value} (hx : xs.length = n) (hlt : k < n)
    (h : ∀ i, i < k → xs[i]? = some (.string (ss.getD i ByteArray.empty))) :
    ∀ i, i < k + 1 → (xs.set k (.string (ss.getD k ByteArray.empty)))[i]? = some (.string (ss.getD i ByteArray.empty)) := by
  intro i hi
  by_cases e : i = k
  · subst e; rw [List.getElem?_set_self (by omega)]
  · rw [List.getElem?_set_ne (by omega)]; exact h i (by omega)

set_option maxHeartbeats 400000 in
theorem clone_nil (c : Nat) (w : World) :
    Calls Tryd.prog 7 #[.slice none 0 c] w fun e w' => e = .returned (.slice none 0 0) ∧ w' = w := by
  have q22 : ∀ (w : World) (a : Option Addr) (n c n' c' : Nat), (binOp .eql 22 (.slice a n c) (.slice none n' c')).run Tryd.prog w = .ok (.bool a.isNone) w := fun w a n c n' c' => Lib.run_eql_slice_nil w _ _ a n c n' c' Tryd.underlying22
  go_enter Tryd.func7, Tryd.ntmps7
  go_wp2
  go_ret
  exact ⟨rfl, rfl⟩

set_option maxHeartbeats 400000 in
theorem clone_some (ad : Addr) (n c : Nat) (ss : List ByteArray) (w : World) (hn : n ≤ 1048576) (hc : StrsAt w (some ad) n ss) :
    Calls Tryd.prog 7 #[.slice (some ad) n c] w fun e w' => e = .returned (.slice (some ⟨w.heap.size, 0, none⟩) n n) ∧ StrsAt w' (some ⟨w.heap.size, 0, none⟩) n ss ∧ Below w.heap.size w w' := by
  have q22 : ∀ (w : World) (a : Option Addr) (n c n' c' : Nat), (binOp .eql 22 (.slice a n c) (.slice none n' c')).run Tryd.prog w = .ok (.bool a.isNone) w := fun w a n c n' c' => Lib.run_eql_slice_nil w _ _ a n c n' c' Tryd.underlying22
  obtain ⟨i0, hi, hz0, hz1, hz2⟩ := info_parts Tryd.info9
  go_enter Tryd.func7, Tryd.ntmps7
  go_wp2_with (at_make; refine wpList_make_full _ rfl _ _ 22 rfl w.heap.size 9 i0 (.string ByteArray.empty) 1 Tryd.underlying22 hi hz0 hz1 _ _ _ _ n rfl rfl rfl rfl ?b1 ?b2 ?b3 ?_)
  case b1 => rw [hz2]; omega
  case b2 => unfold maxLen; omega
  case b3 => exact Nat.le_refl _
  intro w1 hown hgrow
  have hb1 : Below w.heap.size w w1 := (Below.refl _ _).grown hgrow (Nat.le_refl _) (fun k h => by cases h)
  clear hgrow hi hz0 hz1 hz2 i0
  obtain ⟨xs0, hx0, hown0⟩ : ∃ xs0 : List Value, xs0.length = n ∧ w1.ownsRow w.heap.size 9 1 (.slice (some ⟨w.heap.size, 0, none⟩) n n) n xs0 := ⟨_, by simpa using hown.1, hown⟩
  clear hown
  go_wp2
  go_loopw [4] (fun i wr => ∃ (k : Nat) (xs : List Value), k ≤ n ∧ i = .int .i64 k ∧ xs.length = n ∧ wr.ownsRow w.heap.size 9 1 (.slice (some ⟨w.heap.size, 0, none⟩) n n) n xs ∧ (∀ i, i < k → xs[i]? = some (.string (ss.getD i ByteArray.empty))) ∧ Below w.heap.size w wr) (fun i _ => n - (intOf i).toNat)
  case atStart => exact ⟨0, xs0, Nat.zero_le _, rfl, hx0, hown0, fun i hi => by omega, hb1⟩
  case round =>
    clear hown0 hx0 hb1 xs0
    obtain ⟨k, xs, hk, rfl, hx, hown, hel, hb⟩ := hrel
    by_cases hlt : k < n
    · obtain ⟨b, off, e, hck0⟩ := hc k hlt
      obtain rfl := Option.some.inj e
      have hck : wr.cell? ⟨b, off + k, none⟩ = some (.string (ss.getD k ByteArray.empty)) := (hb.cell (World.block_lt_of_cell? _ _ hck0)).trans hck0
      have hst := hown.stored k (.string (ss.getD k ByteArray.empty))
      have hel' := clone_step hx hlt hel
      have hfr := hown.frozenAt k
      have hcur : ∃ u, wr.cell? ⟨w.heap.size, k, none⟩ = some u := ⟨xs[k], by rw [hown.cellAt k (by omega)]; simp⟩
      obtain ⟨u, hcur⟩ := hcur
      have HS := hst
      clear hck0 hel hst q22 hc
      generalize ss.getD k ByteArray.empty = s at *
      have HS : Hid _ := HS
      go_wp2
      go_roundw
      case rel => exact ⟨k + 1, _, by omega, by go_num, by simpa using hx, HS.out.1, hel', hb.grown HS.out.2 hb.size (fun j h => by cases h; exact Nat.le_refl _)⟩
      case measure => simp [intOf]; omega
    · go_wp2
      go_ret
      refine ⟨rfl, fun i hi => ⟨_, _, rfl, ?_⟩, hb⟩
      rw [Nat.zero_add, hown.cellAt i (by omega)]
      exact hel i (by omega)
end Go.Proofs.Qxb6606410aDoor
