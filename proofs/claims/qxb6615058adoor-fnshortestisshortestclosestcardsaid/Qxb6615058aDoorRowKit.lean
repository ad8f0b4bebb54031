/-
  What both rows list, read off the world.
-/
import Derived.Test.Qxb6615058aDoorW9
import Derived.Test.Qxb6615058aDoorTie
import Derived.Test.Qxb6615058aDoorCards
import Derived.ProofKit
import Derived.OpenShut
import Derived.Lay
import Derived.LaidOnce
import Derived.PinnedBridge
import Derived.Lib.LaidTab
import Derived.Lib.LaidU8
import Derived.SevenTiedAt
import Derived.Stop.Joined
import Derived.ChangeArms
import Derived.FnData
namespace Go.Proofs.Qxb6615058aDoor
open Go.ChangeShapes Go.WideShapes Go.ChangeAt Go.RowKit

theorem own : ownKnob Tryd.prog.godebug = none := by kernel_rfl

/-- What both rows list. -/
def laidAll : List (String × DataW Unit) := Rows.fnShortestKeepsOrderRow.laid
/-- The name of the table of powers of ten. -/
def tabName : String := (Rows.fnShortestKeepsOrderRow.laid.getD 5 ("", .lit (.bool true))).1

theorem pow_eq : (Rows.laid_internal_strconv_uint64pow10 : DataW Unit) = Lib.tabData .u64 Lib.pow10Tab := by kernel_rfl

theorem pow_mem : (powName, (Rows.laid_internal_strconv_uint64pow10 : DataW Unit)) ∈ laidAll := by
  show _ ∈ [_, _, _, _, _, _]
  exact .tail _ (.tail _ (.tail _ (.head _)))
theorem tab_mem : (tabName, Pinned.pow10Tab) ∈ laidAll := by
  show _ ∈ [_, _, _, _, _, _]
  exact .tail _ (.tail _ (.tail _ (.tail _ (.tail _ (.head _)))))

theorem tabAt_of {W : World} (hL : laidMet Tryd.prog laidAll W) : TabAt W := by
  have h := Lib.laidMet.reads hL pow_mem
  rw [pow_eq] at h
  obtain ⟨g, t', cs, fuel, p, hg, hty', hvar, hd⟩ := h
  have hgn : Tryd.prog.globalNamed powName = some 1 := by kernel_rfl
  obtain rfl := Option.some.inj (hgn.symm.trans hg)
  have hty : (Tryd.prog.globals[1]?).map (·.type) = some 84 := by kernel_rfl
  obtain rfl := Option.some.inj (hty.symm.trans hty')
  unfold TabAt Lib.TabIs
  rw [hvar, ← Lib.cells_of_tab Tryd.underlying84 Tryd.underlying28 (by kernel_rfl) (by kernel_rfl) hd]

theorem pair_of {w : World} {fuel : Nat} {cs : List Value} {a b : Nat} {p : List MemPlace} (h : DataW.trod (fun _ => ()) Tryd.prog w 0 (fun _ => true) false fuel 93 cs = some (.agg [.lit (.int .u64 a), .lit (.int .u64 b)], p)) : cs[0]? = some (.int .u64 a) ∧ cs[1]? = some (.int .u64 b) := by
  obtain ⟨xs, n, rfl, hx, hl, hsz, hf⟩ := DataW.trod_struct Tryd.underlying93 h
  have hxs : xs.map (·.1) = [.lit (.int .u64 a), .lit (.int .u64 b)] := by
    have := congrArg Prod.fst hx
    simpa using this.symm
  have h0 : DataW.trod (fun _ => ()) Tryd.prog w 0 (fun _ => true) false n 28 ((cs.drop 0).take (Tryd.prog.cellsOf 28)) = xs[0]? := hf 0 _ rfl
  have h1 : DataW.trod (fun _ => ()) Tryd.prog w 0 (fun _ => true) false n 28 ((cs.drop 1).take (Tryd.prog.cellsOf 28)) = xs[1]? := hf 1 _ rfl
  have c0 : Tryd.prog.cellsOf 28 = 1 := by kernel_rfl
  rw [c0] at h0 h1
  match xs, hxs, h0, h1 with
  | [x, y], hxs, h0, h1 =>
    simp only [List.map_cons, List.map_nil, List.cons.injEq, and_true] at hxs
    obtain ⟨n0, e0, rfl, _⟩ := DataW.trod_int Tryd.underlying28 (show _ = some x from h0)
    obtain ⟨n1, e1, rfl, _⟩ := DataW.trod_int Tryd.underlying28 (show _ = some y from h1)
    obtain ⟨q0, q1⟩ := hxs
    simp only [DataW.lit.injEq, Lit.int.injEq, true_and] at q0 q1
    subst q0 q1
    have r0 := congrArg (·[0]?) e0
    have r1 := congrArg (·[0]?) e1
    simp at r0 r1
    exact ⟨r0, r1⟩

theorem pow10At_of {W : World} (hL : laidMet Tryd.prog laidAll W) : Pow10At W := by
  obtain ⟨g, t', cs, fuel, p, hg, hty', hvar, hd⟩ := Lib.laidMet.reads hL tab_mem
  have hgn : Tryd.prog.globalNamed tabName = some 2 := by kernel_rfl
  obtain rfl := Option.some.inj (hgn.symm.trans hg)
  have hty : (Tryd.prog.globals[2]?).map (·.type) = some 94 := by kernel_rfl
  obtain rfl := Option.some.inj (hty.symm.trans hty')
  have ce : Tryd.prog.cellsOf 93 = 2 := by kernel_rfl
  have ct : Tryd.prog.cellsOf 94 = 1392 := by kernel_rfl
  cases fuel with
  | zero => simp [DataW.trod] at hd
  | succ fuel =>
    simp only [DataW.trod, Tryd.underlying94, ce, ct] at hd
    split at hd
    · rename_i hl
      obtain ⟨xs, hm, hx⟩ := Option.map_eq_some_iff.1 hd
      have hxs : xs.map (·.1) = Pinned.pow10Rows.map fun x => (DataW.agg [.lit (.int .u64 x.1), .lit (.int .u64 x.2)] : DataW Unit) := by
        have := congrArg Prod.fst hx
        unfold Pinned.pow10Tab at this
        simp only [DataW.agg.injEq] at this
        exact this
      intro i hi
      obtain ⟨b, hb, hf⟩ := Lib.mapM_at hm i i (by simp [hi])
      have hlen : Pinned.pow10Rows.length = 696 := by decide +kernel
      obtain ⟨r, hr⟩ : ∃ r, Pinned.pow10Rows[i]? = some r := by
        cases e : Pinned.pow10Rows[i]? with
        | none => exact absurd (List.getElem?_eq_none_iff.1 e) (by omega)
        | some r => exact ⟨r, rfl⟩
      have h2 : (xs.map (·.1))[i]? = some b.1 := by simp [hb]
      rw [hxs, List.getElem?_map, hr] at h2
      simp only [Option.map_some, Option.some.injEq] at h2
      have hf2 : DataW.trod (fun _ => ()) Tryd.prog W 0 (fun _ => true) false fuel 93 ((cs.toList.drop (i * 2)).take 2) = some (b.1, b.2) := hf
      rw [← h2] at hf2
      obtain ⟨p0, p1⟩ := pair_of hf2
      simp [List.getElem?_drop] at p0 p1
      have th : tabH ((i : Int) - 348) = r.1 ∧ tabL ((i : Int) - 348) = r.2 := by
        unfold tabH tabL
        rw [show ((i : Int) - 348 + 348).toNat = i by omega, List.getD_eq_getElem?_getD, hr]
        exact ⟨rfl, rfl⟩
      rw [th.1, th.2]
      refine ⟨?_, ?_⟩
      · rw [World.var?_cell hgn hvar]
        exact p0
      · rw [World.var?_cell hgn hvar]
        exact p1
    · cases hd
end Go.Proofs.Qxb6615058aDoor
