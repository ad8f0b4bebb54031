/-
  FnGlobChildOneNodePerKey (3): the walk.
-/
import Derived.Test.Qxb6606410aDoorS3
import Derived.Deep.QuietTactic
import Derived.BigQuiet
import Derived.Deep.RegionHeld3
namespace Go.Proofs.Qxb6606410aDoor
open Go.RowKit

theorem Tryd.info33 : (Tryd.prog.info? 33).map (fun i => (i.zero, i.size, i.bytes)) = some (some keyZ, 3, 56) := by kernel_rfl
theorem Tryd.info30 : (Tryd.prog.info? 30).map (fun i => (i.zero, i.size, i.bytes)) = some (some (.pointer none), 1, 8) := by kernel_rfl

/-- Every glob so far has a star. -/
def Starred (ss : List ByteArray) (k : Nat) : Prop := ∀ i, i < k → hasStar (ss.getD i ByteArray.empty).data.toList = true
theorem Starred.succ {ss : List ByteArray} {k : Nat} (h : Starred ss k) (h2 : hasStar (ss.getD k ByteArray.empty).data.toList = true) : Starred ss (k + 1) := fun i hi => by
  by_cases e : i = k
  · rw [e]; exact h2
  · exact h i (by omega)

theorem strsAt_cell {w : World} {b off n i : Nat} {ss : List ByteArray} (h : StrsAt w (some ⟨b, off, none⟩) n ss) (hi : i < n) : w.cell? ⟨b, off + i, none⟩ = some (.string (ss.getD i ByteArray.empty)) := by
  obtain ⟨b', off', e, hc⟩ := h i hi
  simp only [Option.some.injEq, Addr.mk.injEq, and_true] at e
  obtain ⟨rfl, rfl⟩ := e
  exact hc

/-- What the comparison of two keys leaves. -/
def Cmp (w2 : World) (n ga NK : Nat) (T : Tri) (xs : List Value) (ss : List ByteArray) (ka kb : Nat) (bb : Bool) (i j : Nat) (p1 s1 : ByteArray) (a1 : Option Addr) (m1 c1 : Nat) (p2 s2 : ByteArray) (a2 : Option Addr) (m2 c2 : Nat) (e : Ending) (w' : World) : Prop :=
  e = .returned (.bool bb) ∧ S3 w2 w' n ga ga (ga + 1) NK T xs ∧ (∀ j, j < n → Filled T ss xs j ∧ KeyIn w' T (ga + 1) NK j (ss.getD j ByteArray.empty)) ∧
    (w'.cell? ⟨ga + 1, i, none⟩ = some (.pointer (some ⟨ka, 0, none⟩)) ∧ w'.cell? ⟨ga + 1, j, none⟩ = some (.pointer (some ⟨kb, 0, none⟩)) ∧ w'.cell? ⟨NK, i * 3, none⟩ = some (.string p1) ∧ w'.cell? ⟨NK, i * 3 + 1, none⟩ = some (.string s1) ∧ w'.cell? ⟨NK, i * 3 + 2, none⟩ = some (.slice a1 m1 c1) ∧
      w'.cell? ⟨NK, j * 3, none⟩ = some (.string p2) ∧ w'.cell? ⟨NK, j * 3 + 1, none⟩ = some (.string s2) ∧ w'.cell? ⟨NK, j * 3 + 2, none⟩ = some (.slice a2 m2 c2) ∧ (binOp .eql 30 (.pointer (some ⟨ka, 0, none⟩)) (.pointer (some ⟨kb, 0, none⟩))).run Tryd.prog w' = .ok (.bool bb) w')

/-- Two nodes are one just where the keys are one; also behind new memory. -/
theorem S3.alike {w2 wr w' : World} {n g B NN NK : Nat} {T : Tri} {xs : List Value} (h : S3 w2 wr n g B NN NK T xs) {p q : Path} {k1 k2 : Nat} (h1 : pnOf T p = some k1) (h2 : pnOf T q = some k2) (hb : Below wr.heap.size wr w') :
    (binOp .eql 30 (.pointer (some ⟨k1, 0, none⟩)) (.pointer (some ⟨k2, 0, none⟩))).run Tryd.prog w' = .ok (.bool (decide (p = q))) w' := by
  have hI := h.inv.below hb
  rw [eql_nodes _ k1 k2 (hI.isNode h1) (hI.isNode h2)]
  have : (k1 == k2) = decide (p = q) := by
    rw [Bool.eq_iff_iff]
    simp only [beq_iff_eq, decide_eq_true_eq]
    exact hI.pn_inj h1 h2
  rw [this]

theorem S3.cmp {w2 wr : World} {n ga NK : Nat} {T : Tri} {xs : List Value} {ss : List ByteArray} {i j ka kb : Nat} {p1 s1 : ByteArray} {a1 : Option Addr} {m1 c1 : Nat} {ms1 : List ByteArray} {p2 s2 : ByteArray} {a2 : Option Addr} {m2 c2 : Nat} {ms2 : List ByteArray}
    (h : S3 w2 wr n ga ga (ga + 1) NK T xs) (hf : ∀ j, j < n → Filled T ss xs j ∧ KeyIn wr T (ga + 1) NK j (ss.getD j ByteArray.empty)) (h1 : KeyAt wr NK i p1 s1 a1 m1 c1 ms1 (ss.getD i ByteArray.empty)) (h2 : KeyAt wr NK j p2 s2 a2 m2 c2 ms2 (ss.getD j ByteArray.empty))
    (hpa : pnOf T (kp (ss.getD i ByteArray.empty)) = some ka) (hpb : pnOf T (kp (ss.getD j ByteArray.empty)) = some kb) (hxa : xs[i]? = some (pv ka)) (hxb : xs[j]? = some (pv kb)) (hi : i < n) (hj : j < n)
    (hs1 : hasStar (ss.getD i ByteArray.empty).data.toList = true) (hs2 : hasStar (ss.getD j ByteArray.empty).data.toList = true) :
    Calls Tryd.prog 11 #[.agg #[.string p1, .string s1, .slice a1 m1 c1], .agg #[.string p2, .string s2, .slice a2 m2 c2]] wr.drew fun e w' =>
      Cmp w2 n ga NK T xs ss ka kb (decide (kp (ss.getD i ByteArray.empty) = kp (ss.getD j ByteArray.empty))) i j p1 s1 a1 m1 c1 p2 s2 a2 m2 c2 e w' := by
  refine (same_any p1 s1 p2 s2 a1 a2 m1 c1 m2 c2 ms1 ms2 wr.drew h1.strs h2.strs h1.len h2.len h1.bd h2.bd).mono fun e w' ⟨r, he, hr, hb0⟩ => ?_
  have hb : Below wr.heap.size wr w' := ((Below.refl _ wr).drew).trans hb0
  have hk := kp_eq _ _ hs1 hs2
  rw [← h1.pre_, ← h2.pre_, ← h1.suf_, ← h2.suf_, ← h1.mids_, ← h2.mids_] at hk
  have hrb : r = decide (kp (ss.getD i ByteArray.empty) = kp (ss.getD j ByteArray.empty)) := by
    rw [Bool.eq_iff_iff, hr, decide_eq_true_eq, hk]
  have hS := h.below hb
  have hkl : NK < wr.heap.size := World.block_lt_of_cell? _ _ h1.c0
  have hc : ∀ o, w'.cell? ⟨NK, o, none⟩ = wr.cell? ⟨NK, o, none⟩ := fun o => cell_of (hb.block NK hkl) o
  refine ⟨by rw [he, hrb], hS, fun t ht => ⟨(hf t ht).1, (hf t ht).2.outside hb.size (fun k hk _ => hb.block k hk) h.ne⟩, (hS.cell i hi).trans hxa, (hS.cell j hj).trans hxb, (hc _).trans h1.c0, (hc _).trans h1.c1, (hc _).trans h1.c2, (hc _).trans h2.c0, (hc _).trans h2.c1, (hc _).trans h2.c2, h.alike hpa hpb hb⟩

set_option maxRecDepth 100000 in
set_option maxHeartbeats 2000000 in
theorem law3_any (a : Option Addr) (n c : Nat) (ss : List ByteArray) (m : Int) (w : World) (hn : n ≤ maxLen) (ha : a = none → n = 0) (hz : ∀ i, (ss.getD i ByteArray.empty).size ≤ maxLen) (hc : StrsAt w a n ss) (hm : w.cell? ⟨0, 0, none⟩ = some (.int .i64 m)) :
    Calls Tryd.prog 3 #[.slice a n c] w fun e w' => e = .returned (.bool true) ∧ Below w.heap.size w w' := by
  have HB12 : Hid (Calls Tryd.prog 5 #[.slice a n c] w fun e w' => BoolEnd ss n e ∧ w' = w) := bytes5_any a n c ss w hn hz hc
  unfold maxLen at hn
  have HM : Hid _ := hm
  clear hm
  go_enter Tryd.func3, Tryd.ntmps3
  go_wp2_with fail
  refine HB12.out.mono ?_
  rintro e w1 ⟨⟨b0, rfl, hsh⟩, rfl⟩
  have HSH : Hid _ := hsh
  clear hsh
  clear HB12
  cases b0
  · go_wp2_with fail
    go_ret
    exact ⟨rfl, Below.refl _ _⟩
  by_cases hn4 : (4096 : Int) < (n : Int)
  · go_wp2_with fail
    go_ret
    exact ⟨rfl, Below.refl _ _⟩
  have hn5 : n ≤ 4096 := by omega
  clear hn
  go_wp2_with fail
  have HSN : Hid (Short ss n) := HSH.out trivial
  clear HSH
  go_loop [3, 4] (fun z i => ∃ (k : Nat) (t : Int), k ≤ n ∧ 0 ≤ t ∧ t ≤ 1048576 ∧ i = .int .i64 k ∧ z = .int .i64 t) (fun _ i => n - (intOf i).toNat)
  case atStart => exact ⟨0, 0, Nat.zero_le _, by omega, by omega, rfl, rfl⟩
  case round =>
    obtain ⟨k, t, hk, ht0, ht1, rfl, rfl⟩ := hrel
    by_cases hlt : k < n
    · obtain ⟨b, off, rfl, hck⟩ := hc k hlt
      have hzk := HSN.out k hlt
      generalize ss.getD k ByteArray.empty = s at hck hzk
      go_wp2_with fail
      · go_ret
        exact ⟨rfl, Below.refl _ _⟩
      · go_round
        case rel => exact ⟨k + 1, _, by omega, by omega, by omega, by go_num, rfl⟩
        case measure => simp [intOf]; omega
    · go_wp2_with fail
      clear hlt
      go_loop [5] (fun i => ∃ (k : Nat), k ≤ n ∧ i = .int .i64 k ∧ Starred ss k) (fun i => n - (intOf i).toNat)
      case atStart => exact ⟨0, Nat.zero_le _, rfl, fun i hi => by omega⟩
      case round =>
        obtain ⟨k2, hk2, rfl, hst⟩ := hrel
        have HST : Hid (Starred ss k2) := hst
        clear hst
        by_cases hlt : k2 < n
        · obtain ⟨b, off, rfl, hck⟩ := hc k2 hlt
          have HH : Hid (Calls Tryd.prog 6 #[.string (ss.getD k2 ByteArray.empty)] w1 fun e w' => e = .returned (.bool (hasStar (ss.getD k2 ByteArray.empty).data.toList)) ∧ w' = w1) := hasStar_any _ _ (hz k2)
          have HS2 : Hid (hasStar (ss.getD k2 ByteArray.empty).data.toList = true → Starred ss (k2 + 1)) := fun h => HST.out.succ h
          generalize ss.getD k2 ByteArray.empty = s at hck HH HS2
          rcases hb : hasStar s.data.toList
          · rw [hb] at HH
            clear hb
            go_wp2_with fail
            refine HH.out.mono ?_
            rintro e w2 ⟨rfl, rfl⟩
            go_wp2_with fail
            go_ret
            exact ⟨rfl, Below.refl _ _⟩
          · rw [hb] at HH
            have HS3 : Hid _ := HS2.out hb
            clear hb
            go_wp2_with fail
            refine HH.out.mono ?_
            rintro e w2 ⟨rfl, rfl⟩
            go_wp2_with fail
            go_round
            case rel => exact ⟨k2 + 1, by omega, by go_num, HS3.out⟩
            case measure => simp [intOf]; omega
        · have HSTN : Hid (Starred ss n) := fun i hi => HST.out i (by omega)
          clear HST
          have HCL : Hid (Calls Tryd.prog 7 #[.slice a n c] w1 fun e w' => CloneEnd n ss w1 e w') := clone_all a n c ss w1 ha (by omega) hc
          go_wp2_with fail
          refine HCL.out.mono ?_
          rintro e w2 ⟨a', c', rfl, hc2, hb2⟩
          go_wp2_with fail
          refine (newSet_any w2).mono ?_
          rintro e w3 ⟨rfl, rfl⟩
          obtain ⟨i30, hi30, hz30, hy30, hb30⟩ := info_parts Tryd.info30
          obtain ⟨i33, hi33, hz33, hy33, hb33⟩ := info_parts Tryd.info33
          go_wp2_with (at_make; refine wpList_make_full _ rfl _ _ 28 rfl w2.heap.size 30 i30 (.pointer none) 1 Tryd.underlying28 hi30 hz30 hy30 _ _ _ _ n rfl rfl rfl rfl ?b1 ?b2 ?b3 ?_)
          case b1 => rw [hb30]; omega
          case b2 => unfold maxLen; omega
          case b3 => simp
          intro w5 own5 gr5
          obtain ⟨xs0, hown5⟩ : ∃ xs0 : List Value, w5.ownsRow w2.heap.size 30 1 (.slice (some ⟨w2.heap.size + 1, 0, none⟩) n n) n xs0 := ⟨_, own5⟩
          have HO5 : Hid (World.ownsRow w5 w2.heap.size 30 1 (.slice (some ⟨w2.heap.size + 1, 0, none⟩) n n) n xs0) := hown5
          have HG5 : Hid _ := gr5
          clear own5 gr5 hown5
          go_wp2_with (at_make; refine wpList_make_full _ rfl _ _ 29 rfl w2.heap.size 33 i33 keyZ 3 Tryd.underlying29 hi33 hz33 hy33 _ _ _ _ n rfl rfl rfl rfl ?b4 ?b5 ?b6 ?_)
          case b4 => rw [hb33]; omega
          case b5 => unfold maxLen; omega
          case b6 => have := HG5.out.size; simp at this; omega
          intro w6 own6 gr6
          obtain ⟨ys0, hown6⟩ : ∃ ys0 : List Value, w6.ownsRow w2.heap.size 33 3 (.slice (some ⟨w5.heap.size, 0, none⟩) n n) n ys0 := ⟨_, own6⟩
          have hst6 := S3.start HG5.out gr6 (HO5.out.lt _ rfl).2 (hown6.lt _ rfl).2 HO5.out hown6
          have HS6 : Hid _ := hst6
          clear own6 gr6 hown6 HO5 HG5 hst6 hi30 hz30 hy30 hb30 i30 hi33 hz33 hy33 hb33 i33
          generalize w5.heap.size = NK at HS6 ⊢
          go_wp2_with fail
          have HCC : Hid (∀ wr, Below w2.heap.size w2 wr → StrsAt wr a' n ss) := fun wr hb i hi => by
            obtain ⟨b, off, e, h⟩ := hc2 i hi
            exact ⟨b, off, e, (hb.cell (World.block_lt_of_cell? _ _ h)).trans h⟩
          have HGG : Hid (∀ wr g' T', Inv wr g' w2.heap.size T' → Below w2.heap.size w2 wr → w2.heap.size ≤ wr.heap.size → ∀ i, i < n → Calls Tryd.prog 9 #[.pointer (some ⟨g', 0, none⟩), .string (ss.getD i ByteArray.empty)] wr fun e w' => Got wr g' w2.heap.size T' (kp (ss.getD i ByteArray.empty)) e w') := fun wr g' T' hI hb hB i hi =>
            got_any wr g' _ T' _ m hI hB (HSN.out i hi) (by
              have h0 := World.block_lt_of_cell? _ _ HM.out
              rw [hb.cell (p := ⟨0, 0, none⟩) (Nat.lt_of_lt_of_le h0 hb2.size), hb2.cell (p := ⟨0, 0, none⟩) h0]
              exact HM.out) (HSTN.out i hi)
          have HKK : Hid (∀ wr i, i < n → Calls Tryd.prog 10 #[.string (ss.getD i ByteArray.empty)] wr fun e w' => KeyEnd (ss.getD i ByteArray.empty) wr e w') := fun wr i hi => keyOf_any _ wr (HSN.out i hi) (HSTN.out i hi)
          have HB2 : Hid _ := hb2
          clear hc2 hb2 HCL HM hc hz ha hlt hk2 hk ht0 ht1
          generalize hga : w2.heap.size = ga at HS6 HCC HGG ⊢
          have HGA : Hid _ := hga
          clear hga
          go_loopw [9] (fun i wr => ∃ (k : Nat) (T : Tri) (xs : List Value), k ≤ n ∧ i = .int .i64 k ∧ S3 w2 wr n ga ga (ga + 1) NK T xs ∧ ∀ j, j < k → Filled T ss xs j ∧ KeyIn wr T (ga + 1) NK j (ss.getD j ByteArray.empty)) (fun i _ => n - (intOf i).toNat)
          case atStart => exact ⟨0, _, _, Nat.zero_le _, rfl, HS6.out, fun j hj => by omega⟩
          case round =>
            clear HS6
            obtain ⟨k3, T, xs, hk3, rfl, hS, hF⟩ := hrel
            have HS : Hid _ := hS
            have HF : Hid (∀ j, j < k3 → Filled T ss xs j ∧ KeyIn wr T (ga + 1) NK j (ss.getD j ByteArray.empty)) := hF
            clear hS hF
            by_cases hlt : k3 < n
            · obtain ⟨b, off, rfl, hck⟩ := HCC.out wr HS.out.bl k3 hlt
              go_wp2_with fail
              refine (HGG.out wr ga T HS.out.inv HS.out.bl HS.out.lo k3 hlt).mono ?_
              rintro e w7 hgot
              obtain ⟨T', kk, rfl, hst', hfl, hfo, ⟨u, hu⟩, hfz⟩ := HS.out.fill hlt HF.out hgot
              have HST : Hid (S3 w2 (w7.setCell ⟨ga + 1, k3, none⟩ (.pointer (some ⟨kk, 0, none⟩))) n ga ga (ga + 1) NK T' (xs.set k3 (pv kk))) := hst'
              have HFL : Hid (Filled T' ss (xs.set k3 (pv kk)) k3) := hfl
              have HFO : Hid (∀ j, j < k3 → Filled T' ss (xs.set k3 (pv kk)) j ∧ KeyIn (w7.setCell ⟨ga + 1, k3, none⟩ (.pointer (some ⟨kk, 0, none⟩))) T' (ga + 1) NK j (ss.getD j ByteArray.empty)) := hfo
              have hcl2 := strsAt_cell (HCC.out _ HST.out.bl) hlt
              clear hst' hfl hfo hgot HS HF
              go_wp2_with fail
              refine (HKK.out _ k3 hlt).mono ?_
              rintro e w8 hke
              obtain ⟨pre, suf, ka, km, kc, rfl, hst2, hall, hs8⟩ := HST.out.fillKey hlt HFL.out (HSN.out k3 hlt) HFO.out hke
              obtain ⟨⟨u0, hu0⟩, hf0⟩ := hs8.keyCells k3 hlt 0 (by omega)
              obtain ⟨⟨u1, hu1⟩, hf1⟩ := hs8.keyCells k3 hlt 1 (by omega)
              obtain ⟨⟨u2', hu2⟩, hf2⟩ := hs8.keyCells k3 hlt 2 (by omega)
              rw [Nat.add_zero] at hu0 hf0
              have HS2 : Hid (S3 w2 (put3 w8 NK k3 (.string pre) (.string suf) (.slice ka km kc)) n ga ga (ga + 1) NK T' (xs.set k3 (pv kk))) := hst2
              have HAL : Hid (∀ j, j < k3 + 1 → Filled T' ss (xs.set k3 (pv kk)) j ∧ KeyIn (put3 w8 NK k3 (.string pre) (.string suf) (.slice ka km kc)) T' (ga + 1) NK j (ss.getD j ByteArray.empty)) := hall
              clear hst2 hall hs8 hke HST HFL HFO hcl2 hck
              go_wp2_with fail
              go_roundw
              case rel => exact ⟨k3 + 1, T', _, by omega, by go_num, HS2.out, HAL.out⟩
              case measure => simp [intOf]; omega
            · have HFN : Hid (∀ j, j < n → Filled T ss xs j ∧ KeyIn wr T (ga + 1) NK j (ss.getD j ByteArray.empty)) := fun j hj => HF.out j (by omega)
              clear HF
              go_wp2_with fail
              obtain ⟨wo, hwo⟩ : ∃ wo : World, wo = wr := ⟨_, rfl⟩
              subst hwo
              clear hlt
              go_loopw [10] (fun i wr => ∃ (k : Nat), k ≤ n ∧ i = .int .i64 k ∧ S3 w2 wr n ga ga (ga + 1) NK T xs ∧ ∀ j, j < n → Filled T ss xs j ∧ KeyIn wr T (ga + 1) NK j (ss.getD j ByteArray.empty)) (fun i _ => n - (intOf i).toNat)
              case atStart => exact ⟨0, Nat.zero_le _, rfl, HS.out, HFN.out⟩
              case round =>
                clear HS HFN
                obtain ⟨k5, hk5, rfl, hS, hF⟩ := hrel
                have HS : Hid _ := hS
                have HF : Hid (∀ j, j < n → Filled T ss xs j ∧ KeyIn wr T (ga + 1) NK j (ss.getD j ByteArray.empty)) := hF
                clear hS hF
                by_cases hlt : k5 < n
                · obtain ⟨ka, hxa, hpa⟩ := (HF.out k5 hlt).1
                  have hka : wr.cell? ⟨ga + 1, k5, none⟩ = some (.pointer (some ⟨ka, 0, none⟩)) := (HS.out.cell k5 hlt).trans hxa
                  have HPA : Hid _ := hpa
                  have HXA : Hid _ := hxa
                  clear hpa hxa
                  go_wp2_with fail
                  clear hka
                  obtain ⟨wp, hwp⟩ : ∃ wp : World, wp = wr := ⟨_, rfl⟩
                  subst hwp
                  go_loopw [11] (fun i wr => ∃ (k : Nat), k ≤ k5 ∧ i = .int .i64 k ∧ S3 w2 wr n ga ga (ga + 1) NK T xs ∧ ∀ j, j < n → Filled T ss xs j ∧ KeyIn wr T (ga + 1) NK j (ss.getD j ByteArray.empty)) (fun i _ => k5 - (intOf i).toNat)
                  case atStart => exact ⟨0, Nat.zero_le _, rfl, HS.out, HF.out⟩
                  case round =>
                    clear HS HF
                    obtain ⟨k6, hk6, rfl, hS, hF⟩ := hrel
                    have HS : Hid _ := hS
                    have HF : Hid (∀ j, j < n → Filled T ss xs j ∧ KeyIn wr T (ga + 1) NK j (ss.getD j ByteArray.empty)) := hF
                    clear hS hF
                    by_cases hlt6 : k6 < k5
                    · have hlt7 : k6 < n := by omega
                      obtain ⟨p1, s1, a1, m1, c1, ms1, hK1, hA1⟩ := (HF.out k5 hlt).2
                      obtain ⟨p2, s2, a2, m2, c2, ms2, hK2, hA2⟩ := (HF.out k6 hlt7).2
                      obtain ⟨kb, hxb, hpb⟩ := (HF.out k6 hlt7).1
                      have hka : wr.cell? ⟨ga + 1, k5, none⟩ = some (.pointer (some ⟨ka, 0, none⟩)) := (HS.out.cell k5 hlt).trans HXA.out
                      have hkb : wr.cell? ⟨ga + 1, k6, none⟩ = some (.pointer (some ⟨kb, 0, none⟩)) := (HS.out.cell k6 hlt7).trans hxb
                      have hq0 := hK1.c0
                      have hq1 := hK1.c1
                      have hq2 := hK1.c2
                      have hr0 := hK2.c0
                      have hr1 := hK2.c1
                      have hr2 := hK2.c2
                      have heq0 := HS.out.alike HPA.out hpb (w' := wr.drew) ((Below.refl _ _).drew)
                      have HSM : Hid (Calls Tryd.prog 11 #[.agg #[.string p1, .string s1, .slice a1 m1 c1], .agg #[.string p2, .string s2, .slice a2 m2 c2]] wr.drew fun e w' => Cmp w2 n ga NK T xs ss ka kb (decide (kp (ss.getD k5 ByteArray.empty) = kp (ss.getD k6 ByteArray.empty))) k5 k6 p1 s1 a1 m1 c1 p2 s2 a2 m2 c2 e w') :=
                        HS.out.cmp HF.out hK1 hK2 HPA.out hpb HXA.out hxb hlt hlt7 (HSTN.out k5 hlt) (HSTN.out k6 hlt7)
                      generalize decide (kp (ss.getD k5 ByteArray.empty) = kp (ss.getD k6 ByteArray.empty)) = bb at heq0 HSM
                      have hx5 : (k5 : Int) < (n : Int) := by omega
                      have hx6 : (k6 : Int) < (n : Int) := by omega
                      clear hK1 hK2 hA1 hA2 hpb hxb
                      go_wp2_with fail
                      go_region_held3 (fun w' => w'.cell? ⟨ga + 1, k5, none⟩ = some (.pointer (some ⟨ka, 0, none⟩)) ∧ w'.cell? ⟨ga + 1, k6, none⟩ = some (.pointer (some ⟨kb, 0, none⟩)) ∧ w'.cell? ⟨NK, k5 * 3, none⟩ = some (.string p1) ∧ w'.cell? ⟨NK, k5 * 3 + 1, none⟩ = some (.string s1) ∧ w'.cell? ⟨NK, k5 * 3 + 2, none⟩ = some (.slice a1 m1 c1) ∧
                          w'.cell? ⟨NK, k6 * 3, none⟩ = some (.string p2) ∧ w'.cell? ⟨NK, k6 * 3 + 1, none⟩ = some (.string s2) ∧ w'.cell? ⟨NK, k6 * 3 + 2, none⟩ = some (.slice a2 m2 c2) ∧ (binOp .eql 30 (.pointer (some ⟨ka, 0, none⟩)) (.pointer (some ⟨kb, 0, none⟩))).run Tryd.prog w' = .ok (.bool bb) w')
                        (first | go_keep | assumption)
                        (first | (go_at_call 11; refine HSM.out.mono ?_; rintro e w8 ⟨rfl, hS8, hF8, hL8⟩))
                      have HS8 : Hid _ := hS8
                      have HF8 : Hid (∀ j, j < n → Filled T ss xs j ∧ KeyIn w8 T (ga + 1) NK j (ss.getD j ByteArray.empty)) := hF8
                      clear hS8 hF8 hL8 HS HF HSM heq0 hka hkb hq0 hq1 hq2 hr0 hr1 hr2
                      go_wp2_with fail
                      go_roundw
                      case rel => exact ⟨k6 + 1, by omega, by go_num, HS8.out, HF8.out⟩
                      case measure => simp [intOf]; omega
                    · go_wp2_with fail
                      go_roundw
                      case rel => exact ⟨k5 + 1, by omega, by go_num, HS.out, HF.out⟩
                      case measure => simp [intOf]; omega
                · go_wp2_with fail
                  go_ret
                  exact ⟨rfl, (HB2.out).trans (HS.out.bl.mono (by rw [← HGA.out]; exact HB2.out.size))⟩
end Go.Proofs.Qxb6606410aDoor
