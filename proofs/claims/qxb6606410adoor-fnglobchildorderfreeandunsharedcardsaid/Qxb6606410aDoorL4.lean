/-
  FnGlobChildOrderFreeAndUnshared (4): the walk.
-/
import Derived.Test.Qxb6606410aDoorSt
import Derived.Deep.QuietTactic
import Derived.BigQuiet
import Derived.Deep.RegionHeld3
namespace Go.Proofs.Qxb6606410aDoor
open Go.RowKit

theorem Tryd.info30 : (Tryd.prog.info? 30).map (fun i => (i.zero, i.size, i.bytes)) = some (some (.pointer none), 1, 8) := by kernel_rfl

/-- Every glob so far has a star. -/
def Starred (ss : List ByteArray) (k : Nat) : Prop := ∀ i, i < k → hasStar (ss.getD i ByteArray.empty).data.toList = true
theorem Starred.succ {ss : List ByteArray} {k : Nat} (h : Starred ss k) (h2 : hasStar (ss.getD k ByteArray.empty).data.toList = true) : Starred ss (k + 1) := fun i hi => by
  by_cases e : i = k
  · rw [e]; exact h2
  · exact h i (by omega)

/-- What the repeated call leaves: the node of the first; all as filled. -/
def Again (w2 : World) (n ga NB : Nat) (Tb : Tri) (xs ys : List Value) (ss : List ByteArray) (i ka : Nat) (e : Ending) (w' : World) : Prop :=
  e = .returned (.pointer (some ⟨ka, 0, none⟩)) ∧ ∃ Ta', St w2 w' n ga (ga + 1) ga (ga + 2) NB Ta' Tb xs ys ∧ (∀ j, j < n → Filled Ta' ss xs j) ∧ pnOf Ta' (kp (ss.getD i ByteArray.empty)) = some ka

theorem St.again {w2 wr w' : World} {n ga NB : Nat} {Ta Tb : Tri} {xs ys : List Value} {ss : List ByteArray} {e : Ending} {i ka : Nat} (h : St w2 wr n ga (ga + 1) ga (ga + 2) NB Ta Tb xs ys) (hf : ∀ j, j < n → Filled Ta ss xs j)
    (hp : pnOf Ta (kp (ss.getD i ByteArray.empty)) = some ka) (hg : Got wr ga ga Ta (kp (ss.getD i ByteArray.empty)) e w') : Again w2 n ga NB Tb xs ys ss i ka e w' := by
  obtain ⟨Ta', r', k, he, hI, hF, hT, hpn⟩ := hg
  have h1 := hF.pn hp
  have h2 : pnOf Ta' (kp (ss.getD i ByteArray.empty)) = some k := pnOf_some.2 ⟨r', hT, hpn⟩
  rw [h1] at h2
  obtain rfl := Option.some.inj h2
  exact ⟨he, Ta', h.got hI hF, fun j hj => (hf j hj).fr hF, h1⟩

theorem strsAt_cell {w : World} {b off n i : Nat} {ss : List ByteArray} (h : StrsAt w (some ⟨b, off, none⟩) n ss) (hi : i < n) : w.cell? ⟨b, off + i, none⟩ = some (.string (ss.getD i ByteArray.empty)) := by
  obtain ⟨b', off', e, hc⟩ := h i hi
  simp only [Option.some.injEq, Addr.mk.injEq, and_true] at e
  obtain ⟨rfl, rfl⟩ := e
  exact hc

theorem St.at_ {w2 wr : World} {n ga gb B NA NB : Nat} {Ta Tb : Tri} {xs ys : List Value} {ss : List ByteArray} {i ka : Nat} (h : St w2 wr n ga gb B NA NB Ta Tb xs ys) (hf : ∀ j, j < n → Filled Ta ss xs j) (hi : i < n)
    (hp : pnOf Ta (kp (ss.getD i ByteArray.empty)) = some ka) : wr.cell? ⟨NA, i, none⟩ = some (.pointer (some ⟨ka, 0, none⟩)) := by
  obtain ⟨k, h1, h2⟩ := h.read hf i hi
  rw [hp] at h2
  obtain rfl := Option.some.inj h2
  exact h1

set_option maxRecDepth 100000 in
set_option maxHeartbeats 2000000 in
theorem law4_any (a : Option Addr) (n c : Nat) (ss : List ByteArray) (m : Int) (w : World) (hn : n ≤ maxLen) (ha : a = none → n = 0) (hz : ∀ i, (ss.getD i ByteArray.empty).size ≤ maxLen) (hc : StrsAt w a n ss) (hm : w.cell? ⟨0, 0, none⟩ = some (.int .i64 m)) :
    Calls Tryd.prog 4 #[.slice a n c] w fun e w' => e = .returned (.bool true) ∧ Below w.heap.size w w' := by
  have HB12 : Hid (Calls Tryd.prog 12 #[.slice a n c] w fun e w' => BoolEnd ss n e ∧ w' = w) := bytes12_any a n c ss w hn hz hc
  unfold maxLen at hn
  have HM : Hid _ := hm
  clear hm
  go_enter Tryd.func4, Tryd.ntmps4
  go_wp2_with fail
  refine HB12.out.mono ?_
  rintro e w1 ⟨⟨b0, rfl, hsh⟩, rfl⟩
  have HSH : Hid _ := hsh
  clear hsh
  clear HB12
  cases b0
  · go_wp2_with fail
    go_ret
    exact ⟨rfl, Below.refl _ _⟩
  by_cases hn4 : (4096 : Int) < (n : Int)
  · go_wp2_with fail
    go_ret
    exact ⟨rfl, Below.refl _ _⟩
  have hn5 : n ≤ 4096 := by omega
  clear hn
  go_wp2_with fail
  have HSN : Hid (Short ss n) := HSH.out trivial
  clear HSH
  go_loop [3, 4] (fun z i => ∃ (k : Nat) (t : Int), k ≤ n ∧ 0 ≤ t ∧ t ≤ 1048576 ∧ i = .int .i64 k ∧ z = .int .i64 t) (fun _ i => n - (intOf i).toNat)
  case atStart => exact ⟨0, 0, Nat.zero_le _, by omega, by omega, rfl, rfl⟩
  case round =>
    obtain ⟨k, t, hk, ht0, ht1, rfl, rfl⟩ := hrel
    by_cases hlt : k < n
    · obtain ⟨b, off, rfl, hck⟩ := hc k hlt
      have hzk := HSN.out k hlt
      generalize ss.getD k ByteArray.empty = s at hck hzk
      go_wp2_with fail
      · go_ret
        exact ⟨rfl, Below.refl _ _⟩
      · go_round
        case rel => exact ⟨k + 1, _, by omega, by omega, by omega, by go_num, rfl⟩
        case measure => simp [intOf]; omega
    · go_wp2_with fail
      clear hlt
      go_loop [5] (fun i => ∃ (k : Nat), k ≤ n ∧ i = .int .i64 k ∧ Starred ss k) (fun i => n - (intOf i).toNat)
      case atStart => exact ⟨0, Nat.zero_le _, rfl, fun i hi => by omega⟩
      case round =>
        obtain ⟨k2, hk2, rfl, hst⟩ := hrel
        have HST : Hid (Starred ss k2) := hst
        clear hst
        by_cases hlt : k2 < n
        · obtain ⟨b, off, rfl, hck⟩ := hc k2 hlt
          have HH : Hid (Calls Tryd.prog 6 #[.string (ss.getD k2 ByteArray.empty)] w1 fun e w' => e = .returned (.bool (hasStar (ss.getD k2 ByteArray.empty).data.toList)) ∧ w' = w1) := hasStar_any _ _ (hz k2)
          have HS2 : Hid (hasStar (ss.getD k2 ByteArray.empty).data.toList = true → Starred ss (k2 + 1)) := fun h => HST.out.succ h
          generalize ss.getD k2 ByteArray.empty = s at hck HH HS2
          rcases hb : hasStar s.data.toList
          · rw [hb] at HH
            clear hb
            go_wp2_with fail
            refine HH.out.mono ?_
            rintro e w2 ⟨rfl, rfl⟩
            go_wp2_with fail
            go_ret
            exact ⟨rfl, Below.refl _ _⟩
          · rw [hb] at HH
            have HS3 : Hid _ := HS2.out hb
            clear hb
            go_wp2_with fail
            refine HH.out.mono ?_
            rintro e w2 ⟨rfl, rfl⟩
            go_wp2_with fail
            go_round
            case rel => exact ⟨k2 + 1, by omega, by go_num, HS3.out⟩
            case measure => simp [intOf]; omega
        · have HSTN : Hid (Starred ss n) := fun i hi => HST.out i (by omega)
          clear HST
          have HCL : Hid (Calls Tryd.prog 7 #[.slice a n c] w1 fun e w' => CloneEnd n ss w1 e w') := clone_all a n c ss w1 ha (by omega) hc
          go_wp2_with fail
          refine HCL.out.mono ?_
          rintro e w2 ⟨a', c', rfl, hc2, hb2⟩
          go_wp2_with fail
          refine (newSet_any w2).mono ?_
          rintro e w3 ⟨rfl, rfl⟩
          go_wp2_with fail
          refine (newSet_any (w2.alloc setObj)).mono ?_
          rintro e w4 ⟨rfl, rfl⟩
          obtain ⟨i30, hi30, hz30, hy30, hb30⟩ := info_parts Tryd.info30
          rw [show (w2.alloc setObj).heap.size = w2.heap.size + 1 from by simp]
          go_wp2_with (at_make; refine wpList_make_full _ rfl _ _ 28 rfl w2.heap.size 30 i30 (.pointer none) 1 Tryd.underlying28 hi30 hz30 hy30 _ _ _ _ n rfl rfl rfl rfl ?b1 ?b2 ?b3 ?_)
          case b1 => rw [hb30]; omega
          case b2 => unfold maxLen; omega
          case b3 => simp; omega
          intro w5 own5 gr5
          rw [show w2.heap.size + 1 + 1 = w2.heap.size + 2 from rfl] at own5 ⊢
          obtain ⟨xs0, hown5⟩ : ∃ xs0 : List Value, w5.ownsRow w2.heap.size 30 1 (.slice (some ⟨w2.heap.size + 2, 0, none⟩) n n) n xs0 := ⟨_, own5⟩
          have HO5 : Hid (World.ownsRow w5 w2.heap.size 30 1 (.slice (some ⟨w2.heap.size + 2, 0, none⟩) n n) n xs0) := hown5
          have HG5 : Hid _ := gr5
          clear own5 gr5 hown5
          go_wp2_with (at_make; refine wpList_make_full _ rfl _ _ 28 rfl w2.heap.size 30 i30 (.pointer none) 1 Tryd.underlying28 hi30 hz30 hy30 _ _ _ _ n rfl rfl rfl rfl ?b4 ?b5 ?b6 ?_)
          case b4 => rw [hb30]; omega
          case b5 => unfold maxLen; omega
          case b6 => have := HG5.out.size; simp at this; omega
          intro w6 own6 gr6
          obtain ⟨ys0, hown6⟩ : ∃ ys0 : List Value, w6.ownsRow w2.heap.size 30 1 (.slice (some ⟨w5.heap.size, 0, none⟩) n n) n ys0 := ⟨_, own6⟩
          have hst6 := St.start HG5.out gr6 (HO5.out.lt _ rfl).2 (hown6.lt _ rfl).2 HO5.out hown6
          have HS6 : Hid _ := hst6
          clear own6 gr6 hown6 HO5 HG5 hst6 hi30 hz30 hy30 hb30 i30
          generalize w5.heap.size = NB at HS6 ⊢
          go_wp2_with fail
          have HCC : Hid (∀ wr, Below w2.heap.size w2 wr → StrsAt wr a' n ss) := fun wr hb i hi => by
            obtain ⟨b, off, e, h⟩ := hc2 i hi
            exact ⟨b, off, e, (hb.cell (World.block_lt_of_cell? _ _ h)).trans h⟩
          have HGG : Hid (∀ wr g' T', Inv wr g' w2.heap.size T' → Below w2.heap.size w2 wr → w2.heap.size ≤ wr.heap.size → ∀ i, i < n → Calls Tryd.prog 9 #[.pointer (some ⟨g', 0, none⟩), .string (ss.getD i ByteArray.empty)] wr fun e w' => Got wr g' w2.heap.size T' (kp (ss.getD i ByteArray.empty)) e w') := fun wr g' T' hI hb hB i hi =>
            got_any wr g' _ T' _ m hI hB (HSN.out i hi) (by
              have h0 := World.block_lt_of_cell? _ _ HM.out
              rw [hb.cell (p := ⟨0, 0, none⟩) (Nat.lt_of_lt_of_le h0 hb2.size), hb2.cell (p := ⟨0, 0, none⟩) h0]
              exact HM.out) (HSTN.out i hi)
          have HB2 : Hid _ := hb2
          clear hc2 hb2 HCL HM HSN HSTN hc hz ha hlt hk2 hk ht0 ht1
          generalize hga : w2.heap.size = ga at HS6 HCC HGG ⊢
          have HGA : Hid _ := hga
          clear hga
          go_loopw [10] (fun i wr => ∃ (k : Nat) (Ta : Tri) (xs : List Value), k ≤ n ∧ i = .int .i64 k ∧ St w2 wr n ga (ga + 1) ga (ga + 2) NB Ta (T0 (ga + 1)) xs ys0 ∧ ∀ j, j < k → Filled Ta ss xs j) (fun i _ => n - (intOf i).toNat)
          case atStart => exact ⟨0, _, _, Nat.zero_le _, rfl, HS6.out, fun j hj => by omega⟩
          case round =>
            clear HS6
            obtain ⟨k3, Ta, xs, hk3, rfl, hS, hF⟩ := hrel
            have HS : Hid _ := hS
            have HF : Hid (∀ j, j < k3 → Filled Ta ss xs j) := hF
            clear hS hF
            by_cases hlt : k3 < n
            · obtain ⟨b, off, rfl, hck⟩ := HCC.out wr HS.out.bl k3 hlt
              go_wp2_with fail
              refine (HGG.out wr ga Ta HS.out.two.ia HS.out.bl HS.out.two.lo k3 hlt).mono ?_
              rintro e w7 hgot
              obtain ⟨Ta', kk, rfl, hst', hfl, hfo, ⟨u, hu⟩, hfz⟩ := HS.out.fill hlt hgot
              have HST : Hid (St w2 (w7.setCell ⟨ga + 2, k3, none⟩ (.pointer (some ⟨kk, 0, none⟩))) n ga (ga + 1) ga (ga + 2) NB Ta' (T0 (ga + 1)) (xs.set k3 (pv kk)) ys0) := hst'
              have HFL : Hid (∀ j, j < k3 + 1 → Filled Ta' ss (xs.set k3 (pv kk)) j) := fun j hj => by
                by_cases e : j = k3
                · rw [e]; exact hfl
                · exact hfo j e (HF.out j (by omega))
              clear hst' hfl hfo hgot HS HF
              go_wp2_with fail
              go_roundw
              case rel => exact ⟨k3 + 1, Ta', _, by omega, by go_num, HST.out, HFL.out⟩
              case measure => simp [intOf]; omega
            · have HFN : Hid (∀ j, j < n → Filled Ta ss xs j) := fun j hj => HF.out j (by omega)
              clear HF
              go_wp2_with fail
              clear hlt
              obtain ⟨wo, hwo⟩ : ∃ wo : World, wo = wr := ⟨_, rfl⟩
              subst hwo
              go_loopw [11] (fun i wr => ∃ (k : Nat) (Tb : Tri) (ys : List Value), k ≤ n ∧ i = .int .i64 ((k : Int) - 1) ∧ St w2 wr n ga (ga + 1) ga (ga + 2) NB Ta Tb xs ys ∧ ∀ j, k ≤ j → j < n → Filled Tb ss ys j) (fun i _ => (intOf i + 1).toNat)
              case atStart => exact ⟨n, _, _, Nat.le_refl _, rfl, HS.out, fun j h1 h2 => by omega⟩
              case round =>
                clear HS
                obtain ⟨k4, Tb, ys, hk4, rfl, hS, hF⟩ := hrel
                have HS : Hid _ := hS
                have HF : Hid (∀ j, k4 ≤ j → j < n → Filled Tb ss ys j) := hF
                clear hS hF
                rcases k4 with _ | k4
                · have HFB : Hid (∀ j, j < n → Filled Tb ss ys j) := fun j hj => HF.out j (Nat.zero_le _) hj
                  clear HF
                  go_wp2_with fail
                  obtain ⟨wp, hwp⟩ : ∃ wp : World, wp = wr := ⟨_, rfl⟩
                  subst hwp
                  go_loopw [12] (fun i wr => ∃ (k : Nat) (Ta : Tri), k ≤ n ∧ i = .int .i64 k ∧ St w2 wr n ga (ga + 1) ga (ga + 2) NB Ta Tb xs ys ∧ ∀ j, j < n → Filled Ta ss xs j) (fun i _ => n - (intOf i).toNat)
                  case atStart => exact ⟨0, Ta, Nat.zero_le _, rfl, HS.out, HFN.out⟩
                  case round =>
                    clear HS HFN hk3 hk4
                    obtain ⟨k5, Tc, hk5, rfl, hS, hF⟩ := hrel
                    have HS : Hid _ := hS
                    have HF : Hid (∀ j, j < n → Filled Tc ss xs j) := hF
                    clear hS hF
                    by_cases hlt : k5 < n
                    · obtain ⟨b, off, rfl, hck⟩ := HCC.out wr HS.out.bl k5 hlt
                      obtain ⟨ka, hka, hpa⟩ := HS.out.read HF.out k5 hlt
                      obtain ⟨kb, hkb, hpb⟩ := HS.out.flip.read HFB.out k5 hlt
                      have HPA : Hid _ := hpa
                      have HPB : Hid _ := hpb
                      have HGK : Hid (Calls Tryd.prog 9 #[.pointer (some ⟨ga, 0, none⟩), .string (ss.getD k5 ByteArray.empty)] wr.drew fun e w' => Again w2 n ga NB Tb xs ys ss k5 ka e w') :=
                        (HGG.out wr.drew ga Tc HS.out.drew.two.ia HS.out.drew.bl HS.out.drew.two.lo k5 hlt).mono fun e w' hg => HS.out.drew.again HF.out HPA.out hg
                      have hx1 : (k5 : Int) < (n : Int) := by omega
                      clear hpa hpb
                      go_wp2_with fail
                      generalize hsx : ss.getD k5 ByteArray.empty = sx at hck HGK
                      have HSX : Hid _ := hsx
                      clear hsx
                      have hneq : ∀ W, (binOp .neq 30 (.pointer (some ⟨ka, 0, none⟩)) (.pointer (some ⟨ka, 0, none⟩))).run Tryd.prog W = .ok (.bool false) W := fun W => neq_self W ka
                      go_region_held3 (fun w' => w'.cell? ⟨b, off + k5, none⟩ = some (.string sx) ∧ w'.cell? ⟨ga + 2, k5, none⟩ = some (.pointer (some ⟨ka, 0, none⟩))) (first | go_keep | (exact ⟨by assumption, by assumption⟩))
                        (first | (go_at_call 9; refine HGK.out.mono ?_; rintro e w8 ⟨rfl, Td, hSd, hFd, hPd⟩; have hkd := St.at_ hSd hFd hlt hPd; have hke := strsAt_cell (HCC.out w8 hSd.bl) hlt; rw [HSX.out] at hke))
                      have HSd : Hid _ := hSd
                      have HFd : Hid (∀ j, j < n → Filled Td ss xs j) := hFd
                      have HPd : Hid _ := hPd
                      clear hSd hFd hPd hkd hke hneq HS HF HPA HGK hka hkb hck
                      go_wp2_with fail
                      go_loopw [13] (fun j wr => ∃ (k : Nat), k ≤ n ∧ j = .int .i64 k ∧ St w2 wr n ga (ga + 1) ga (ga + 2) NB Td Tb xs ys) (fun j _ => n - (intOf j).toNat)
                      case atStart => exact ⟨0, Nat.zero_le _, rfl, HSd.out⟩
                      case round =>
                        clear HSd
                        obtain ⟨k6, hk6, rfl, hS6⟩ := hrel
                        have HS6 : Hid _ := hS6
                        clear hS6
                        by_cases hlt6 : k6 < n
                        · obtain ⟨kc, hkc, hpc⟩ := HS6.out.flip.read HFB.out k6 hlt6
                          have hka := St.at_ HS6.out HFd.out hlt HPd.out
                          have hx6 : (k6 : Int) < (n : Int) := by omega
                          have hap := HS6.out.apart HPd.out hpc
                          clear hpc
                          go_wp2_with fail
                          go_quiet (fail)
                          have HS7 : Hid _ := HS6.out.drewN nq
                          clear HS6 hap hkc hka
                          go_wp2_with fail
                          go_roundw
                          case rel => exact ⟨k6 + 1, by omega, by go_num, HS7.out⟩
                          case measure => simp [intOf]; omega
                        · go_wp2_with fail
                          obtain ⟨wq, hwq⟩ : ∃ wq : World, wq = wr := ⟨_, rfl⟩
                          subst hwq
                          go_loopw [14] (fun j wr => ∃ (k : Nat), k ≤ k5 ∧ j = .int .i64 k ∧ St w2 wr n ga (ga + 1) ga (ga + 2) NB Td Tb xs ys) (fun j _ => k5 - (intOf j).toNat)
                          case atStart => exact ⟨0, Nat.zero_le _, rfl, HS6.out⟩
                          case round =>
                            clear HS6 hlt6 hk6
                            obtain ⟨k7, hk7, rfl, hS7⟩ := hrel
                            have HS7 : Hid _ := hS7
                            clear hS7
                            by_cases hlt7 : k7 < k5
                            · have hlt8 : k7 < n := by omega
                              obtain ⟨kc, hkc, hpc⟩ := HS7.out.flip.read HFB.out k7 hlt8
                              obtain ⟨kd, hkd, hpd⟩ := HS7.out.read HFd.out k7 hlt8
                              have hka := St.at_ HS7.out HFd.out hlt HPd.out
                              have hkb := St.at_ HS7.out.flip HFB.out hlt HPB.out
                              have hA := HS7.out.alike HPd.out hpd
                              have hB := HS7.out.flip.alike HPB.out hpc
                              generalize decide (kp (ss.getD k5 ByteArray.empty) = kp (ss.getD k7 ByteArray.empty)) = bb at hA hB
                              have hx7 : (k7 : Int) < (n : Int) := by omega
                              clear hpc hpd
                              go_wp2_with fail
                              go_quiet (fail)
                              have HS8 : Hid _ := HS7.out.drewN nq
                              clear HS7 hA hB hkc hka hkb hkd
                              go_wp2_with fail
                              go_roundw
                              case rel => exact ⟨k7 + 1, by omega, by go_num, HS8.out⟩
                              case measure => simp [intOf]; omega
                            · go_wp2_with fail
                              go_roundw
                              case rel => (repeat apply Exists.intro); exact ⟨⟨k5 + 1, Td, by omega, by go_num, HS7.out, HFd.out⟩, rfl⟩
                              case measure => simp [intOf]; omega
                    · go_wp2_with fail
                      go_ret
                      exact ⟨rfl, (HB2.out).trans (HS.out.bl.mono (by rw [← HGA.out]; exact HB2.out.size))⟩
                · have hlt : k4 < n := by omega
                  obtain ⟨b, off, rfl, hck⟩ := HCC.out wr HS.out.bl k4 hlt
                  rw [show ((k4 + 1 : Nat) : Int) - 1 = (k4 : Int) from by omega]
                  go_wp2_with fail
                  refine (HGG.out wr (ga + 1) Tb HS.out.two.ib HS.out.bl HS.out.two.lo k4 hlt).mono ?_
                  rintro e w7 hgot
                  obtain ⟨Tb', kk, rfl, hst', hfl, hfo, ⟨u, hu⟩, hfz⟩ := HS.out.flip.fill hlt hgot
                  have HST : Hid (St w2 (w7.setCell ⟨NB, k4, none⟩ (.pointer (some ⟨kk, 0, none⟩))) n ga (ga + 1) ga (ga + 2) NB Ta Tb' xs (ys.set k4 (pv kk))) := St.flip hst'
                  have HFL : Hid (∀ j, k4 ≤ j → j < n → Filled Tb' ss (ys.set k4 (pv kk)) j) := fun j hj1 hj2 => by
                    by_cases e : j = k4
                    · rw [e]; exact hfl
                    · exact hfo j e (HF.out j (by omega) hj2)
                  clear hst' hfl hfo hgot HS HF
                  go_wp2_with fail
                  go_roundw
                  case rel => exact ⟨k4, Tb', _, by omega, by go_num, HST.out, HFL.out⟩
                  case measure => simp [intOf]
end Go.Proofs.Qxb6606410aDoor
