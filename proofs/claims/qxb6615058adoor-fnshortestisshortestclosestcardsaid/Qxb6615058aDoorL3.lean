/-
  The walk of law 3: FnShortestIsShortestClosest (3).
-/
import Derived.Test.Qxb6615058aDoorX6
namespace Go.Proofs.Qxb6615058aDoor
open Go.RowKit

theorem text_neg {b : Nat} (hb : Fin64 b) : textW (negW b) = textT (!negOf b) (dsW b) (xW b) := by
  obtain ⟨_, h2, h3, h4⟩ := negW_parts hb
  have e1 : dsW (negW b) = dsW b := by unfold dsW; rw [h3, h4]
  have e2 : xW (negW b) = xW b := by unfold xW; rw [h3, h4]
  unfold textW
  rw [h2, e1, e2]

/-- What the two texts of law 3 bring. -/
structure Two3 (w : World) (b : Nat) (s1 s2 d1 : ByteArray) (n1 : Bool) (x1 : Int) : Prop where
  c1 : Calls Tryd.prog 5 #[.float .f64 b] w fun e w' => e = .returned (.string s1) ∧ Below w.heap.size w w'
  c2 : ∀ W, Below w.heap.size w W → Calls Tryd.prog 5 #[.float .f64 (negW b)] W fun e w' => e = .returned (.string s2) ∧ Below W.heap.size W w'
  np : ∀ W, Calls Tryd.prog 6 #[.string s1, .string s2] W fun e w' => e = .returned (.bool true) ∧ w' = W
  pa : ∀ W, Calls Tryd.prog 7 #[.string s1] W fun e w' => e = .returned (.tuple #[.bool n1, .string d1, .int .i64 x1, .bool true]) ∧ Below W.heap.size W w'
  sg : ∀ W, Calls Tryd.prog 8 #[.float .f64 b] W fun e w' => e = .returned (.bool n1) ∧ w' = W

theorem two3 {b : Nat} {w : World} (hb : Fin64 b) (ht : Pow10At w) (htab : TabAt w) : Two3 w b ⟨(textT (negOf b) (dsW b) (xW b)).toArray⟩ ⟨(textT (!negOf b) (dsW b) (xW b)).toArray⟩ (dstr (dsW b)) (negOf b) (xW b) := by
  have h := word_ok hb
  have h2lt : 2 < w.heap.size := World.block_lt_of_cell? _ _ (ht 0 (by decide)).1
  refine ⟨shortest_any b w hb ht htab, fun W hW => ?_, fun W => ?_, fun W => ?_, fun W => signBit_any b hb W⟩
  · have h3 := shortest_any (negW b) W (negW_parts hb).1 (ht.below hW) (htab.below (B := w.heap.size) (by omega) hW)
    rw [text_neg hb] at h3
    exact h3
  · exact negPair_any _ _ _ W h.len.1 h.len.2 (by have := h.exp; omega) h.lt
  · exact parse_any _ _ _ W h.len.1 (by have := h.len; omega) h.lt h.exp.1 h.exp.2

set_option maxRecDepth 100000 in
set_option maxHeartbeats 4000000 in
theorem law3_zero (b : Nat) (w : World) (hb : Fin64 b) (hm : mOf b = 0) (ht : Pow10At w) (htab : TabAt w) :
    Calls Tryd.prog 3 #[.float .f64 b] w fun e w' => e = .returned (.bool true) ∧ Below w.heap.size w w' := by
  have hz : FloatKind.f64.format.order 0 0 = some .eq := by decide +kernel
  have ra : ∀ W, (binOp .sub 22 (.float .f64 b) (.float .f64 b)).run Tryd.prog W = .ok (.float .f64 0) W := fun W => run_sub_fin b hb W
  have ho : FloatKind.f64.format.order b 0 = some .eq := by have h := order_zero hb; rw [if_pos hm] at h; exact h
  have hun : ∀ W, (Op.unary .neg (.float .f64 b)).run Tryd.prog W = .ok (.float .f64 (negW b)) W := fun W => rfl
  have h2 := two3 hb ht htab
  have e1 : dsW b = [0] := by unfold dsW; rw [if_pos hm]
  have e2 : xW b = 0 := by unfold xW; rw [if_pos hm]
  rw [e1, e2] at h2
  have hd : ((dstr [0]).toList == [48]) = true := by rw [dstr_one _ (by simp)]; rfl
  generalize (⟨(textT (negOf b) [0] 0).toArray⟩ : ByteArray) = s1 at *
  generalize (⟨(textT (!negOf b) [0] 0).toArray⟩ : ByteArray) = s2 at *
  generalize dstr [0] = d1 at *
  generalize negOf b = n1 at *
  have HT : Hid (Two3 w b s1 s2 d1 n1 0) := h2
  have hn1 : (n1 != n1) = false := by simp
  clear h2 hb hm ht htab e1 e2
  go_enter Tryd.func3, Tryd.ntmps3
  go_wp2_with fail
  refine HT.out.c1.mono ?_
  rintro e w1 ⟨rfl, hb1⟩
  have HB1 : Hid (Below w.heap.size w w1) := hb1
  clear hb1
  go_wp2_with fail
  refine (HT.out.c2 _ HB1.out).mono ?_
  rintro e w2 ⟨rfl, hb2⟩
  have HB2 : Hid (Below w.heap.size w w2) := HB1.out.trans (hb2.mono HB1.out.size)
  clear hb2 HB1
  go_wp2_with fail
  refine (HT.out.np _).mono ?_
  rintro e w3 ⟨rfl, rfl⟩
  go_wp2_with fail
  refine (HT.out.pa _).mono ?_
  rintro e w4 ⟨rfl, hb4⟩
  have HB4 : Hid (Below w.heap.size w w4) := HB2.out.trans (hb4.mono HB2.out.size)
  clear hb4 HB2
  go_wp2_with fail
  refine (HT.out.sg _).mono ?_
  rintro e w5 ⟨rfl, rfl⟩
  go_wp2_with fail
  go_ret
  exact ⟨rfl, HB4.out⟩

set_option maxRecDepth 100000 in
set_option maxHeartbeats 8000000 in
theorem law3_pos (b : Nat) (w : World) (hb : Fin64 b) (hm : mOf b ≠ 0) (hng0 : negOf b = false) (ht : Pow10At w) (htab : TabAt w) :
    Calls Tryd.prog 3 #[.float .f64 b] w fun e w' => e = .returned (.bool true) ∧ Below w.heap.size w w' := by
  have hz : FloatKind.f64.format.order 0 0 = some .eq := by decide +kernel
  have ra : ∀ W, (binOp .sub 22 (.float .f64 b) (.float .f64 b)).run Tryd.prog W = .ok (.float .f64 0) W := fun W => run_sub_fin b hb W
  have hf := isFloat_of hb hm
  have hbest := best_dec hf
  have hok := word_ok hb
  have hwz := hok.zero
  obtain ⟨hdl, hdd, hde, _, _⟩ := hok
  have h2 := two3 hb ht htab
  have eds : dsW b = (decOf (mOf b) (eOf b)).1 := by unfold dsW; rw [if_neg hm]
  have exx : xW b = (decOf (mOf b) (eOf b)).2 := by unfold xW; rw [if_neg hm]
  have hcan := dec_ok hf
  rw [← eds, ← exx] at hbest hcan
  rw [hng0] at h2
  have hwd : b = wordOf (mOf b) (eOf b) := word_of hb hng0
  have ho : FloatKind.f64.format.order b 0 = some .gt := by have h := order_zero hb; rw [if_neg hm, hng0] at h; exact h
  have hun : ∀ W, (Op.unary .neg (.float .f64 b)).run Tryd.prog W = .ok (.float .f64 (negW b)) W := fun W => rfl
  have HSP : Hid (∀ W : World, Calls Tryd.prog 9 #[.float .f64 (b)] W fun e w' => e = .returned (.tuple #[.int .u64 (mOf b : Nat), .int .i64 (eOf b)]) ∧ w' = W) := fun W => by
    have h := split_any (mOf b) (eOf b) W hf
    rw [← hwd] at h
    exact h
  clear hwd
  obtain ⟨k, hk⟩ : ∃ k, k = (dsW b).length := ⟨_, rfl⟩
  have hsz := dstr_size (dsW b)
  rw [← hk] at hsz hdl
  have h0 : 0 < (dstr (dsW b)).size := by omega
  have h9 : (dstr (dsW b)).size - 1 < (dstr (dsW b)).size := by omega
  have g0 : ((((dstr (dsW b))[0]'h0).toNat : Int) == 48) = false := by
    have hh := hcan.head
    rw [dstr_get (dsW b) 0 h0 (by omega) hdd, beq_eq_false_iff_ne]
    rw [List.head?_eq_getElem?, List.getElem?_eq_getElem (by omega : 0 < (dsW b).length)] at hh
    simp at hh
    omega
  have h9' : k - 1 < (dstr (dsW b)).size := by omega
  have g9 : ((((dstr (dsW b))[k - 1]'h9').toNat : Int) == 48) = false := by
    have hh := hcan.last
    rw [dstr_get (dsW b) (k - 1) h9' (by omega) hdd, beq_eq_false_iff_ne]
    rw [List.getLast?_eq_getElem?, ← hk, List.getElem?_eq_getElem (by omega : k - 1 < (dsW b).length)] at hh
    simp at hh
    omega
  have hvlt : valD (dsW b) < 100000000000000000 := by
    have h1 := valD_lt (dsW b) hdd
    have h2 : 10 ^ (dsW b).length ≤ 10 ^ 17 := Nat.pow_le_pow_right (by decide) (by omega)
    omega
  have hv1 : 1 ≤ valD (dsW b) := by
    have h1 := valD_head (ds := dsW b) (by omega) hcan.head
    have h2 : 0 < 10 ^ ((dsW b).length - 1) := Nat.pow_pos (by decide)
    omega
  have hexp := hcan.exp
  have HD : Hid (∀ d ∈ dsW b, d < 10) := hdd
  have HK : Hid (k = (dsW b).length) := hk
  rw [← hk] at hbest
  clear hcan hdd hwz eds exx hde hk
  have hm1 := hf.pos
  have hm2 := hf.lt
  have hE1 := hf.lo
  have hE2 := hf.hi
  generalize (⟨(textT false (dsW b) (xW b)).toArray⟩ : ByteArray) = s1 at *
  generalize (⟨(textT (!false) (dsW b) (xW b)).toArray⟩ : ByteArray) = s2 at *
  generalize dsW b = ds at *
  generalize xW b = x1 at *
  generalize mOf b = m at *
  generalize eOf b = E at *
  obtain ⟨v, hv⟩ : ∃ v, v = valD ds := ⟨_, rfl⟩
  obtain ⟨Q, hQ⟩ : ∃ Q : Int, Q = x1 - (k : Int) + 1 := ⟨_, rfl⟩
  rw [← hv, ← hQ] at hbest
  rw [← hv] at hvlt hv1
  have HVV : Hid (v = valD ds) := hv
  have hQb : -370 ≤ Q ∧ Q ≤ 370 := by omega
  have zQ : x1 - ((k : Int) - 1) = Q := by omega
  obtain ⟨Q1, hQ1⟩ : ∃ Q1 : Int, Q1 = Q + 1 := ⟨_, rfl⟩
  obtain ⟨v10, hv10⟩ : ∃ y, y = v / 10 := ⟨_, rfl⟩
  obtain ⟨v11, hv11⟩ : ∃ y, y = v / 10 + 1 := ⟨_, rfl⟩
  obtain ⟨vu, hvu⟩ : ∃ y, y = v + 1 := ⟨_, rfl⟩
  obtain ⟨vd, hvd⟩ : ∃ y, y = v - 1 := ⟨_, rfl⟩
  obtain ⟨V2, hV2⟩ : ∃ y, y = 2 * v := ⟨_, rfl⟩
  obtain ⟨v2u, hv2u⟩ : ∃ y, y = 2 * v + 1 := ⟨_, rfl⟩
  obtain ⟨v2d, hv2d⟩ : ∃ y, y = 2 * v - 1 := ⟨_, rfl⟩
  obtain ⟨m2, hm22⟩ : ∃ y, y = 2 * m := ⟨_, rfl⟩
  obtain ⟨b3, hb3⟩ : ∃ y, y = inB m E vu Q := ⟨_, rfl⟩
  obtain ⟨b4, hb4⟩ : ∃ y, y = inB m E vd Q := ⟨_, rfl⟩
  obtain ⟨c3, hc3⟩ : ∃ y, y = sgn (cmpA v2u Q E) (cmpB m2 Q E) := ⟨_, rfl⟩
  obtain ⟨c4, hc4⟩ : ∃ y, y = sgn (cmpA v2d Q E) (cmpB m2 Q E) := ⟨_, rfl⟩
  have z1 : Q + 1 = Q1 := hQ1.symm
  have z2 : (v : Int) / 10 = (v10 : Int) := by omega
  have z3 : (v10 : Int) + 1 = (v11 : Int) := by omega
  have z4 : (v : Int) + 1 = (vu : Int) := by omega
  have z5 : (v : Int) - 1 = (vd : Int) := by omega
  have z6 : 2 * (v : Int) = (V2 : Int) := by omega
  have z7 : (V2 : Int) + 1 = (v2u : Int) := by omega
  have z8 : (V2 : Int) - 1 = (v2d : Int) := by omega
  have z9 : 2 * (m : Int) = (m2 : Int) := by omega
  have HI0 : Hid (∀ W : World, Calls Tryd.prog 10 #[.int .u64 v, .int .i64 Q, .int .u64 m, .int .i64 E] W fun e w' => e = .returned (.bool true) ∧ Below W.heap.size W w') := fun W => by
    have h := in_any v m Q E W (by omega) (by omega) hm2 (by omega) (by omega) hE1 hE2
    rw [(inB_iff m E v Q (by omega) hE1).2 hbest.inn] at h
    exact h
  have hshort : ∀ y, inB m E y Q1 = false := fun y => by
    cases hh : inB m E y Q1
    · rfl
    · exfalso
      rw [hQ1] at hh
      exact hbest.short y ((inB_iff m E y (Q + 1) (by omega) hE1).1 hh)
  have HI1 : Hid (∀ W : World, Calls Tryd.prog 10 #[.int .u64 v10, .int .i64 Q1, .int .u64 m, .int .i64 E] W fun e w' => e = .returned (.bool false) ∧ Below W.heap.size W w') := fun W => by
    have h := in_any v10 m Q1 E W (by omega) (by omega) hm2 (by omega) (by omega) hE1 hE2
    rw [hshort] at h
    exact h
  have HI2 : Hid (∀ W : World, Calls Tryd.prog 10 #[.int .u64 v11, .int .i64 Q1, .int .u64 m, .int .i64 E] W fun e w' => e = .returned (.bool false) ∧ Below W.heap.size W w') := fun W => by
    have h := in_any v11 m Q1 E W (by omega) (by omega) hm2 (by omega) (by omega) hE1 hE2
    rw [hshort] at h
    exact h
  have HI3 : Hid (∀ W : World, Calls Tryd.prog 10 #[.int .u64 vu, .int .i64 Q, .int .u64 m, .int .i64 E] W fun e w' => e = .returned (.bool b3) ∧ Below W.heap.size W w') := fun W => by
    rw [hb3]
    exact in_any vu m Q E W (by omega) (by omega) hm2 (by omega) (by omega) hE1 hE2
  have HI4 : Hid (∀ W : World, Calls Tryd.prog 10 #[.int .u64 vd, .int .i64 Q, .int .u64 m, .int .i64 E] W fun e w' => e = .returned (.bool b4) ∧ Below W.heap.size W w') := fun W => by
    rw [hb4]
    exact in_any vd m Q E W (by omega) (by omega) hm2 (by omega) (by omega) hE1 hE2
  have HC3 : Hid (b3 = true → 0 ≤ c3 ∧ ∀ W : World, Calls Tryd.prog 11 #[.int .u64 v2u, .int .i64 Q, .int .u64 m2, .int .i64 E] W fun e w' => e = .returned (.int .i64 c3) ∧ Below W.heap.size W w') := fun hh => by
    rw [hb3, hvu] at hh
    have h1 := hbest.up ((inB_iff m E (v + 1) Q (by omega) hE1).1 hh)
    refine ⟨?_, fun W => ?_⟩
    · rw [hc3, sgn_ge]
      obtain ⟨K, k0, k1, k2⟩ := cmp_mid v2u m2 Q E (by omega) hE1
      rw [← Nat.mul_le_mul_right_iff k0, k1, k2, hv2u, hm22]
      exact Nat.le_of_not_lt h1
    · rw [hc3]
      exact cmpDB_any v2u m2 Q E W (by omega) (by omega) (by omega) (by omega) (by omega) (by omega)
  have HC4 : Hid (b4 = true → c4 ≤ 0 ∧ ∀ W : World, Calls Tryd.prog 11 #[.int .u64 v2d, .int .i64 Q, .int .u64 m2, .int .i64 E] W fun e w' => e = .returned (.int .i64 c4) ∧ Below W.heap.size W w') := fun hh => by
    rw [hb4, hvd] at hh
    have h1 := hbest.down ((inB_iff m E (v - 1) Q (by omega) hE1).1 hh)
    refine ⟨?_, fun W => ?_⟩
    · rw [hc4, sgn_le]
      obtain ⟨K, k0, k1, k2⟩ := cmp_mid v2d m2 Q E (by omega) hE1
      rw [← Nat.mul_le_mul_right_iff k0, k1, k2, hv2d, hm22]
      exact Nat.le_of_not_lt h1
    · rw [hc4]
      exact cmpDB_any v2d m2 Q E W (by omega) (by omega) (by omega) (by omega) (by omega) (by omega)
  have HT : Hid (Two3 w b s1 s2 (dstr ds) false x1) := h2
  have hkb : 1 ≤ k ∧ k ≤ 17 := hdl
  have hbnd : v11 ≤ 20000000000000000 ∧ vu ≤ 200000000000000000 ∧ v2u ≤ 300000000000000000 ∧ V2 ≤ 300000000000000000 ∧ m2 < 18014398509481984 := by omega
  have hxb : -400 ≤ x1 ∧ x1 ≤ 400 := by omega
  have y1 : ¬ (17 : Int) < (k : Int) := by omega
  have y2 : (k : Int) ≤ 17 := by omega
  have y3 : decide ((k : Int) > 17) = false := by simp; omega
  have y4 : ¬ (0 : Int) ≥ (k : Int) := by omega
  have y5 : (0 : Int) < (k : Int) := by omega
  have y6 : 1 ≤ (k : Int) ∧ (k : Int) - 1 < (k : Int) := by omega
  have y7 : ((k : Int) - 1).toNat = k - 1 := by omega
  clear h2 hb hm ht htab hbest hf hshort hv hQ hQ1 hv10 hv11 hvu hvd hV2 hv2u hv2d hm22 hb3 hb4 hc3 hc4 hdl hexp hng0
  go_enter Tryd.func3, Tryd.ntmps3
  go_wp2_with fail
  refine HT.out.c1.mono ?_
  rintro e w1 ⟨rfl, hb1⟩
  have HB1 : Hid (Below w.heap.size w w1) := hb1
  clear hb1
  go_wp2_with fail
  refine (HT.out.c2 _ HB1.out).mono ?_
  rintro e w2 ⟨rfl, hb2⟩
  have HB2 : Hid (Below w.heap.size w w2) := HB1.out.trans (hb2.mono HB1.out.size)
  clear hb2 HB1
  go_wp2_with fail
  refine (HT.out.np _).mono ?_
  rintro e w3 ⟨rfl, rfl⟩
  go_wp2_with fail
  refine (HT.out.pa _).mono ?_
  rintro e w4 ⟨rfl, hb4⟩
  have HB4 : Hid (Below w.heap.size w w4) := HB2.out.trans (hb4.mono HB2.out.size)
  clear hb4 HB2
  go_wp2_with fail
  refine (HT.out.sg _).mono ?_
  rintro e w5 ⟨rfl, rfl⟩

  go_wp2_with fail
  go_loop [11, 12] (fun mv jv => ∃ j : Nat, jv = .int .i64 j ∧ j ≤ k ∧ mv = .int .u64 (valD (ds.take j) : Nat)) (fun _ jv => k - (intOf jv).toNat)
  case atStart => exact ⟨0, rfl, Nat.zero_le _, rfl⟩
  case round =>
    obtain ⟨j, rfl, hj, rfl⟩ := hrel
    by_cases hlt : j < k
    · have hjl : j < ds.length := by rw [← HK.out]; exact hlt
      have hjr : j < (dstr ds).size := by rw [hsz]; exact hlt
      have x1 : (j : Int) < (k : Int) := by omega
      have dj := dstr_get ds j hjr hjl HD.out
      have dl := HD.out ds[j] (List.getElem_mem hjl)
      have HV : Hid (valD (ds.take (j + 1)) = 10 * valD (ds.take j) + ds[j]) := by
        rw [Hid, List.take_succ_eq_append_getElem hjl, valD_snoc']
      have hvb : valD (ds.take j) < 100000000000000000 := by
        have h1 := valD_lt (ds.take j) (fun d hd => HD.out d (List.mem_of_mem_take hd))
        rw [List.length_take] at h1
        have h2 : 10 ^ min j ds.length ≤ 10 ^ 17 := Nat.pow_le_pow_right (by decide) (by omega)
        omega
      have HJ : Hid (((dstr ds)[j]'hjr).toNat = 48 + ds[j]) := dj
      have b1 : ((dstr ds)[j]'hjr).toNat ≤ 57 := by omega
      have b2 : 48 ≤ ((dstr ds)[j]'hjr).toNat := by omega
      generalize valD (ds.take j) = vj at *
      clear dj dl
      go_wp2_with fail
      go_round
      case rel => exact ⟨j + 1, by go_num, by omega, by rw [HV.out]; have := HJ.out; go_num⟩
      case measure => simp [intOf]; omega
    · obtain rfl : j = k := by omega
      have htk : ds.take j = ds := List.take_of_length_le (by rw [← HK.out]; exact Nat.le_refl _)
      rw [htk, ← HVV.out]
      have x1 : ¬ (j : Int) < (j : Int) := by omega
      clear htk hlt
      go_wp2_with fail
      refine (HSP.out _).mono ?_
      rintro e w6 ⟨rfl, rfl⟩
      go_wp2_with fail
      refine (HI0.out _).mono ?_
      rintro e w7 ⟨rfl, hb7⟩
      have HB7 : Hid (Below w.heap.size w w7) := HB4.out.trans (hb7.mono HB4.out.size)
      clear hb7 HB4
      by_cases hk2 : 2 ≤ j
      · have x2 : (2 : Int) ≤ (j : Int) := by omega
        have x3 : decide ((j : Int) ≥ 2) = true := by simp; omega
        go_wp2_with fail
        refine (HI1.out _).mono ?_
        rintro e w8 ⟨rfl, hb8⟩
        have HB8 : Hid (Below w.heap.size w w8) := HB7.out.trans (hb8.mono HB7.out.size)
        clear hb8 HB7
        go_wp2_with fail
        refine (HI2.out _).mono ?_
        rintro e w9 ⟨rfl, hb9⟩
        have HB9 : Hid (Below w.heap.size w w9) := HB8.out.trans (hb9.mono HB8.out.size)
        clear hb9 HB8
        go_wp2_with fail
        refine (HI3.out _).mono ?_
        rintro e w10 ⟨rfl, hb10⟩
        have HB10 : Hid (Below w.heap.size w w10) := HB9.out.trans (hb10.mono HB9.out.size)
        clear hb10 HB9
        cases b3
        · clear HC3
          go_wp2_with fail
          refine (HI4.out _).mono ?_
          rintro e w11 ⟨rfl, hb11⟩
          have HB11 : Hid (Below w.heap.size w w11) := HB10.out.trans (hb11.mono HB10.out.size)
          clear hb11 HB10
          cases b4
          · clear HC4
            go_wp2_with fail
            go_ret
            exact ⟨rfl, HB11.out⟩
          · obtain ⟨hc4, hcf⟩ := HC4.out rfl
            have HF4 : Hid (∀ W : World, Calls Tryd.prog 11 #[.int .u64 v2d, .int .i64 Q, .int .u64 m2, .int .i64 E] W fun e w' => e = .returned (.int .i64 c4) ∧ Below W.heap.size W w') := hcf
            clear HC4 hcf
            have hc4' : decide (c4 > 0) = false := by simp; omega
            go_wp2_with fail
            refine (HF4.out _).mono ?_
            rintro e w12 ⟨rfl, hb12⟩
            have HB12 : Hid (Below w.heap.size w w12) := HB11.out.trans (hb12.mono HB11.out.size)
            clear hb12 HB11
            go_wp2_with fail
            go_ret
            exact ⟨rfl, HB12.out⟩
        · obtain ⟨hc3, hcf⟩ := HC3.out rfl
          have HF3 : Hid (∀ W : World, Calls Tryd.prog 11 #[.int .u64 v2u, .int .i64 Q, .int .u64 m2, .int .i64 E] W fun e w' => e = .returned (.int .i64 c3) ∧ Below W.heap.size W w') := hcf
          clear HC3 hcf
          have hc3' : decide (c3 < 0) = false := by simp; omega
          go_wp2_with fail
          refine (HF3.out _).mono ?_
          rintro e w20 ⟨rfl, hb20⟩
          have HB20 : Hid (Below w.heap.size w w20) := HB10.out.trans (hb20.mono HB10.out.size)
          clear hb20 HB10
          go_wp2_with fail
          refine (HI4.out _).mono ?_
          rintro e w11 ⟨rfl, hb11⟩
          have HB11 : Hid (Below w.heap.size w w11) := HB20.out.trans (hb11.mono HB20.out.size)
          clear hb11 HB20
          cases b4
          · clear HC4
            go_wp2_with fail
            go_ret
            exact ⟨rfl, HB11.out⟩
          · obtain ⟨hc4, hcf⟩ := HC4.out rfl
            have HF4 : Hid (∀ W : World, Calls Tryd.prog 11 #[.int .u64 v2d, .int .i64 Q, .int .u64 m2, .int .i64 E] W fun e w' => e = .returned (.int .i64 c4) ∧ Below W.heap.size W w') := hcf
            clear HC4 hcf
            have hc4' : decide (c4 > 0) = false := by simp; omega
            go_wp2_with fail
            refine (HF4.out _).mono ?_
            rintro e w12 ⟨rfl, hb12⟩
            have HB12 : Hid (Below w.heap.size w w12) := HB11.out.trans (hb12.mono HB11.out.size)
            clear hb12 HB11
            go_wp2_with fail
            go_ret
            exact ⟨rfl, HB12.out⟩
      · have x2 : ¬ (2 : Int) ≤ (j : Int) := by omega
        have x3 : decide ((j : Int) ≥ 2) = false := by simp; omega
        obtain ⟨w9, hw9⟩ : ∃ w9, w9 = w7 := ⟨_, rfl⟩
        rw [← hw9] at HB7 ⊢
        have HB9 : Hid (Below w.heap.size w w9) := HB7.out
        clear HB7 hw9
        go_wp2_with fail
        refine (HI3.out _).mono ?_
        rintro e w10 ⟨rfl, hb10⟩
        have HB10 : Hid (Below w.heap.size w w10) := HB9.out.trans (hb10.mono HB9.out.size)
        clear hb10 HB9
        cases b3
        · clear HC3
          go_wp2_with fail
          refine (HI4.out _).mono ?_
          rintro e w11 ⟨rfl, hb11⟩
          have HB11 : Hid (Below w.heap.size w w11) := HB10.out.trans (hb11.mono HB10.out.size)
          clear hb11 HB10
          cases b4
          · clear HC4
            go_wp2_with fail
            go_ret
            exact ⟨rfl, HB11.out⟩
          · obtain ⟨hc4, hcf⟩ := HC4.out rfl
            have HF4 : Hid (∀ W : World, Calls Tryd.prog 11 #[.int .u64 v2d, .int .i64 Q, .int .u64 m2, .int .i64 E] W fun e w' => e = .returned (.int .i64 c4) ∧ Below W.heap.size W w') := hcf
            clear HC4 hcf
            have hc4' : decide (c4 > 0) = false := by simp; omega
            go_wp2_with fail
            refine (HF4.out _).mono ?_
            rintro e w12 ⟨rfl, hb12⟩
            have HB12 : Hid (Below w.heap.size w w12) := HB11.out.trans (hb12.mono HB11.out.size)
            clear hb12 HB11
            go_wp2_with fail
            go_ret
            exact ⟨rfl, HB12.out⟩
        · obtain ⟨hc3, hcf⟩ := HC3.out rfl
          have HF3 : Hid (∀ W : World, Calls Tryd.prog 11 #[.int .u64 v2u, .int .i64 Q, .int .u64 m2, .int .i64 E] W fun e w' => e = .returned (.int .i64 c3) ∧ Below W.heap.size W w') := hcf
          clear HC3 hcf
          have hc3' : decide (c3 < 0) = false := by simp; omega
          go_wp2_with fail
          refine (HF3.out _).mono ?_
          rintro e w20 ⟨rfl, hb20⟩
          have HB20 : Hid (Below w.heap.size w w20) := HB10.out.trans (hb20.mono HB10.out.size)
          clear hb20 HB10
          go_wp2_with fail
          refine (HI4.out _).mono ?_
          rintro e w11 ⟨rfl, hb11⟩
          have HB11 : Hid (Below w.heap.size w w11) := HB20.out.trans (hb11.mono HB20.out.size)
          clear hb11 HB20
          cases b4
          · clear HC4
            go_wp2_with fail
            go_ret
            exact ⟨rfl, HB11.out⟩
          · obtain ⟨hc4, hcf⟩ := HC4.out rfl
            have HF4 : Hid (∀ W : World, Calls Tryd.prog 11 #[.int .u64 v2d, .int .i64 Q, .int .u64 m2, .int .i64 E] W fun e w' => e = .returned (.int .i64 c4) ∧ Below W.heap.size W w') := hcf
            clear HC4 hcf
            have hc4' : decide (c4 > 0) = false := by simp; omega
            go_wp2_with fail
            refine (HF4.out _).mono ?_
            rintro e w12 ⟨rfl, hb12⟩
            have HB12 : Hid (Below w.heap.size w w12) := HB11.out.trans (hb12.mono HB11.out.size)
            clear hb12 HB11
            go_wp2_with fail
            go_ret
            exact ⟨rfl, HB12.out⟩
set_option maxRecDepth 100000 in
set_option maxHeartbeats 8000000 in
theorem law3_neg (b : Nat) (w : World) (hb : Fin64 b) (hm : mOf b ≠ 0) (hng0 : negOf b = true) (ht : Pow10At w) (htab : TabAt w) :
    Calls Tryd.prog 3 #[.float .f64 b] w fun e w' => e = .returned (.bool true) ∧ Below w.heap.size w w' := by
  have hz : FloatKind.f64.format.order 0 0 = some .eq := by decide +kernel
  have ra : ∀ W, (binOp .sub 22 (.float .f64 b) (.float .f64 b)).run Tryd.prog W = .ok (.float .f64 0) W := fun W => run_sub_fin b hb W
  have hf := isFloat_of hb hm
  have hbest := best_dec hf
  have hok := word_ok hb
  have hwz := hok.zero
  obtain ⟨hdl, hdd, hde, _, _⟩ := hok
  have h2 := two3 hb ht htab
  have eds : dsW b = (decOf (mOf b) (eOf b)).1 := by unfold dsW; rw [if_neg hm]
  have exx : xW b = (decOf (mOf b) (eOf b)).2 := by unfold xW; rw [if_neg hm]
  have hcan := dec_ok hf
  rw [← eds, ← exx] at hbest hcan
  rw [hng0] at h2
  obtain ⟨hnf, hnn, hnm, hne⟩ := negW_parts hb
  have hwd : negW b = wordOf (mOf b) (eOf b) := by
    have h := word_of hnf (by rw [hnn, hng0]; rfl)
    rw [hnm, hne] at h
    exact h
  have ho : FloatKind.f64.format.order b 0 = some .lt := by have h := order_zero hb; rw [if_neg hm, hng0] at h; exact h
  have ho2 : FloatKind.f64.format.order (negW b) 0 = some .gt := by have h := order_zero hnf; rw [hnm, if_neg hm, hnn, hng0] at h; exact h
  have hun : ∀ W, (Op.unary .neg (.float .f64 b)).run Tryd.prog W = .ok (.float .f64 (negW b)) W := fun W => rfl
  have HSP : Hid (∀ W : World, Calls Tryd.prog 9 #[.float .f64 (negW b)] W fun e w' => e = .returned (.tuple #[.int .u64 (mOf b : Nat), .int .i64 (eOf b)]) ∧ w' = W) := fun W => by
    have h := split_any (mOf b) (eOf b) W hf
    rw [← hwd] at h
    exact h
  clear hwd
  obtain ⟨k, hk⟩ : ∃ k, k = (dsW b).length := ⟨_, rfl⟩
  have hsz := dstr_size (dsW b)
  rw [← hk] at hsz hdl
  have h0 : 0 < (dstr (dsW b)).size := by omega
  have h9 : (dstr (dsW b)).size - 1 < (dstr (dsW b)).size := by omega
  have g0 : ((((dstr (dsW b))[0]'h0).toNat : Int) == 48) = false := by
    have hh := hcan.head
    rw [dstr_get (dsW b) 0 h0 (by omega) hdd, beq_eq_false_iff_ne]
    rw [List.head?_eq_getElem?, List.getElem?_eq_getElem (by omega : 0 < (dsW b).length)] at hh
    simp at hh
    omega
  have h9' : k - 1 < (dstr (dsW b)).size := by omega
  have g9 : ((((dstr (dsW b))[k - 1]'h9').toNat : Int) == 48) = false := by
    have hh := hcan.last
    rw [dstr_get (dsW b) (k - 1) h9' (by omega) hdd, beq_eq_false_iff_ne]
    rw [List.getLast?_eq_getElem?, ← hk, List.getElem?_eq_getElem (by omega : k - 1 < (dsW b).length)] at hh
    simp at hh
    omega
  have hvlt : valD (dsW b) < 100000000000000000 := by
    have h1 := valD_lt (dsW b) hdd
    have h2 : 10 ^ (dsW b).length ≤ 10 ^ 17 := Nat.pow_le_pow_right (by decide) (by omega)
    omega
  have hv1 : 1 ≤ valD (dsW b) := by
    have h1 := valD_head (ds := dsW b) (by omega) hcan.head
    have h2 : 0 < 10 ^ ((dsW b).length - 1) := Nat.pow_pos (by decide)
    omega
  have hexp := hcan.exp
  have HD : Hid (∀ d ∈ dsW b, d < 10) := hdd
  have HK : Hid (k = (dsW b).length) := hk
  rw [← hk] at hbest
  clear hcan hdd hwz eds exx hde hk
  have hm1 := hf.pos
  have hm2 := hf.lt
  have hE1 := hf.lo
  have hE2 := hf.hi
  generalize (⟨(textT true (dsW b) (xW b)).toArray⟩ : ByteArray) = s1 at *
  generalize (⟨(textT (!true) (dsW b) (xW b)).toArray⟩ : ByteArray) = s2 at *
  generalize dsW b = ds at *
  generalize xW b = x1 at *
  generalize mOf b = m at *
  generalize eOf b = E at *
  obtain ⟨v, hv⟩ : ∃ v, v = valD ds := ⟨_, rfl⟩
  obtain ⟨Q, hQ⟩ : ∃ Q : Int, Q = x1 - (k : Int) + 1 := ⟨_, rfl⟩
  rw [← hv, ← hQ] at hbest
  rw [← hv] at hvlt hv1
  have HVV : Hid (v = valD ds) := hv
  have hQb : -370 ≤ Q ∧ Q ≤ 370 := by omega
  have zQ : x1 - ((k : Int) - 1) = Q := by omega
  obtain ⟨Q1, hQ1⟩ : ∃ Q1 : Int, Q1 = Q + 1 := ⟨_, rfl⟩
  obtain ⟨v10, hv10⟩ : ∃ y, y = v / 10 := ⟨_, rfl⟩
  obtain ⟨v11, hv11⟩ : ∃ y, y = v / 10 + 1 := ⟨_, rfl⟩
  obtain ⟨vu, hvu⟩ : ∃ y, y = v + 1 := ⟨_, rfl⟩
  obtain ⟨vd, hvd⟩ : ∃ y, y = v - 1 := ⟨_, rfl⟩
  obtain ⟨V2, hV2⟩ : ∃ y, y = 2 * v := ⟨_, rfl⟩
  obtain ⟨v2u, hv2u⟩ : ∃ y, y = 2 * v + 1 := ⟨_, rfl⟩
  obtain ⟨v2d, hv2d⟩ : ∃ y, y = 2 * v - 1 := ⟨_, rfl⟩
  obtain ⟨m2, hm22⟩ : ∃ y, y = 2 * m := ⟨_, rfl⟩
  obtain ⟨b3, hb3⟩ : ∃ y, y = inB m E vu Q := ⟨_, rfl⟩
  obtain ⟨b4, hb4⟩ : ∃ y, y = inB m E vd Q := ⟨_, rfl⟩
  obtain ⟨c3, hc3⟩ : ∃ y, y = sgn (cmpA v2u Q E) (cmpB m2 Q E) := ⟨_, rfl⟩
  obtain ⟨c4, hc4⟩ : ∃ y, y = sgn (cmpA v2d Q E) (cmpB m2 Q E) := ⟨_, rfl⟩
  have z1 : Q + 1 = Q1 := hQ1.symm
  have z2 : (v : Int) / 10 = (v10 : Int) := by omega
  have z3 : (v10 : Int) + 1 = (v11 : Int) := by omega
  have z4 : (v : Int) + 1 = (vu : Int) := by omega
  have z5 : (v : Int) - 1 = (vd : Int) := by omega
  have z6 : 2 * (v : Int) = (V2 : Int) := by omega
  have z7 : (V2 : Int) + 1 = (v2u : Int) := by omega
  have z8 : (V2 : Int) - 1 = (v2d : Int) := by omega
  have z9 : 2 * (m : Int) = (m2 : Int) := by omega
  have HI0 : Hid (∀ W : World, Calls Tryd.prog 10 #[.int .u64 v, .int .i64 Q, .int .u64 m, .int .i64 E] W fun e w' => e = .returned (.bool true) ∧ Below W.heap.size W w') := fun W => by
    have h := in_any v m Q E W (by omega) (by omega) hm2 (by omega) (by omega) hE1 hE2
    rw [(inB_iff m E v Q (by omega) hE1).2 hbest.inn] at h
    exact h
  have hshort : ∀ y, inB m E y Q1 = false := fun y => by
    cases hh : inB m E y Q1
    · rfl
    · exfalso
      rw [hQ1] at hh
      exact hbest.short y ((inB_iff m E y (Q + 1) (by omega) hE1).1 hh)
  have HI1 : Hid (∀ W : World, Calls Tryd.prog 10 #[.int .u64 v10, .int .i64 Q1, .int .u64 m, .int .i64 E] W fun e w' => e = .returned (.bool false) ∧ Below W.heap.size W w') := fun W => by
    have h := in_any v10 m Q1 E W (by omega) (by omega) hm2 (by omega) (by omega) hE1 hE2
    rw [hshort] at h
    exact h
  have HI2 : Hid (∀ W : World, Calls Tryd.prog 10 #[.int .u64 v11, .int .i64 Q1, .int .u64 m, .int .i64 E] W fun e w' => e = .returned (.bool false) ∧ Below W.heap.size W w') := fun W => by
    have h := in_any v11 m Q1 E W (by omega) (by omega) hm2 (by omega) (by omega) hE1 hE2
    rw [hshort] at h
    exact h
  have HI3 : Hid (∀ W : World, Calls Tryd.prog 10 #[.int .u64 vu, .int .i64 Q, .int .u64 m, .int .i64 E] W fun e w' => e = .returned (.bool b3) ∧ Below W.heap.size W w') := fun W => by
    rw [hb3]
    exact in_any vu m Q E W (by omega) (by omega) hm2 (by omega) (by omega) hE1 hE2
  have HI4 : Hid (∀ W : World, Calls Tryd.prog 10 #[.int .u64 vd, .int .i64 Q, .int .u64 m, .int .i64 E] W fun e w' => e = .returned (.bool b4) ∧ Below W.heap.size W w') := fun W => by
    rw [hb4]
    exact in_any vd m Q E W (by omega) (by omega) hm2 (by omega) (by omega) hE1 hE2
  have HC3 : Hid (b3 = true → 0 ≤ c3 ∧ ∀ W : World, Calls Tryd.prog 11 #[.int .u64 v2u, .int .i64 Q, .int .u64 m2, .int .i64 E] W fun e w' => e = .returned (.int .i64 c3) ∧ Below W.heap.size W w') := fun hh => by
    rw [hb3, hvu] at hh
    have h1 := hbest.up ((inB_iff m E (v + 1) Q (by omega) hE1).1 hh)
    refine ⟨?_, fun W => ?_⟩
    · rw [hc3, sgn_ge]
      obtain ⟨K, k0, k1, k2⟩ := cmp_mid v2u m2 Q E (by omega) hE1
      rw [← Nat.mul_le_mul_right_iff k0, k1, k2, hv2u, hm22]
      exact Nat.le_of_not_lt h1
    · rw [hc3]
      exact cmpDB_any v2u m2 Q E W (by omega) (by omega) (by omega) (by omega) (by omega) (by omega)
  have HC4 : Hid (b4 = true → c4 ≤ 0 ∧ ∀ W : World, Calls Tryd.prog 11 #[.int .u64 v2d, .int .i64 Q, .int .u64 m2, .int .i64 E] W fun e w' => e = .returned (.int .i64 c4) ∧ Below W.heap.size W w') := fun hh => by
    rw [hb4, hvd] at hh
    have h1 := hbest.down ((inB_iff m E (v - 1) Q (by omega) hE1).1 hh)
    refine ⟨?_, fun W => ?_⟩
    · rw [hc4, sgn_le]
      obtain ⟨K, k0, k1, k2⟩ := cmp_mid v2d m2 Q E (by omega) hE1
      rw [← Nat.mul_le_mul_right_iff k0, k1, k2, hv2d, hm22]
      exact Nat.le_of_not_lt h1
    · rw [hc4]
      exact cmpDB_any v2d m2 Q E W (by omega) (by omega) (by omega) (by omega) (by omega) (by omega)
  have HT : Hid (Two3 w b s1 s2 (dstr ds) true x1) := h2
  have hkb : 1 ≤ k ∧ k ≤ 17 := hdl
  have hbnd : v11 ≤ 20000000000000000 ∧ vu ≤ 200000000000000000 ∧ v2u ≤ 300000000000000000 ∧ V2 ≤ 300000000000000000 ∧ m2 < 18014398509481984 := by omega
  have hxb : -400 ≤ x1 ∧ x1 ≤ 400 := by omega
  have y1 : ¬ (17 : Int) < (k : Int) := by omega
  have y2 : (k : Int) ≤ 17 := by omega
  have y3 : decide ((k : Int) > 17) = false := by simp; omega
  have y4 : ¬ (0 : Int) ≥ (k : Int) := by omega
  have y5 : (0 : Int) < (k : Int) := by omega
  have y6 : 1 ≤ (k : Int) ∧ (k : Int) - 1 < (k : Int) := by omega
  have y7 : ((k : Int) - 1).toNat = k - 1 := by omega
  clear h2 hb hm ht htab hbest hf hshort hv hQ hQ1 hv10 hv11 hvu hvd hV2 hv2u hv2d hm22 hb3 hb4 hc3 hc4 hdl hexp hng0
  go_enter Tryd.func3, Tryd.ntmps3
  go_wp2_with fail
  refine HT.out.c1.mono ?_
  rintro e w1 ⟨rfl, hb1⟩
  have HB1 : Hid (Below w.heap.size w w1) := hb1
  clear hb1
  go_wp2_with fail
  refine (HT.out.c2 _ HB1.out).mono ?_
  rintro e w2 ⟨rfl, hb2⟩
  have HB2 : Hid (Below w.heap.size w w2) := HB1.out.trans (hb2.mono HB1.out.size)
  clear hb2 HB1
  go_wp2_with fail
  refine (HT.out.np _).mono ?_
  rintro e w3 ⟨rfl, rfl⟩
  go_wp2_with fail
  refine (HT.out.pa _).mono ?_
  rintro e w4 ⟨rfl, hb4⟩
  have HB4 : Hid (Below w.heap.size w w4) := HB2.out.trans (hb4.mono HB2.out.size)
  clear hb4 HB2
  go_wp2_with fail
  refine (HT.out.sg _).mono ?_
  rintro e w5 ⟨rfl, rfl⟩

  go_wp2_with fail
  go_loop [11, 12] (fun mv jv => ∃ j : Nat, jv = .int .i64 j ∧ j ≤ k ∧ mv = .int .u64 (valD (ds.take j) : Nat)) (fun _ jv => k - (intOf jv).toNat)
  case atStart => exact ⟨0, rfl, Nat.zero_le _, rfl⟩
  case round =>
    obtain ⟨j, rfl, hj, rfl⟩ := hrel
    by_cases hlt : j < k
    · have hjl : j < ds.length := by rw [← HK.out]; exact hlt
      have hjr : j < (dstr ds).size := by rw [hsz]; exact hlt
      have x1 : (j : Int) < (k : Int) := by omega
      have dj := dstr_get ds j hjr hjl HD.out
      have dl := HD.out ds[j] (List.getElem_mem hjl)
      have HV : Hid (valD (ds.take (j + 1)) = 10 * valD (ds.take j) + ds[j]) := by
        rw [Hid, List.take_succ_eq_append_getElem hjl, valD_snoc']
      have hvb : valD (ds.take j) < 100000000000000000 := by
        have h1 := valD_lt (ds.take j) (fun d hd => HD.out d (List.mem_of_mem_take hd))
        rw [List.length_take] at h1
        have h2 : 10 ^ min j ds.length ≤ 10 ^ 17 := Nat.pow_le_pow_right (by decide) (by omega)
        omega
      have HJ : Hid (((dstr ds)[j]'hjr).toNat = 48 + ds[j]) := dj
      have b1 : ((dstr ds)[j]'hjr).toNat ≤ 57 := by omega
      have b2 : 48 ≤ ((dstr ds)[j]'hjr).toNat := by omega
      generalize valD (ds.take j) = vj at *
      clear dj dl
      go_wp2_with fail
      go_round
      case rel => exact ⟨j + 1, by go_num, by omega, by rw [HV.out]; have := HJ.out; go_num⟩
      case measure => simp [intOf]; omega
    · obtain rfl : j = k := by omega
      have htk : ds.take j = ds := List.take_of_length_le (by rw [← HK.out]; exact Nat.le_refl _)
      rw [htk, ← HVV.out]
      have x1 : ¬ (j : Int) < (j : Int) := by omega
      clear htk hlt
      go_wp2_with fail
      refine (HSP.out _).mono ?_
      rintro e w6 ⟨rfl, rfl⟩
      go_wp2_with fail
      refine (HI0.out _).mono ?_
      rintro e w7 ⟨rfl, hb7⟩
      have HB7 : Hid (Below w.heap.size w w7) := HB4.out.trans (hb7.mono HB4.out.size)
      clear hb7 HB4
      by_cases hk2 : 2 ≤ j
      · have x2 : (2 : Int) ≤ (j : Int) := by omega
        have x3 : decide ((j : Int) ≥ 2) = true := by simp; omega
        go_wp2_with fail
        refine (HI1.out _).mono ?_
        rintro e w8 ⟨rfl, hb8⟩
        have HB8 : Hid (Below w.heap.size w w8) := HB7.out.trans (hb8.mono HB7.out.size)
        clear hb8 HB7
        go_wp2_with fail
        refine (HI2.out _).mono ?_
        rintro e w9 ⟨rfl, hb9⟩
        have HB9 : Hid (Below w.heap.size w w9) := HB8.out.trans (hb9.mono HB8.out.size)
        clear hb9 HB8
        go_wp2_with fail
        refine (HI3.out _).mono ?_
        rintro e w10 ⟨rfl, hb10⟩
        have HB10 : Hid (Below w.heap.size w w10) := HB9.out.trans (hb10.mono HB9.out.size)
        clear hb10 HB9
        cases b3
        · clear HC3
          go_wp2_with fail
          refine (HI4.out _).mono ?_
          rintro e w11 ⟨rfl, hb11⟩
          have HB11 : Hid (Below w.heap.size w w11) := HB10.out.trans (hb11.mono HB10.out.size)
          clear hb11 HB10
          cases b4
          · clear HC4
            go_wp2_with fail
            go_ret
            exact ⟨rfl, HB11.out⟩
          · obtain ⟨hc4, hcf⟩ := HC4.out rfl
            have HF4 : Hid (∀ W : World, Calls Tryd.prog 11 #[.int .u64 v2d, .int .i64 Q, .int .u64 m2, .int .i64 E] W fun e w' => e = .returned (.int .i64 c4) ∧ Below W.heap.size W w') := hcf
            clear HC4 hcf
            have hc4' : decide (c4 > 0) = false := by simp; omega
            go_wp2_with fail
            refine (HF4.out _).mono ?_
            rintro e w12 ⟨rfl, hb12⟩
            have HB12 : Hid (Below w.heap.size w w12) := HB11.out.trans (hb12.mono HB11.out.size)
            clear hb12 HB11
            go_wp2_with fail
            go_ret
            exact ⟨rfl, HB12.out⟩
        · obtain ⟨hc3, hcf⟩ := HC3.out rfl
          have HF3 : Hid (∀ W : World, Calls Tryd.prog 11 #[.int .u64 v2u, .int .i64 Q, .int .u64 m2, .int .i64 E] W fun e w' => e = .returned (.int .i64 c3) ∧ Below W.heap.size W w') := hcf
          clear HC3 hcf
          have hc3' : decide (c3 < 0) = false := by simp; omega
          go_wp2_with fail
          refine (HF3.out _).mono ?_
          rintro e w20 ⟨rfl, hb20⟩
          have HB20 : Hid (Below w.heap.size w w20) := HB10.out.trans (hb20.mono HB10.out.size)
          clear hb20 HB10
          go_wp2_with fail
          refine (HI4.out _).mono ?_
          rintro e w11 ⟨rfl, hb11⟩
          have HB11 : Hid (Below w.heap.size w w11) := HB20.out.trans (hb11.mono HB20.out.size)
          clear hb11 HB20
          cases b4
          · clear HC4
            go_wp2_with fail
            go_ret
            exact ⟨rfl, HB11.out⟩
          · obtain ⟨hc4, hcf⟩ := HC4.out rfl
            have HF4 : Hid (∀ W : World, Calls Tryd.prog 11 #[.int .u64 v2d, .int .i64 Q, .int .u64 m2, .int .i64 E] W fun e w' => e = .returned (.int .i64 c4) ∧ Below W.heap.size W w') := hcf
            clear HC4 hcf
            have hc4' : decide (c4 > 0) = false := by simp; omega
            go_wp2_with fail
            refine (HF4.out _).mono ?_
            rintro e w12 ⟨rfl, hb12⟩
            have HB12 : Hid (Below w.heap.size w w12) := HB11.out.trans (hb12.mono HB11.out.size)
            clear hb12 HB11
            go_wp2_with fail
            go_ret
            exact ⟨rfl, HB12.out⟩
      · have x2 : ¬ (2 : Int) ≤ (j : Int) := by omega
        have x3 : decide ((j : Int) ≥ 2) = false := by simp; omega
        obtain ⟨w9, hw9⟩ : ∃ w9, w9 = w7 := ⟨_, rfl⟩
        rw [← hw9] at HB7 ⊢
        have HB9 : Hid (Below w.heap.size w w9) := HB7.out
        clear HB7 hw9
        go_wp2_with fail
        refine (HI3.out _).mono ?_
        rintro e w10 ⟨rfl, hb10⟩
        have HB10 : Hid (Below w.heap.size w w10) := HB9.out.trans (hb10.mono HB9.out.size)
        clear hb10 HB9
        cases b3
        · clear HC3
          go_wp2_with fail
          refine (HI4.out _).mono ?_
          rintro e w11 ⟨rfl, hb11⟩
          have HB11 : Hid (Below w.heap.size w w11) := HB10.out.trans (hb11.mono HB10.out.size)
          clear hb11 HB10
          cases b4
          · clear HC4
            go_wp2_with fail
            go_ret
            exact ⟨rfl, HB11.out⟩
          · obtain ⟨hc4, hcf⟩ := HC4.out rfl
            have HF4 : Hid (∀ W : World, Calls Tryd.prog 11 #[.int .u64 v2d, .int .i64 Q, .int .u64 m2, .int .i64 E] W fun e w' => e = .returned (.int .i64 c4) ∧ Below W.heap.size W w') := hcf
            clear HC4 hcf
            have hc4' : decide (c4 > 0) = false := by simp; omega
            go_wp2_with fail
            refine (HF4.out _).mono ?_
            rintro e w12 ⟨rfl, hb12⟩
            have HB12 : Hid (Below w.heap.size w w12) := HB11.out.trans (hb12.mono HB11.out.size)
            clear hb12 HB11
            go_wp2_with fail
            go_ret
            exact ⟨rfl, HB12.out⟩
        · obtain ⟨hc3, hcf⟩ := HC3.out rfl
          have HF3 : Hid (∀ W : World, Calls Tryd.prog 11 #[.int .u64 v2u, .int .i64 Q, .int .u64 m2, .int .i64 E] W fun e w' => e = .returned (.int .i64 c3) ∧ Below W.heap.size W w') := hcf
          clear HC3 hcf
          have hc3' : decide (c3 < 0) = false := by simp; omega
          go_wp2_with fail
          refine (HF3.out _).mono ?_
          rintro e w20 ⟨rfl, hb20⟩
          have HB20 : Hid (Below w.heap.size w w20) := HB10.out.trans (hb20.mono HB10.out.size)
          clear hb20 HB10
          go_wp2_with fail
          refine (HI4.out _).mono ?_
          rintro e w11 ⟨rfl, hb11⟩
          have HB11 : Hid (Below w.heap.size w w11) := HB20.out.trans (hb11.mono HB20.out.size)
          clear hb11 HB20
          cases b4
          · clear HC4
            go_wp2_with fail
            go_ret
            exact ⟨rfl, HB11.out⟩
          · obtain ⟨hc4, hcf⟩ := HC4.out rfl
            have HF4 : Hid (∀ W : World, Calls Tryd.prog 11 #[.int .u64 v2d, .int .i64 Q, .int .u64 m2, .int .i64 E] W fun e w' => e = .returned (.int .i64 c4) ∧ Below W.heap.size W w') := hcf
            clear HC4 hcf
            have hc4' : decide (c4 > 0) = false := by simp; omega
            go_wp2_with fail
            refine (HF4.out _).mono ?_
            rintro e w12 ⟨rfl, hb12⟩
            have HB12 : Hid (Below w.heap.size w w12) := HB11.out.trans (hb12.mono HB11.out.size)
            clear hb12 HB11
            go_wp2_with fail
            go_ret
            exact ⟨rfl, HB12.out⟩
theorem law3 (b : Nat) (w : World) (hb64 : b < 18446744073709551616) (ht : Pow10At w) (htab : TabAt w) :
    Calls Tryd.prog 3 #[.float .f64 b] w fun e w' => e = .returned (.bool true) ∧ Below w.heap.size w w' := by
  by_cases hb : rungOf b < 9218868437227405312
  · have fb : Fin64 b := ⟨hb64, hb⟩
    by_cases hm : mOf b = 0
    · exact law3_zero b w fb hm ht htab
    · cases hn : negOf b
      · exact law3_pos b w fb hm hn ht htab
      · exact law3_neg b w fb hm hn ht htab
  · obtain ⟨t, ra⟩ := run_sub_nan (P := Tryd.prog) b hb w
    have hon := order_nanOf t
    clear ht htab hb
    go_enter Tryd.func3, Tryd.ntmps3
    go_wp2_with fail
    go_ret
    exact ⟨rfl, rfl, rfl, rfl, Nat.le_refl _, fun _ _ => rfl⟩
end Go.Proofs.Qxb6615058aDoor
