/-
  Walks: zzNatCmp (19), zzCmpDB (11).
-/
import Derived.Test.Qxb6615058aDoorX2
import Derived.Test.Qxb6615058aDoorV2
namespace Go.Proofs.Qxb6615058aDoor
open Go.RowKit

theorem sgn_lt {a b : Nat} (h : a < b) : sgn a b = -1 := by unfold sgn; rw [if_neg (by omega), if_pos h]
theorem sgn_gt {a b : Nat} (h : b < a) : sgn a b = 1 := by unfold sgn; rw [if_neg (by omega), if_neg (by omega)]
theorem sgn_eq {a b : Nat} (h : a = b) : sgn a b = 0 := by unfold sgn; rw [if_pos h]

set_option maxRecDepth 100000 in
set_option maxHeartbeats 2000000 in
theorem natCmp_any (ga gb ca cb : Nat) (a b : List Nat) (w : World) (ha : Norm a) (hb : Norm b) (ta : NatAt w ga a) (tb : NatAt w gb b) (la : a.length ≤ 10000) (lb : b.length ≤ 10000) :
    Calls Tryd.prog 19 #[.slice (some ⟨ga, 0, none⟩) a.length ca, .slice (some ⟨gb, 0, none⟩) b.length cb] w fun e w' => e = .returned (.int .i64 (sgn (natV a) (natV b))) ∧ ∃ m, w' = w.drewN m := by
  obtain ⟨n, hn⟩ : ∃ n, n = a.length := ⟨_, rfl⟩
  obtain ⟨k, hk⟩ : ∃ k, k = b.length := ⟨_, rfl⟩
  have HA : Hid (Norm a) := ha
  have HB : Hid (Norm b) := hb
  have HTA : Hid (NatAt w ga a) := ta
  have HTB : Hid (NatAt w gb b) := tb
  have HN : Hid _ := hn
  have HK : Hid _ := hk
  rw [← hn, ← hk]
  have hnb : n ≤ 10000 := by omega
  have hkb : k ≤ 10000 := by omega
  have HLT : Hid (n < k → sgn (natV a) (natV b) = -1) := fun h => sgn_lt (len_lt ha hb (by omega))
  have HGT : Hid (k < n → sgn (natV a) (natV b) = 1) := fun h => sgn_gt (len_lt hb ha (by omega))
  clear ha hb ta tb hn hk la lb
  by_cases h1 : n < k
  · have x1 : ((n : Int) == (k : Int)) = false := by rw [beq_eq_false_iff_ne]; omega
    have x2 : ((n : Int) != (k : Int)) = true := by rw [bne_iff_ne]; omega
    have x3 : (n : Int) < (k : Int) := by omega
    have HR := HLT.out h1
    have HR2 : Hid _ := HR
    clear HR h1 HLT HGT
    go_enter Tryd.func19, Tryd.ntmps19
    go_wp2_with fail
    go_ret
    exact ⟨ret_int HR2.out.symm, 0, rfl⟩
  · by_cases h2 : k < n
    · have x1 : ((n : Int) == (k : Int)) = false := by rw [beq_eq_false_iff_ne]; omega
      have x2 : ((n : Int) != (k : Int)) = true := by rw [bne_iff_ne]; omega
      have x3 : ¬ (n : Int) < (k : Int) := by omega
      have x4 : (k : Int) ≤ (n : Int) := by omega
      have HR2 : Hid _ := HGT.out h2
      clear h1 h2 HLT HGT
      go_enter Tryd.func19, Tryd.ntmps19
      go_wp2_with fail
      go_ret
      exact ⟨ret_int HR2.out.symm, 0, rfl⟩
    · obtain rfl : n = k := by omega
      clear h1 h2 HLT HGT
      go_enter Tryd.func19, Tryd.ntmps19
      go_wp2_with fail
      go_loopw [5] (fun iv W => ∃ j : Nat, iv = .int .i64 ((j : Int) - 1) ∧ j ≤ n ∧ a.drop j = b.drop j ∧ ∃ m, W = w.drewN m) (fun iv _ => (intOf iv + 1).toNat)
      case atStart => exact ⟨n, rfl, Nat.le_refl _, by rw [List.drop_eq_nil_of_le (by rw [← HN.out]; exact Nat.le_refl _), List.drop_eq_nil_of_le (by rw [← HK.out]; exact Nat.le_refl _)], 0, rfl⟩
      case round =>
        obtain ⟨j, rfl, hj, hdr, m, rfl⟩ := hrel
        have HDR : Hid _ := hdr
        clear hdr
        rcases Nat.eq_zero_or_pos j with h0 | h0
        · subst h0
          have HR : Hid (sgn (natV a) (natV b) = 0) := by
            have h := HDR.out
            rw [List.drop_zero, List.drop_zero] at h
            exact sgn_eq (by rw [h])
          go_wp2_with fail
          go_ret
          exact ⟨ret_int HR.out.symm, _, rfl⟩
        · obtain ⟨i, rfl⟩ : ∃ i, j = i + 1 := ⟨j - 1, by omega⟩
          have ia : i < a.length := by rw [← HN.out]; omega
          have ib : i < b.length := by rw [← HK.out]; omega
          have c1 : w.cell? ⟨ga, i, none⟩ = some (.int .u32 (a[i] : Nat)) := HTA.out.2 i ia
          have c2 : w.cell? ⟨gb, i, none⟩ = some (.int .u32 (b[i] : Nat)) := HTB.out.2 i ib
          have ga' : a.getD i 0 = a[i] := by rw [List.getD_eq_getElem?_getD, List.getElem?_eq_getElem ia]; rfl
          have gb' : b.getD i 0 = b[i] := by rw [List.getD_eq_getElem?_getD, List.getElem?_eq_getElem ib]; rfl
          have HLO : Hid (a[i] < b[i] → sgn (natV a) (natV b) = -1) := fun h => sgn_lt (limb_lt HA.out.1 ia ib HDR.out (by rw [ga', gb']; exact h))
          have HHI : Hid (b[i] < a[i] → sgn (natV a) (natV b) = 1) := fun h => sgn_gt (limb_lt HB.out.1 ib ia HDR.out.symm (by rw [ga', gb']; exact h))
          have HEQ : Hid (a[i] = b[i] → a.drop i = b.drop i) := fun h => by rw [List.drop_eq_getElem_cons ia, List.drop_eq_getElem_cons ib, h, HDR.out]
          clear ga' gb'
          generalize a[i] = p at *
          generalize b[i] = q at *
          have y0 : ((i + 1 : Nat) : Int) - 1 = (i : Int) := by omega
          rw [y0]
          have y1 : (0 : Int) ≤ (i : Int) := by omega
          have y2 : (i : Int) < (n : Int) := by omega
          have hib : i < n := by omega
          by_cases e1 : p = q
          · have f1 : ((p : Int) != (q : Int)) = false := by rw [bne_eq_false_iff_eq]; omega
            have HE2 : Hid _ := HEQ.out e1
            clear e1 HLO HHI HEQ y0
            go_wp2_with fail
            go_quiet (fail)
            go_wp2_with fail
            go_roundw
            case rel => exact ⟨i, by go_num, by omega, HE2.out, _, rfl⟩
            case measure => simp [intOf]
          · have f1 : ((p : Int) != (q : Int)) = true := by rw [bne_iff_ne]; omega
            by_cases e2 : p < q
            · have f2 : (p : Int) < (q : Int) := by omega
              have HR : Hid _ := HLO.out e2
              clear e1 e2 HLO HHI HEQ y0
              go_wp2_with fail
              go_quiet (fail)
              generalize hw2 : World.drewN _ _ = w2
              have d1 : w2.cell? ⟨ga, i, none⟩ = some (.int .u32 (p : Nat)) := by rw [← hw2]; exact c1
              have d2 : w2.cell? ⟨gb, i, none⟩ = some (.int .u32 (q : Nat)) := by rw [← hw2]; exact c2
              have HW2 : Hid _ := hw2
              clear hw2
              go_wp2_with fail
              go_quiet (fail)
              go_wp2_with fail
              go_ret
              exact ⟨ret_int HR.out.symm, _, by rw [← HW2.out, World.drewN_drewN, World.drewN_drewN]⟩
            · have f2 : ¬ (p : Int) < (q : Int) := by omega
              have f3 : (q : Int) ≤ (p : Int) := by omega
              have f4 : decide ((p : Int) < (q : Int)) = false := by simp; omega
              have HR : Hid _ := HHI.out (by omega)
              clear e1 e2 HLO HHI HEQ y0
              go_wp2_with fail
              go_quiet (fail)
              generalize hw2 : World.drewN _ _ = w2
              have d1 : w2.cell? ⟨ga, i, none⟩ = some (.int .u32 (p : Nat)) := by rw [← hw2]; exact c1
              have d2 : w2.cell? ⟨gb, i, none⟩ = some (.int .u32 (q : Nat)) := by rw [← hw2]; exact c2
              have HW2 : Hid _ := hw2
              clear hw2
              go_wp2_with fail
              go_quiet (fail)
              go_wp2_with fail
              go_ret
              exact ⟨ret_int HR.out.symm, _, by rw [← HW2.out, World.drewN_drewN, World.drewN_drewN]⟩

def cmpA (d : Nat) (q b : Int) : Nat := d * 10 ^ q.toNat * 2 ^ (-b).toNat
def cmpB (x : Nat) (q b : Int) : Nat := x * 10 ^ (-q).toNat * 2 ^ b.toNat

theorem LimbState.later {w W W' : World} {v : Value} {val B : Nat} (h : LimbState w W v val B) (hb : Below W.heap.size W W') : LimbState w W' v val B := by
  obtain ⟨g, l, cap, h1, h2, h3, h4, h5, h6⟩ := h
  exact ⟨g, l, cap, h1, h2, h3, h4.below h4.1 hb, h5, h6.trans (hb.mono h6.size)⟩
theorem natOf_state {w W W' : World} {v : Nat} {e : Ending} (h : NatRes W W' v e) (hb : Below w.heap.size w W) (hv : v < 18446744073709551616) : ∃ x, e = .returned x ∧ LimbState w W' x v 2 := by
  obtain ⟨g, l, cap, rfl, h1, h2, h3, h4⟩ := h
  refine ⟨_, rfl, g, l, cap, rfl, h1, h2, h3, ?_, hb.trans (h4.mono hb.size)⟩
  rcases Nat.lt_or_ge 2 l.length with h | h
  · have h5 := natV_ge l (by intro e; rw [e] at h; simp at h) h2.2
    have h6 : 4294967296 ^ 2 ≤ 4294967296 ^ (l.length - 1) := Nat.pow_le_pow_right (by decide) (by omega)
    omega
  · exact h
theorem LimbState.bl {w W : World} {v : Value} {val B : Nat} (h : LimbState w W v val B) : Below w.heap.size w W := by
  obtain ⟨_, _, _, _, _, _, _, _, h6⟩ := h
  exact h6
theorem pow10_state {w W : World} {v : Value} {val B e : Nat} (h : LimbState w W v val B) (hB : B ≤ 400) (he : e ≤ 2000) : Calls Tryd.prog 17 #[v, .int .i64 e] W fun e' w' => ∃ x, e' = .returned x ∧ LimbState w w' x (val * 10 ^ e) (B + 300) ∧ Below W.heap.size W w' := by
  obtain ⟨g, l, cap, rfl, h2, h3, h4, h5, h6⟩ := h
  refine (natPow10_any g cap e B l W h3 h4 h5 hB he).mono ?_
  rintro e' w' ⟨x, rfl, g', l', cap', h8, h9, h10, h11, h12, h13⟩
  exact ⟨x, rfl, ⟨g', l', cap', h8, by rw [h9, h2], h10, h11, h12, h6.trans (h13.mono h6.size)⟩, h13⟩
theorem pow2_state {w W : World} {v : Value} {val B e : Nat} (h : LimbState w W v val B) (hB : B ≤ 400) (he : e ≤ 2000) : Calls Tryd.prog 18 #[v, .int .i64 e] W fun e' w' => ∃ x, e' = .returned x ∧ LimbState w w' x (val * 2 ^ e) (B + 300) ∧ Below W.heap.size W w' := by
  obtain ⟨g, l, cap, rfl, h2, h3, h4, h5, h6⟩ := h
  refine (natPow2_any g cap e B l W h3 h4 h5 hB he).mono ?_
  rintro e' w' ⟨x, rfl, g', l', cap', h8, h9, h10, h11, h12, h13⟩
  exact ⟨x, rfl, ⟨g', l', cap', h8, by rw [h9, h2], h10, h11, h12, h6.trans (h13.mono h6.size)⟩, h13⟩
theorem cmp_state {w W : World} {v1 v2 : Value} {a b B1 B2 : Nat} (h1 : LimbState w W v1 a B1) (h2 : LimbState w W v2 b B2) (hB1 : B1 ≤ 5000) (hB2 : B2 ≤ 5000) : Calls Tryd.prog 19 #[v1, v2] W fun e w' => e = .returned (.int .i64 (sgn a b)) ∧ ∃ m, w' = W.drewN m := by
  obtain ⟨g, l, cap, rfl, rfl, h3, h4, h5, h6⟩ := h1
  obtain ⟨g', l', cap', rfl, rfl, h3', h4', h5', h6'⟩ := h2
  exact natCmp_any g g' cap cap' l l' W h3 h3' h4 h4' (by omega) (by omega)

set_option maxRecDepth 100000 in
set_option maxHeartbeats 2000000 in
theorem cmpDB_any (d x : Nat) (q b : Int) (w : World) (hd : d < 18446744073709551616) (hx : x < 18446744073709551616) (hq1 : -400 ≤ q) (hq2 : q ≤ 400) (hb1 : -1200 ≤ b) (hb2 : b ≤ 1200) :
    Calls Tryd.prog 11 #[.int .u64 d, .int .i64 q, .int .u64 x, .int .i64 b] w fun e w' => e = .returned (.int .i64 (sgn (cmpA d q b) (cmpB x q b))) ∧ Below w.heap.size w w' := by
  rcases (by omega : (0 ≤ q ∧ 0 ≤ b) ∨ (0 ≤ q ∧ b < 0) ∨ (q < 0 ∧ 0 ≤ b) ∨ (q < 0 ∧ b < 0)) with h | h | h | h
  · have x1 : (0 : Int) ≤ q := by omega
    have x1' : q ≥ 0 := by omega
    obtain ⟨e1, he1⟩ : ∃ e : Nat, (e : Int) = q := ⟨q.toNat, by omega⟩
    have HQ1 : Hid (q.toNat = e1 ∧ (-q).toNat = 0) := ⟨by omega, by omega⟩
    have hb1 : e1 ≤ 400 := by omega
    subst he1
    have x2 : (0 : Int) ≤ b := by omega
    have x2' : b ≥ 0 := by omega
    obtain ⟨e2, he2⟩ : ∃ e : Nat, (e : Int) = b := ⟨b.toNat, by omega⟩
    have HQ2 : Hid (b.toNat = e2 ∧ (-b).toNat = 0) := ⟨by omega, by omega⟩
    have hb2 : e2 ≤ 1200 := by omega
    subst he2
    go_enter Tryd.func11, Tryd.ntmps11
    go_wp2_with fail
    refine (natOf_any d _ hd).mono ?_
    intro e w1 h
    obtain ⟨l1, rfl, h1⟩ := natOf_state h (Below.refl _ w) hd
    have HL1 : Hid (LimbState w w1 l1 d 2) := h1
    clear h h1
    go_wp2_with fail
    refine (natOf_any x _ hx).mono ?_
    intro e w2 h
    have hb3 : Below w1.heap.size w1 w2 := by obtain ⟨_, _, _, _, _, _, _, h4⟩ := h; exact h4
    obtain ⟨r1, rfl, h1⟩ := natOf_state h HL1.out.bl hx
    have HR1 : Hid (LimbState w w2 r1 x 2) := h1
    have HL2 : Hid (LimbState w w2 l1 d 2) := HL1.out.later hb3
    clear h h1 hb3 HL1
    go_wp2_with fail
    refine (pow10_state (e := e1) HL2.out (by decide) (by omega)).mono ?_
    rintro e w3 ⟨l2, rfl, h1, hb3⟩
    have HL3 : Hid (LimbState w w3 l2 (d * 10 ^ e1) 302) := h1
    have HR3 : Hid (LimbState w w3 r1 x 302) := by
      obtain ⟨g, l, cap, a1, a2, a3, a4, a5, a6⟩ := HR1.out.later hb3
      exact ⟨g, l, cap, a1, a2, a3, a4, by omega, a6⟩
    clear h1 hb3 HL2 HR1
    go_wp2_with fail
    refine (pow2_state (e := e2) HR3.out (by decide) (by omega)).mono ?_
    rintro e w4 ⟨r3, rfl, h1, hb3⟩
    have HR4 : Hid (LimbState w w4 r3 (x * 2 ^ e2) 602) := h1
    have HL4 : Hid (LimbState w w4 l2 (d * 10 ^ e1) 302) := HL3.out.later hb3
    clear h1 hb3 HL3 HR3
    go_wp2_with fail
    refine (cmp_state HL4.out HR4.out (by decide) (by decide)).mono ?_
    rintro e w5 ⟨rfl, m, rfl⟩
    go_wp2_with fail
    go_ret
    refine ⟨ret_int ?_, below_drewN HL4.out.bl m⟩
    unfold cmpA cmpB
    rw [HQ1.out.1, HQ1.out.2, HQ2.out.1, HQ2.out.2]
    simp only [Nat.pow_zero, Nat.mul_one]
  · have x1 : (0 : Int) ≤ q := by omega
    have x1' : q ≥ 0 := by omega
    obtain ⟨e1, he1⟩ : ∃ e : Nat, (e : Int) = q := ⟨q.toNat, by omega⟩
    have HQ1 : Hid (q.toNat = e1 ∧ (-q).toNat = 0) := ⟨by omega, by omega⟩
    have hb1 : e1 ≤ 400 := by omega
    subst he1
    have x2 : ¬ (0 : Int) ≤ b := by omega
    have x2' : ¬ b ≥ 0 := by omega
    have x2'' : decide (b ≥ 0) = false := by simp; omega
    obtain ⟨e2, he2⟩ : ∃ e : Nat, (e : Int) = -b := ⟨(-b).toNat, by omega⟩
    have HQ2 : Hid (b.toNat = 0 ∧ (-b).toNat = e2) := ⟨by omega, by omega⟩
    have hb2 : e2 ≤ 1200 := by omega
    have z2 : -b = (e2 : Int) := he2.symm
    clear he2
    go_enter Tryd.func11, Tryd.ntmps11
    go_wp2_with fail
    refine (natOf_any d _ hd).mono ?_
    intro e w1 h
    obtain ⟨l1, rfl, h1⟩ := natOf_state h (Below.refl _ w) hd
    have HL1 : Hid (LimbState w w1 l1 d 2) := h1
    clear h h1
    go_wp2_with fail
    refine (natOf_any x _ hx).mono ?_
    intro e w2 h
    have hb3 : Below w1.heap.size w1 w2 := by obtain ⟨_, _, _, _, _, _, _, h4⟩ := h; exact h4
    obtain ⟨r1, rfl, h1⟩ := natOf_state h HL1.out.bl hx
    have HR1 : Hid (LimbState w w2 r1 x 2) := h1
    have HL2 : Hid (LimbState w w2 l1 d 2) := HL1.out.later hb3
    clear h h1 hb3 HL1
    go_wp2_with fail
    refine (pow10_state (e := e1) HL2.out (by decide) (by omega)).mono ?_
    rintro e w3 ⟨l2, rfl, h1, hb3⟩
    have HL3 : Hid (LimbState w w3 l2 (d * 10 ^ e1) 302) := h1
    have HR3 : Hid (LimbState w w3 r1 x 302) := by
      obtain ⟨g, l, cap, a1, a2, a3, a4, a5, a6⟩ := HR1.out.later hb3
      exact ⟨g, l, cap, a1, a2, a3, a4, by omega, a6⟩
    clear h1 hb3 HL2 HR1
    go_wp2_with fail
    refine (pow2_state (e := e2) HL3.out (by decide) (by omega)).mono ?_
    rintro e w4 ⟨l3, rfl, h1, hb3⟩
    have HL4 : Hid (LimbState w w4 l3 (d * 10 ^ e1 * 2 ^ e2) 602) := h1
    have HR4 : Hid (LimbState w w4 r1 (x) 302) := HR3.out.later hb3
    clear h1 hb3 HL3 HR3
    go_wp2_with fail
    refine (cmp_state HL4.out HR4.out (by decide) (by decide)).mono ?_
    rintro e w5 ⟨rfl, m, rfl⟩
    go_wp2_with fail
    go_ret
    refine ⟨ret_int ?_, below_drewN HL4.out.bl m⟩
    unfold cmpA cmpB
    rw [HQ1.out.1, HQ1.out.2, HQ2.out.1, HQ2.out.2]
    simp only [Nat.pow_zero, Nat.mul_one]
  · have x1 : ¬ (0 : Int) ≤ q := by omega
    have x1' : ¬ q ≥ 0 := by omega
    have x1'' : decide (q ≥ 0) = false := by simp; omega
    obtain ⟨e1, he1⟩ : ∃ e : Nat, (e : Int) = -q := ⟨(-q).toNat, by omega⟩
    have HQ1 : Hid (q.toNat = 0 ∧ (-q).toNat = e1) := ⟨by omega, by omega⟩
    have hb1 : e1 ≤ 400 := by omega
    have z1 : -q = (e1 : Int) := he1.symm
    clear he1
    have x2 : (0 : Int) ≤ b := by omega
    have x2' : b ≥ 0 := by omega
    obtain ⟨e2, he2⟩ : ∃ e : Nat, (e : Int) = b := ⟨b.toNat, by omega⟩
    have HQ2 : Hid (b.toNat = e2 ∧ (-b).toNat = 0) := ⟨by omega, by omega⟩
    have hb2 : e2 ≤ 1200 := by omega
    subst he2
    go_enter Tryd.func11, Tryd.ntmps11
    go_wp2_with fail
    refine (natOf_any d _ hd).mono ?_
    intro e w1 h
    obtain ⟨l1, rfl, h1⟩ := natOf_state h (Below.refl _ w) hd
    have HL1 : Hid (LimbState w w1 l1 d 2) := h1
    clear h h1
    go_wp2_with fail
    refine (natOf_any x _ hx).mono ?_
    intro e w2 h
    have hb3 : Below w1.heap.size w1 w2 := by obtain ⟨_, _, _, _, _, _, _, h4⟩ := h; exact h4
    obtain ⟨r1, rfl, h1⟩ := natOf_state h HL1.out.bl hx
    have HR1 : Hid (LimbState w w2 r1 x 2) := h1
    have HL2 : Hid (LimbState w w2 l1 d 2) := HL1.out.later hb3
    clear h h1 hb3 HL1
    go_wp2_with fail
    refine (pow10_state (e := e1) HR1.out (by decide) (by omega)).mono ?_
    rintro e w3 ⟨r2, rfl, h1, hb3⟩
    have HR3 : Hid (LimbState w w3 r2 (x * 10 ^ e1) 302) := h1
    have HL3 : Hid (LimbState w w3 l1 d 302) := by
      obtain ⟨g, l, cap, a1, a2, a3, a4, a5, a6⟩ := HL2.out.later hb3
      exact ⟨g, l, cap, a1, a2, a3, a4, by omega, a6⟩
    clear h1 hb3 HL2 HR1
    go_wp2_with fail
    refine (pow2_state (e := e2) HR3.out (by decide) (by omega)).mono ?_
    rintro e w4 ⟨r3, rfl, h1, hb3⟩
    have HR4 : Hid (LimbState w w4 r3 (x * 10 ^ e1 * 2 ^ e2) 602) := h1
    have HL4 : Hid (LimbState w w4 l1 (d) 302) := HL3.out.later hb3
    clear h1 hb3 HL3 HR3
    go_wp2_with fail
    refine (cmp_state HL4.out HR4.out (by decide) (by decide)).mono ?_
    rintro e w5 ⟨rfl, m, rfl⟩
    go_wp2_with fail
    go_ret
    refine ⟨ret_int ?_, below_drewN HL4.out.bl m⟩
    unfold cmpA cmpB
    rw [HQ1.out.1, HQ1.out.2, HQ2.out.1, HQ2.out.2]
    simp only [Nat.pow_zero, Nat.mul_one]
  · have x1 : ¬ (0 : Int) ≤ q := by omega
    have x1' : ¬ q ≥ 0 := by omega
    have x1'' : decide (q ≥ 0) = false := by simp; omega
    obtain ⟨e1, he1⟩ : ∃ e : Nat, (e : Int) = -q := ⟨(-q).toNat, by omega⟩
    have HQ1 : Hid (q.toNat = 0 ∧ (-q).toNat = e1) := ⟨by omega, by omega⟩
    have hb1 : e1 ≤ 400 := by omega
    have z1 : -q = (e1 : Int) := he1.symm
    clear he1
    have x2 : ¬ (0 : Int) ≤ b := by omega
    have x2' : ¬ b ≥ 0 := by omega
    have x2'' : decide (b ≥ 0) = false := by simp; omega
    obtain ⟨e2, he2⟩ : ∃ e : Nat, (e : Int) = -b := ⟨(-b).toNat, by omega⟩
    have HQ2 : Hid (b.toNat = 0 ∧ (-b).toNat = e2) := ⟨by omega, by omega⟩
    have hb2 : e2 ≤ 1200 := by omega
    have z2 : -b = (e2 : Int) := he2.symm
    clear he2
    go_enter Tryd.func11, Tryd.ntmps11
    go_wp2_with fail
    refine (natOf_any d _ hd).mono ?_
    intro e w1 h
    obtain ⟨l1, rfl, h1⟩ := natOf_state h (Below.refl _ w) hd
    have HL1 : Hid (LimbState w w1 l1 d 2) := h1
    clear h h1
    go_wp2_with fail
    refine (natOf_any x _ hx).mono ?_
    intro e w2 h
    have hb3 : Below w1.heap.size w1 w2 := by obtain ⟨_, _, _, _, _, _, _, h4⟩ := h; exact h4
    obtain ⟨r1, rfl, h1⟩ := natOf_state h HL1.out.bl hx
    have HR1 : Hid (LimbState w w2 r1 x 2) := h1
    have HL2 : Hid (LimbState w w2 l1 d 2) := HL1.out.later hb3
    clear h h1 hb3 HL1
    go_wp2_with fail
    refine (pow10_state (e := e1) HR1.out (by decide) (by omega)).mono ?_
    rintro e w3 ⟨r2, rfl, h1, hb3⟩
    have HR3 : Hid (LimbState w w3 r2 (x * 10 ^ e1) 302) := h1
    have HL3 : Hid (LimbState w w3 l1 d 302) := by
      obtain ⟨g, l, cap, a1, a2, a3, a4, a5, a6⟩ := HL2.out.later hb3
      exact ⟨g, l, cap, a1, a2, a3, a4, by omega, a6⟩
    clear h1 hb3 HL2 HR1
    go_wp2_with fail
    refine (pow2_state (e := e2) HL3.out (by decide) (by omega)).mono ?_
    rintro e w4 ⟨l3, rfl, h1, hb3⟩
    have HL4 : Hid (LimbState w w4 l3 (d * 2 ^ e2) 602) := h1
    have HR4 : Hid (LimbState w w4 r2 (x * 10 ^ e1) 302) := HR3.out.later hb3
    clear h1 hb3 HL3 HR3
    go_wp2_with fail
    refine (cmp_state HL4.out HR4.out (by decide) (by decide)).mono ?_
    rintro e w5 ⟨rfl, m, rfl⟩
    go_wp2_with fail
    go_ret
    refine ⟨ret_int ?_, below_drewN HL4.out.bl m⟩
    unfold cmpA cmpB
    rw [HQ1.out.1, HQ1.out.2, HQ2.out.1, HQ2.out.2]
    simp only [Nat.pow_zero, Nat.mul_one]
end Go.Proofs.Qxb6615058aDoor
