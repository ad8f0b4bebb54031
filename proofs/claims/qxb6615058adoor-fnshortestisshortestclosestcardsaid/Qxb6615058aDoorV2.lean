/-
  Walks: zzCmpMag (21), zzCmpDec (13).
-/
import Derived.Test.Qxb6615058aDoorV1
import Derived.BigQuiet
import Derived.Deep.QuietTactic
namespace Go.Proofs.Qxb6615058aDoor
open Go.RowKit

set_option maxRecDepth 100000 in
set_option maxHeartbeats 2000000 in
theorem mag_any (l1 l2 : List Nat) (x1 x2 : Int) (w : World) (_h1 : l1.length ≤ 100) (h2 : l2.length ≤ 100) (d1 : ∀ d ∈ l1, d < 10) (d2 : ∀ d ∈ l2, d < 10) :
    Calls Tryd.prog 21 #[.string (dstr l1), .int .i64 x1, .string (dstr l2), .int .i64 x2] w fun e w' => e = .returned (.int .i64 (magN l1 x1 l2 x2)) ∧ ∃ m, w' = w.drewN m := by
  by_cases hx : x1 = x2
  · have x0 : (x1 == x2) = true := by simpa using hx
    have HM : Hid (magN l1 x1 l2 x2 = cmpL l1 l2) := by rw [Hid, magN, if_pos hx]
    clear hx
    go_enter Tryd.func21, Tryd.ntmps21
    go_wp2_with fail
    go_loopw [9] (fun iv W => ∃ i : Nat, iv = .int .i64 i ∧ i ≤ l1.length ∧ i ≤ l2.length ∧ cmpL l1 l2 = cmpL (l1.drop i) (l2.drop i) ∧ ∃ m, W = w.drewN m) (fun iv _ => l1.length - (intOf iv).toNat)
    case atStart => exact ⟨0, rfl, Nat.zero_le _, Nat.zero_le _, rfl, 0, rfl⟩
    case round =>
      obtain ⟨i, rfl, hi1, hi2, heq, m, rfl⟩ := hrel
      have HQ : Hid _ := heq
      have HDD : Hid ((∀ d ∈ l1, d < 10) ∧ (∀ d ∈ l2, d < 10)) := ⟨d1, d2⟩
      clear heq
      have s1 := dstr_size l1
      have s2 := dstr_size l2
      by_cases a1 : i < l1.length
      · by_cases a2 : i < l2.length
        · have k1 : i < (dstr l1).size := by omega
          have k2 : i < (dstr l2).size := by omega
          have v1 := dstr_get l1 i k1 a1 d1
          have v2 := dstr_get l2 i k2 a2 d2
          have c1 : (i : Int) < ((dstr l1).size : Int) := by omega
          have c2 : (i : Int) < ((dstr l2).size : Int) := by omega
          have c3 : decide ((i : Int) < ((dstr l1).size : Int)) = true := by simp; omega
          have c4 : decide ((i : Int) < ((dstr l2).size : Int)) = true := by simp; omega
          have HS : Hid _ := cmpL_step l1 l2 i a1 a2
          have hib : i ≤ 100 := by omega
          by_cases q : l1[i] = l2[i]
          · have f1 : ((((dstr l1)[i]'k1).toNat : Int) != (((dstr l2)[i]'k2).toNat : Int)) = false := by rw [bne_eq_false_iff_eq]; omega
            have f2 : (((dstr l1)[i]'k1).toNat : Int) = (((dstr l2)[i]'k2).toNat : Int) := by omega
            have HR : Hid (cmpL l1 l2 = cmpL (l1.drop (i + 1)) (l2.drop (i + 1))) := by rw [Hid, HQ.out, HS.out, if_pos q]
            clear s1 s2 v1 v2 d1 d2 q f2
            go_wp2_with fail
            go_quiet (fail)
            go_wp2_with fail
            go_roundw
            case rel => exact ⟨i + 1, by go_num, by omega, by omega, HR.out, _, rfl⟩
            case measure => simp [intOf]; omega
          · have f1 : ((((dstr l1)[i]'k1).toNat : Int) != (((dstr l2)[i]'k2).toNat : Int)) = true := by rw [bne_iff_ne]; omega
            by_cases ql : l1[i] < l2[i]
            · have f3 : (((dstr l1)[i]'k1).toNat : Int) < (((dstr l2)[i]'k2).toNat : Int) := by omega
              have HR : Hid (cmpL l1 l2 = -1) := by rw [Hid, HQ.out, HS.out, if_neg q, if_pos ql]
              clear s1 s2 v1 v2 d1 d2 q ql
              go_wp2_with fail
              go_quiet (fail)
              generalize hw2 : World.drewN _ _ = w2
              have HW2 : Hid _ := hw2
              clear hw2
              go_wp2_with fail
              go_quiet (fail)
              go_wp2_with fail
              go_ret
              exact ⟨ret_int (by rw [HM.out, HR.out]), _, by rw [← HW2.out, World.drewN_drewN, World.drewN_drewN]⟩
            · have f3 : ¬ (((dstr l1)[i]'k1).toNat : Int) < (((dstr l2)[i]'k2).toNat : Int) := by omega
              have f4 : (((dstr l2)[i]'k2).toNat : Int) ≤ (((dstr l1)[i]'k1).toNat : Int) := by omega
              have f5 : decide ((((dstr l1)[i]'k1).toNat : Int) < (((dstr l2)[i]'k2).toNat : Int)) = false := by simp; omega
              have HR : Hid (cmpL l1 l2 = 1) := by rw [Hid, HQ.out, HS.out, if_neg q, if_neg ql]
              clear s1 s2 v1 v2 d1 d2 q ql
              go_wp2_with fail
              go_quiet (fail)
              generalize hw2 : World.drewN _ _ = w2
              have HW2 : Hid _ := hw2
              clear hw2
              go_wp2_with fail
              go_quiet (fail)
              go_wp2_with fail
              go_ret
              exact ⟨ret_int (by rw [HM.out, HR.out]), _, by rw [← HW2.out, World.drewN_drewN, World.drewN_drewN]⟩
        · have c1 : (i : Int) < ((dstr l1).size : Int) := by omega
          have c2 : ¬ (i : Int) < ((dstr l2).size : Int) := by omega
          have c3 : decide ((i : Int) < ((dstr l1).size : Int)) = true := by simp; omega
          have c4 : decide ((i : Int) < ((dstr l2).size : Int)) = false := by simp; omega
          have c5 : ¬ ((dstr l1).size : Int) < ((dstr l2).size : Int) := by omega
          have c6 : ((dstr l1).size : Int) > ((dstr l2).size : Int) := by omega
          have HR : Hid (cmpL l1 l2 = 1) := by rw [Hid, HQ.out, cmpL_end2 l1 l2 i a1 (by omega)]
          clear s1 s2 d1 d2
          go_wp2_with fail
          go_ret
          exact ⟨ret_int (by rw [HM.out, HR.out]), _, rfl⟩
      · by_cases a2 : i < l2.length
        · have c1 : ¬ (i : Int) < ((dstr l1).size : Int) := by omega
          have c3 : decide ((i : Int) < ((dstr l1).size : Int)) = false := by simp; omega
          have c5 : ((dstr l1).size : Int) < ((dstr l2).size : Int) := by omega
          have HR : Hid (cmpL l1 l2 = -1) := by rw [Hid, HQ.out, cmpL_end1 l1 l2 i (by omega) a2]
          clear s1 s2 d1 d2
          go_wp2_with fail
          go_ret
          exact ⟨ret_int (by rw [HM.out, HR.out]), _, rfl⟩
        · have c1 : ¬ (i : Int) < ((dstr l1).size : Int) := by omega
          have c3 : decide ((i : Int) < ((dstr l1).size : Int)) = false := by simp; omega
          have c5 : ¬ ((dstr l1).size : Int) < ((dstr l2).size : Int) := by omega
          have c6 : ¬ ((dstr l1).size : Int) > ((dstr l2).size : Int) := by omega
          have c7 : ((dstr l2).size : Int) ≤ ((dstr l1).size : Int) := by omega
          have c8 : ((dstr l1).size : Int) ≤ ((dstr l2).size : Int) := by omega
          have HR : Hid (cmpL l1 l2 = 0) := by rw [Hid, HQ.out, cmpL_end0 l1 l2 i (by omega) (by omega)]
          clear s1 s2 d1 d2
          go_wp2_with fail
          go_ret
          exact ⟨ret_int (by rw [HM.out, HR.out]), _, rfl⟩
  · have x0 : (x1 == x2) = false := by simpa using hx
    by_cases hl : x1 < x2
    · have HM : Hid (magN l1 x1 l2 x2 = -1) := by rw [Hid, magN, if_neg hx, if_pos hl]
      go_enter Tryd.func21, Tryd.ntmps21
      go_wp2_with fail
      go_ret
      exact ⟨ret_int HM.out.symm, 0, rfl⟩
    · have HM : Hid (magN l1 x1 l2 x2 = 1) := by rw [Hid, magN, if_neg hx, if_neg hl]
      go_enter Tryd.func21, Tryd.ntmps21
      go_wp2_with fail
      go_ret
      exact ⟨ret_int HM.out.symm, 0, rfl⟩

/-- A decimal below another, by class and size. -/
def DecLt (an : Bool) (l1 : List Nat) (x1 : Int) (bn : Bool) (l2 : List Nat) (x2 : Int) : Prop :=
  classN an (decide (l1 = [0])) < classN bn (decide (l2 = [0])) ∨
  (classN an (decide (l1 = [0])) = 1 ∧ classN bn (decide (l2 = [0])) = 1 ∧ magN l1 x1 l2 x2 = -1) ∨
  (classN an (decide (l1 = [0])) = -1 ∧ classN bn (decide (l2 = [0])) = -1 ∧ magN l1 x1 l2 x2 = 1)

set_option maxRecDepth 100000 in
set_option maxHeartbeats 2000000 in
theorem cmpDec_lt (an bn : Bool) (l1 l2 : List Nat) (x1 x2 : Int) (w : World) (h1 : l1.length ≤ 100) (h2 : l2.length ≤ 100) (d1 : ∀ d ∈ l1, d < 10) (d2 : ∀ d ∈ l2, d < 10) (hlt : DecLt an l1 x1 bn l2 x2) :
    Calls Tryd.prog 13 #[.bool an, .string (dstr l1), .int .i64 x1, .bool bn, .string (dstr l2), .int .i64 x2] w fun e w' => e = .returned (.int .i64 (-1)) ∧ ∃ m, w' = w.drewN m := by
  have HC1 : Hid (∀ W : World, Calls Tryd.prog 20 #[.bool an, .string (dstr l1)] W fun e w' => e = .returned (.int .i64 (classN an (decide (l1 = [0])))) ∧ w' = W) := fun W => class_any an _ _ (dstr_one l1 d1) W
  have HC2 : Hid (∀ W : World, Calls Tryd.prog 20 #[.bool bn, .string (dstr l2)] W fun e w' => e = .returned (.int .i64 (classN bn (decide (l2 = [0])))) ∧ w' = W) := fun W => class_any bn _ _ (dstr_one l2 d2) W
  have HMG : Hid (∀ W : World, Calls Tryd.prog 21 #[.string (dstr l1), .int .i64 x1, .string (dstr l2), .int .i64 x2] W fun e w' => e = .returned (.int .i64 (magN l1 x1 l2 x2)) ∧ ∃ m, w' = W.drewN m) := fun W => mag_any l1 l2 x1 x2 W h1 h2 d1 d2
  unfold DecLt at hlt
  have hb1 : classN an (decide (l1 = [0])) = -1 ∨ classN an (decide (l1 = [0])) = 0 ∨ classN an (decide (l1 = [0])) = 1 := by
    unfold classN; split <;> (try split) <;> simp
  generalize classN an (decide (l1 = [0])) = c1 at *
  generalize classN bn (decide (l2 = [0])) = c2 at *
  generalize magN l1 x1 l2 x2 = mg at *
  clear d1 d2 h1 h2
  rcases hlt with hlt | ⟨rfl, rfl, rfl⟩ | ⟨rfl, rfl, rfl⟩
  · have n1 : ¬ c1 = c2 := by omega
    have n2 : (c1 == c2) = false := by simpa using n1
    go_enter Tryd.func13, Tryd.ntmps13
    go_wp2_with fail
    refine (HC1.out _).mono ?_
    rintro e w1 ⟨rfl, rfl⟩
    go_wp2_with fail
    refine (HC2.out _).mono ?_
    rintro e w2 ⟨rfl, rfl⟩
    go_wp2_with fail
    go_ret
    exact ⟨rfl, 0, rfl⟩
  · go_enter Tryd.func13, Tryd.ntmps13
    go_wp2_with fail
    refine (HC1.out _).mono ?_
    rintro e w1 ⟨rfl, rfl⟩
    go_wp2_with fail
    refine (HC2.out _).mono ?_
    rintro e w2 ⟨rfl, rfl⟩
    go_wp2_with fail
    refine (HMG.out _).mono ?_
    rintro e w3 ⟨rfl, m, rfl⟩
    go_wp2_with fail
    go_ret
    exact ⟨rfl, _, rfl⟩
  · go_enter Tryd.func13, Tryd.ntmps13
    go_wp2_with fail
    refine (HC1.out _).mono ?_
    rintro e w1 ⟨rfl, rfl⟩
    go_wp2_with fail
    refine (HC2.out _).mono ?_
    rintro e w2 ⟨rfl, rfl⟩
    go_wp2_with fail
    refine (HMG.out _).mono ?_
    rintro e w3 ⟨rfl, m, rfl⟩
    go_wp2_with fail
    go_ret
    exact ⟨rfl, _, rfl⟩
end Go.Proofs.Qxb6615058aDoor
