/-
  Walks: zzTrim (17), zzQuoted (18), zzHasByte (16).
-/
import Derived.Test.Qxb6600570aDoorW3
namespace Go.Proofs.Qxb6600570aDoor
open Go.RowKit

theorem headSpace_le (l : List UInt8) : Lib.headSpace l ≤ l.length := by
  by_cases h : ∃ q ∈ Lib.spaceSeqs, q <+: l
  · obtain ⟨q, hq, hp⟩ := h
    rw [head_of hq hp]
    exact hp.length_le
  · rw [head_none (fun q hq hp => h ⟨q, hq, hp⟩)]
    exact Nat.zero_le _
theorem tailSpace_le (l : List UInt8) : Lib.tailSpace l ≤ l.length := by
  by_cases h : ∃ q ∈ Lib.spaceSeqs, q <:+ l
  · obtain ⟨q, hq, hp⟩ := h
    rw [tail_of hq hp]
    exact hp.length_le
  · rw [tail_none (fun q hq hp => h ⟨q, hq, hp⟩)]
    exact Nat.zero_le _

theorem stripL_fuel : ∀ (n f : Nat) (l : List UInt8), l.length ≤ n → l.length ≤ f → Lib.stripL f l = Lib.stripL l.length l := by
  intro n
  induction n with
  | zero =>
    intro f l h1 _
    obtain rfl : l = [] := List.length_eq_zero_iff.1 (by omega)
    cases f with
    | zero => rfl
    | succ f => simp [Lib.stripL, Lib.headSpace, Lib.spaceSeqs]
  | succ n ih =>
    intro f l h1 h2
    by_cases hz : Lib.headSpace l = 0
    · have e : ∀ g, Lib.stripL g l = l := fun g => by cases g <;> simp [Lib.stripL, hz]
      rw [e, e]
    · have hle := headSpace_le l
      obtain ⟨f', rfl⟩ : ∃ f', f = f' + 1 := ⟨f - 1, by omega⟩
      obtain ⟨m, hm⟩ : ∃ m, l.length = m + 1 := ⟨l.length - 1, by omega⟩
      rw [hm]
      simp only [Lib.stripL, if_neg hz]
      rw [ih f' _ (by simp; omega) (by simp; omega), ih m _ (by simp; omega) (by simp; omega)]
theorem stripL_done (l : List UInt8) (h : Lib.headSpace l = 0) : Lib.stripL l.length l = l := by
  cases hl : l.length <;> simp [Lib.stripL, h]
theorem stripL_step (l : List UInt8) (h : Lib.headSpace l ≠ 0) : Lib.stripL (l.drop (Lib.headSpace l)).length (l.drop (Lib.headSpace l)) = Lib.stripL l.length l := by
  have hle := headSpace_le l
  obtain ⟨m, hm⟩ : ∃ m, l.length = m + 1 := ⟨l.length - 1, by omega⟩
  rw [hm]
  simp only [Lib.stripL, if_neg h]
  exact (stripL_fuel _ m _ (Nat.le_refl _) (by simp; omega)).symm

theorem stripR_fuel : ∀ (n f : Nat) (l : List UInt8), l.length ≤ n → l.length ≤ f → Lib.stripR f l = Lib.stripR l.length l := by
  intro n
  induction n with
  | zero =>
    intro f l h1 _
    obtain rfl : l = [] := List.length_eq_zero_iff.1 (by omega)
    cases f with
    | zero => rfl
    | succ f => simp [Lib.stripR, Lib.tailSpace, Lib.spaceSeqs]
  | succ n ih =>
    intro f l h1 h2
    by_cases hz : Lib.tailSpace l = 0
    · have e : ∀ g, Lib.stripR g l = l := fun g => by cases g <;> simp [Lib.stripR, hz]
      rw [e, e]
    · have hle := tailSpace_le l
      obtain ⟨f', rfl⟩ : ∃ f', f = f' + 1 := ⟨f - 1, by omega⟩
      obtain ⟨m, hm⟩ : ∃ m, l.length = m + 1 := ⟨l.length - 1, by omega⟩
      rw [hm]
      simp only [Lib.stripR, if_neg hz]
      rw [ih f' _ (by simp; omega) (by simp; omega), ih m _ (by simp; omega) (by simp; omega), hm]
theorem stripR_done (l : List UInt8) (h : Lib.tailSpace l = 0) : Lib.stripR l.length l = l := by
  cases hl : l.length <;> simp [Lib.stripR, h]
theorem stripR_step (l : List UInt8) (h : Lib.tailSpace l ≠ 0) : Lib.stripR (l.take (l.length - Lib.tailSpace l)).length (l.take (l.length - Lib.tailSpace l)) = Lib.stripR l.length l := by
  have hle := tailSpace_le l
  obtain ⟨m, hm⟩ : ∃ m, l.length = m + 1 := ⟨l.length - 1, by omega⟩
  rw [hm]
  simp only [Lib.stripR, if_neg h, hm]
  exact (stripR_fuel _ m _ (Nat.le_refl _) (by simp; omega)).symm

/-- Trimmed. -/
def trimB (s : ByteArray) : ByteArray := ⟨(Lib.trimSpaceU s.data.toList).toArray⟩

theorem len_list (s : ByteArray) : s.data.toList.length = s.size := by simp

theorem ext_list (t : ByteArray) (a b : Nat) : (t.extract a b).data.toList = (t.data.toList.take b).drop a := by
  rw [ByteArray.data_extract, Array.toList_extract]
  simp [List.extract, List.drop_take]
theorem ext_drop (t : ByteArray) (k : Nat) : (t.extract k t.size).data.toList = t.data.toList.drop k := by
  rw [ext_list, List.take_of_length_le (by rw [len_list]; exact Nat.le_refl _)]
theorem ext_take (t : ByteArray) (k : Nat) : (t.extract 0 k).data.toList = t.data.toList.take k := by
  rw [ext_list, List.drop_zero]

theorem trim_is {r s : ByteArray} (h : r.data.toList = Lib.trimSpaceU s.data.toList) : r = trimB s := by
  unfold trimB
  rw [← h]
theorem head_empty {t : ByteArray} (h : t.size = 0) : Lib.headSpace t.data.toList = 0 := by
  have := headSpace_le t.data.toList
  rw [len_list] at this
  omega
theorem tail_empty {t : ByteArray} (h : t.size = 0) : Lib.tailSpace t.data.toList = 0 := by
  have := tailSpace_le t.data.toList
  rw [len_list] at this
  omega
theorem left_done {t s : ByteArray} (hts : t.size ≤ s.size) (h : Lib.stripL t.data.toList.length t.data.toList = Lib.stripL s.data.toList.length s.data.toList) (hz : Lib.headSpace t.data.toList = 0) : Lib.stripR t.data.toList.length t.data.toList = Lib.trimSpaceU s.data.toList := by
  unfold Lib.trimSpaceU
  rw [← h, stripL_done _ hz]
  exact (stripR_fuel _ _ _ (Nat.le_refl _) (by rw [len_list, len_list]; exact hts)).symm

set_option maxRecDepth 100000 in
set_option maxHeartbeats 1600000 in
theorem trim_any (s : ByteArray) (w : World) (hs : s.size < 4611686018427387904) :
    Calls Tryd.prog 17 #[.string s] w fun e w' => e = .returned (.string (trimB s)) ∧ ∃ m, w' = w.drewN m := by
  go_enter Tryd.func17, Tryd.ntmps17
  go_wp2_with fail
  go_loopw [0] (fun sv wr => ∃ t : ByteArray, sv = .string t ∧ t.size ≤ s.size ∧ Lib.stripL t.data.toList.length t.data.toList = Lib.stripL s.data.toList.length s.data.toList ∧ ∃ m, wr = w.drewN m) (fun sv _ => match sv with | .string t => t.size | _ => 0)
  case atStart => exact ⟨s, rfl, Nat.le_refl _, rfl, 0, rfl⟩
  case round =>
    obtain ⟨t, rfl, hts, hst, hm⟩ := hrel
    have HM : Hid _ := hm
    have HST : Hid _ := hst
    clear hm hst
    by_cases h0 : 0 < (t.size : Int)
    · have hle := headSpace_le t.data.toList
      rw [len_list] at hle
      by_cases hk : Lib.headSpace t.data.toList = 0
      · have HFIN : Hid _ := left_done hts HST.out hk
        go_wp2_with fail
        refine (lead_any t wr).mono ?_
        rintro e w2 ⟨rfl, m2, rfl⟩
        have HWM : Hid (∃ m, wr.drewN m2 = w.drewN m) := by
          obtain ⟨m, rfl⟩ := HM.out
          exact ⟨_, World.drewN_drewN _ _ _⟩
        rw [hk]
        clear HM HST h0 hk hle
        go_wp2_with fail
        go_loopw [0] (fun sv wr => ∃ r : ByteArray, sv = .string r ∧ r.size ≤ s.size ∧ Lib.stripR r.data.toList.length r.data.toList = Lib.trimSpaceU s.data.toList ∧ ∃ m, wr = w.drewN m) (fun sv _ => match sv with | .string t => t.size | _ => 0)
        case atStart => exact ⟨t, rfl, hts, HFIN.out, HWM.out⟩
        case round =>
          clear HFIN HWM
          obtain ⟨r, rfl, hrs, hsr, hm3⟩ := hrel
          have HM3 : Hid _ := hm3
          have HSR : Hid _ := hsr
          clear hm3 hsr
          by_cases h0r : 0 < (r.size : Int)
          · have hler := tailSpace_le r.data.toList
            rw [len_list] at hler
            by_cases hkr : Lib.tailSpace r.data.toList = 0
            · have HE : Hid (r = trimB s) := by
                have := HSR.out
                rw [stripR_done _ hkr] at this
                exact trim_is this
              go_wp2_with fail
              refine (trail_any r _ (by omega)).mono ?_
              rintro e w4 ⟨rfl, m4, rfl⟩
              rw [hkr]
              go_wp2_with fail
              go_ret
              obtain ⟨m3, rfl⟩ := HM3.out
              exact ⟨by rw [← HE.out]; rfl, _, World.drewN_drewN _ _ _⟩
            · have HST2 : Hid _ := stripR_step _ hkr
              generalize hkk : Lib.tailSpace r.data.toList = k at *
              have z1 : IntKind.i64.wrap ((r.size : Int) - (k : Int)) = ((r.size - k : Nat) : Int) := by rw [IntKind.wrap_i64]; omega
              have z2 : ((r.size - k : Nat) : Int) ≤ (r.size : Int) := by omega
              have z3 : r.size - k ≤ r.size := by omega
              have z4 : ¬ (k : Int) = 0 := by omega
              go_wp2_with fail
              refine (trail_any r _ (by omega)).mono ?_
              rintro e w4 ⟨rfl, m4, rfl⟩
              rw [hkk]
              go_wp2_with fail
              go_roundw
              case rel =>
                refine ⟨_, rfl, ?_, ?_, ?_⟩
                · rw [ByteArray.size_extract]; omega
                · rw [ext_take]
                  have h1 := HST2.out
                  rw [len_list] at h1
                  exact h1.trans HSR.out
                · obtain ⟨m3, rfl⟩ := HM3.out
                  exact ⟨_, World.drewN_drewN _ _ _⟩
              case measure => simp only [ByteArray.size_extract]; omega
          · have HE : Hid (r = trimB s) := by
              have := HSR.out
              rw [stripR_done _ (tail_empty (by omega))] at this
              exact trim_is this
            go_wp2_with fail
            go_ret
            exact ⟨by rw [← HE.out]; rfl, HM3.out⟩
      · have HST2 : Hid _ := stripL_step _ hk
        generalize hkk : Lib.headSpace t.data.toList = k at *
        have z2 : (k : Int) ≤ (t.size : Int) := by omega
        have z4 : ¬ (k : Int) = 0 := by omega
        go_wp2_with fail
        refine (lead_any t wr).mono ?_
        rintro e w2 ⟨rfl, m2, rfl⟩
        rw [hkk]
        go_wp2_with fail
        go_roundw
        case rel =>
          refine ⟨_, rfl, ?_, ?_, ?_⟩
          · rw [ByteArray.size_extract]; omega
          · rw [ext_drop]
            exact HST2.out.trans HST.out
          · obtain ⟨m3, rfl⟩ := HM.out
            exact ⟨_, World.drewN_drewN _ _ _⟩
        case measure => simp only [ByteArray.size_extract]; omega
    · have HFIN : Hid _ := left_done hts HST.out (head_empty (by omega))
      have HWM : Hid _ := HM.out
      clear HM HST
      go_wp2_with fail
      go_loopw [0] (fun sv wr => ∃ r : ByteArray, sv = .string r ∧ r.size ≤ s.size ∧ Lib.stripR r.data.toList.length r.data.toList = Lib.trimSpaceU s.data.toList ∧ ∃ m, wr = w.drewN m) (fun sv _ => match sv with | .string t => t.size | _ => 0)
      case atStart => exact ⟨t, rfl, hts, HFIN.out, HWM.out⟩
      case round =>
        clear HFIN HWM
        obtain ⟨r, rfl, hrs, hsr, hm3⟩ := hrel
        have HM3 : Hid _ := hm3
        have HSR : Hid _ := hsr
        clear hm3 hsr
        by_cases h0r : 0 < (r.size : Int)
        · have hler := tailSpace_le r.data.toList
          rw [len_list] at hler
          by_cases hkr : Lib.tailSpace r.data.toList = 0
          · have HE : Hid (r = trimB s) := by
              have := HSR.out
              rw [stripR_done _ hkr] at this
              exact trim_is this
            go_wp2_with fail
            refine (trail_any r _ (by omega)).mono ?_
            rintro e w4 ⟨rfl, m4, rfl⟩
            rw [hkr]
            go_wp2_with fail
            go_ret
            obtain ⟨m3, rfl⟩ := HM3.out
            exact ⟨by rw [← HE.out]; rfl, _, World.drewN_drewN _ _ _⟩
          · have HST2 : Hid _ := stripR_step _ hkr
            generalize hkk : Lib.tailSpace r.data.toList = k at *
            have z1 : IntKind.i64.wrap ((r.size : Int) - (k : Int)) = ((r.size - k : Nat) : Int) := by rw [IntKind.wrap_i64]; omega
            have z2 : ((r.size - k : Nat) : Int) ≤ (r.size : Int) := by omega
            have z3 : r.size - k ≤ r.size := by omega
            have z4 : ¬ (k : Int) = 0 := by omega
            go_wp2_with fail
            refine (trail_any r _ (by omega)).mono ?_
            rintro e w4 ⟨rfl, m4, rfl⟩
            rw [hkk]
            go_wp2_with fail
            go_roundw
            case rel =>
              refine ⟨_, rfl, ?_, ?_, ?_⟩
              · rw [ByteArray.size_extract]; omega
              · rw [ext_take]
                have h1 := HST2.out
                rw [len_list] at h1
                exact h1.trans HSR.out
              · obtain ⟨m3, rfl⟩ := HM3.out
                exact ⟨_, World.drewN_drewN _ _ _⟩
            case measure => simp only [ByteArray.size_extract]; omega
        · have HE : Hid (r = trimB s) := by
            have := HSR.out
            rw [stripR_done _ (tail_empty (by omega))] at this
            exact trim_is this
          go_wp2_with fail
          go_ret
          exact ⟨by rw [← HE.out]; rfl, HM3.out⟩
end Go.Proofs.Qxb6600570aDoor
