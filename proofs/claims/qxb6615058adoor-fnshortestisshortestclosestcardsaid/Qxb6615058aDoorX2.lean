/-
  Walks: zzNatPow10 (17), zzNatPow2 (18).
-/
import Derived.Test.Qxb6615058aDoorX1
namespace Go.Proofs.Qxb6615058aDoor
open Go.RowKit

/-- A number in limbs, in memory. -/
def LimbState (w W : World) (v : Value) (val B : Nat) : Prop := ∃ g l cap, v = .slice (some ⟨g, 0, none⟩) l.length cap ∧ natV l = val ∧ Norm l ∧ NatAt W g l ∧ l.length ≤ B ∧ Below w.heap.size w W

theorem LimbState.step {w W W' : World} {e : Ending} {l : List Nat} {k val B : Nat} (hl : natV l = val) (hn : Norm l) (hlen : l.length ≤ B) (hb : Below w.heap.size w W) (h : LimbRes W W' (mulL l k 0) e) (h1 : 1 ≤ k) (hk : k < 4294967296) : ∃ v, e = .returned v ∧ LimbState w W' v (val * k) (B + 1) := by
  obtain ⟨g, cap, rfl, h2, h3⟩ := h
  refine ⟨_, rfl, g, _, cap, rfl, ?_, hn.mul h1 hk, h2, ?_, hb.trans (h3.mono hb.size)⟩
  · rw [mulL_val, hl, Nat.add_zero]
  · have := mulL_len k l 0; omega

/-- What zzNatPow10 and zzNatPow2 give. -/
def PowRes (w w' : World) (val B : Nat) (e : Ending) : Prop := ∃ v, e = .returned v ∧ LimbState w w' v val B

set_option maxRecDepth 100000 in
set_option maxHeartbeats 2000000 in
theorem natPow10_any (g cap e B : Nat) (l : List Nat) (w : World) (hn : Norm l) (h : NatAt w g l) (hl : l.length ≤ B) (hB : B ≤ 400) (he : e ≤ 2000) :
    Calls Tryd.prog 17 #[.slice (some ⟨g, 0, none⟩) l.length cap, .int .i64 e] w fun e' w' => PowRes w w' (natV l * 10 ^ e) (B + 300) e' := by
  have HS0 : Hid (LimbState w w (.slice (some ⟨g, 0, none⟩) l.length cap) (natV l) B) := ⟨g, l, cap, rfl, rfl, hn, h, hl, Below.refl _ w⟩
  generalize natV l = val at *
  generalize l.length = n at *
  clear hn h hl
  go_enter Tryd.func17, Tryd.ntmps17
  go_wp2_with fail
  go_loopw [0, 1, 5] (fun xv ev iv W => ∃ i r : Nat, iv = .int .i64 i ∧ ev = .int .i64 r ∧ r + 9 * i = e ∧ LimbState w W xv (val * 10 ^ (9 * i)) (B + i)) (fun _ ev _ _ => (intOf ev).toNat)
  case atStart => exact ⟨0, e, rfl, rfl, rfl, by rw [Nat.mul_zero, Nat.pow_zero, Nat.mul_one]; exact HS0.out⟩
  case round =>
    obtain ⟨i, r, rfl, rfl, hir, hst⟩ := hrel
    by_cases hge : 9 ≤ r
    · have x1 : (i : Int) < 400 := by omega
      have x2 : (9 : Int) ≤ (r : Int) := by omega
      have x2' : (r : Int) ≥ 9 := by omega
      have x3 : decide ((i : Int) < 400) = true := by simp; omega
      have x4 : decide ((r : Int) ≥ 9) = true := by simp; omega
      obtain ⟨g', l', cap', rfl, hv, hnn, hat, hlen, hbl⟩ := hst
      have HC : Hid (Calls Tryd.prog 23 #[.slice (some ⟨g', 0, none⟩) l'.length cap', .int .u32 1000000000] wr fun e w' => ∃ v, e = .returned v ∧ LimbState w w' v (val * 10 ^ (9 * i) * 1000000000) (B + i + 1)) :=
        (natMul_any g' cap' 1000000000 l' wr hnn hat (by omega) (by decide) (by decide)).mono fun e w' h => LimbState.step hv hnn hlen hbl h (by decide) (by decide)
      have hib : i ≤ 2000 := by omega
      have hrb : r ≤ 2000 := by omega
      have HIR : Hid _ := hir
      clear hv hnn hat hlen hbl hir HS0
      go_wp2_with fail
      refine HC.out.mono ?_
      rintro e' w2 ⟨v2, rfl, hst2⟩
      have HS2 : Hid (LimbState w w2 v2 (val * 10 ^ (9 * i) * 1000000000) (B + i + 1)) := hst2
      clear hst2 HC
      go_wp2_with fail
      go_roundw
      case rel =>
        have h := HIR.out
        refine ⟨i + 1, r - 9, by go_num, by go_num, by omega, ?_⟩
        have h2 := HS2.out
        rw [Nat.mul_assoc, show (1000000000 : Nat) = 10 ^ 9 from rfl, ← Nat.pow_add] at h2
        exact h2
      case measure => simp [intOf]; omega
    · have x2 : ¬ (9 : Int) ≤ (r : Int) := by omega
      have x4 : decide ((r : Int) ≥ 9) = false := by simp; omega
      have x4' : decide ((9 : Int) ≤ (r : Int)) = false := by simp; omega
      have x1 : (i : Int) < 400 := by omega
      have x3 : decide ((i : Int) < 400) = true := by simp; omega
      have HS1 : Hid (LimbState w wr u0 (val * 10 ^ (9 * i)) (B + i)) := hst
      have HIR : Hid _ := hir
      have hrb : r < 9 := by omega
      have hib : i ≤ 250 := by omega
      clear hst hir HS0 hge
      go_wp2_with fail
      go_loopw [0, 1, 6] (fun xv ev iv W => ∃ j s : Nat, iv = .int .i64 j ∧ ev = .int .i64 s ∧ s + j = r ∧ LimbState w W xv (val * 10 ^ (9 * i + j)) (B + i + j)) (fun _ ev _ _ => (intOf ev).toNat)
      case atStart => exact ⟨0, r, rfl, rfl, rfl, HS1.out⟩
      case round =>
        obtain ⟨j, s, rfl, rfl, hjs, hst⟩ := hrel
        by_cases hpos : 0 < s
        · have y1 : (j : Int) < 9 := by omega
          have y2 : (0 : Int) < (s : Int) := by omega
          have y3 : decide ((j : Int) < 9) = true := by simp; omega
          have y4 : decide ((s : Int) > 0) = true := by simp; omega
          obtain ⟨g', l', cap', rfl, hv, hnn, hat, hlen, hbl⟩ := hst
          have HC : Hid (Calls Tryd.prog 23 #[.slice (some ⟨g', 0, none⟩) l'.length cap', .int .u32 10] wr fun e w' => ∃ v, e = .returned v ∧ LimbState w w' v (val * 10 ^ (9 * i + j) * 10) (B + i + j + 1)) :=
            (natMul_any g' cap' 10 l' wr hnn hat (by omega) (by decide) (by decide)).mono fun e w' h => LimbState.step hv hnn hlen hbl h (by decide) (by decide)
          have hjb : j ≤ 20 := by omega
          have hsb : s ≤ 20 := by omega
          have HJS : Hid _ := hjs
          clear hv hnn hat hlen hbl hjs HS1
          go_wp2_with fail
          refine HC.out.mono ?_
          rintro e' w2 ⟨v2, rfl, hst2⟩
          have HS2 : Hid (LimbState w w2 v2 (val * 10 ^ (9 * i + j) * 10) (B + i + j + 1)) := hst2
          clear hst2 HC
          go_wp2_with fail
          go_roundw
          case rel =>
            have h := HJS.out
            refine ⟨j + 1, s - 1, by go_num, by go_num, by omega, ?_⟩
            have h2 := HS2.out
            rw [Nat.mul_assoc, ← Nat.pow_succ] at h2
            exact h2
          case measure => simp [intOf]; omega
        · have hs0 : s = 0 := by omega
          subst hs0
          have HS3 : Hid (LimbState w wr u0 (val * 10 ^ e) (B + 300)) := by
            obtain ⟨g', l', cap', h1, h2, h3, h4, h5, h6⟩ := hst
            have h := HIR.out
            refine ⟨g', l', cap', h1, ?_, h3, h4, by omega, h6⟩
            rw [h2]
            congr 2
            omega
          have hjb : j ≤ 20 := by omega
          clear hst hjs HS1 HIR
          by_cases hj9 : j < 9
          · have y1 : (j : Int) < 9 := by omega
            have y3 : decide ((j : Int) < 9) = true := by simp; omega
            go_wp2_with fail
            go_ret
            exact ⟨_, rfl, HS3.out⟩
          · have y1 : ¬ (j : Int) < 9 := by omega
            have y3 : decide ((j : Int) < 9) = false := by simp; omega
            go_wp2_with fail
            go_ret
            exact ⟨_, rfl, HS3.out⟩
set_option maxRecDepth 100000 in
set_option maxHeartbeats 2000000 in
theorem natPow2_any (g cap e B : Nat) (l : List Nat) (w : World) (hn : Norm l) (h : NatAt w g l) (hl : l.length ≤ B) (hB : B ≤ 400) (he : e ≤ 2000) :
    Calls Tryd.prog 18 #[.slice (some ⟨g, 0, none⟩) l.length cap, .int .i64 e] w fun e' w' => PowRes w w' (natV l * 2 ^ e) (B + 300) e' := by
  have HS0 : Hid (LimbState w w (.slice (some ⟨g, 0, none⟩) l.length cap) (natV l) B) := ⟨g, l, cap, rfl, rfl, hn, h, hl, Below.refl _ w⟩
  generalize natV l = val at *
  generalize l.length = n at *
  clear hn h hl
  go_enter Tryd.func18, Tryd.ntmps18
  go_wp2_with fail
  go_loopw [0, 1, 5] (fun xv ev iv W => ∃ i r : Nat, iv = .int .i64 i ∧ ev = .int .i64 r ∧ r + 16 * i = e ∧ LimbState w W xv (val * 2 ^ (16 * i)) (B + i)) (fun _ ev _ _ => (intOf ev).toNat)
  case atStart => exact ⟨0, e, rfl, rfl, rfl, by rw [Nat.mul_zero, Nat.pow_zero, Nat.mul_one]; exact HS0.out⟩
  case round =>
    obtain ⟨i, r, rfl, rfl, hir, hst⟩ := hrel
    by_cases hge : 16 ≤ r
    · have x1 : (i : Int) < 200 := by omega
      have x2 : (16 : Int) ≤ (r : Int) := by omega
      have x2' : (r : Int) ≥ 16 := by omega
      have x3 : decide ((i : Int) < 200) = true := by simp; omega
      have x4 : decide ((r : Int) ≥ 16) = true := by simp; omega
      obtain ⟨g', l', cap', rfl, hv, hnn, hat, hlen, hbl⟩ := hst
      have HC : Hid (Calls Tryd.prog 23 #[.slice (some ⟨g', 0, none⟩) l'.length cap', .int .u32 65536] wr fun e w' => ∃ v, e = .returned v ∧ LimbState w w' v (val * 2 ^ (16 * i) * 65536) (B + i + 1)) :=
        (natMul_any g' cap' 65536 l' wr hnn hat (by omega) (by decide) (by decide)).mono fun e w' h => LimbState.step hv hnn hlen hbl h (by decide) (by decide)
      have hib : i ≤ 2000 := by omega
      have hrb : r ≤ 2000 := by omega
      have HIR : Hid _ := hir
      clear hv hnn hat hlen hbl hir HS0
      go_wp2_with fail
      refine HC.out.mono ?_
      rintro e' w2 ⟨v2, rfl, hst2⟩
      have HS2 : Hid (LimbState w w2 v2 (val * 2 ^ (16 * i) * 65536) (B + i + 1)) := hst2
      clear hst2 HC
      go_wp2_with fail
      go_roundw
      case rel =>
        have h := HIR.out
        refine ⟨i + 1, r - 16, by go_num, by go_num, by omega, ?_⟩
        have h2 := HS2.out
        rw [Nat.mul_assoc, show (65536 : Nat) = 2 ^ 16 from rfl, ← Nat.pow_add] at h2
        exact h2
      case measure => simp [intOf]; omega
    · have x2 : ¬ (16 : Int) ≤ (r : Int) := by omega
      have x4 : decide ((r : Int) ≥ 16) = false := by simp; omega
      have x4' : decide ((16 : Int) ≤ (r : Int)) = false := by simp; omega
      have x1 : (i : Int) < 200 := by omega
      have x3 : decide ((i : Int) < 200) = true := by simp; omega
      have HS1 : Hid (LimbState w wr u0 (val * 2 ^ (16 * i)) (B + i)) := hst
      have HIR : Hid _ := hir
      have hrb : r < 16 := by omega
      have hib : i ≤ 250 := by omega
      clear hst hir HS0 hge
      go_wp2_with fail
      go_loopw [0, 1, 6] (fun xv ev iv W => ∃ j s : Nat, iv = .int .i64 j ∧ ev = .int .i64 s ∧ s + j = r ∧ LimbState w W xv (val * 2 ^ (16 * i + j)) (B + i + j)) (fun _ ev _ _ => (intOf ev).toNat)
      case atStart => exact ⟨0, r, rfl, rfl, rfl, HS1.out⟩
      case round =>
        obtain ⟨j, s, rfl, rfl, hjs, hst⟩ := hrel
        by_cases hpos : 0 < s
        · have y1 : (j : Int) < 16 := by omega
          have y2 : (0 : Int) < (s : Int) := by omega
          have y3 : decide ((j : Int) < 16) = true := by simp; omega
          have y4 : decide ((s : Int) > 0) = true := by simp; omega
          obtain ⟨g', l', cap', rfl, hv, hnn, hat, hlen, hbl⟩ := hst
          have HC : Hid (Calls Tryd.prog 23 #[.slice (some ⟨g', 0, none⟩) l'.length cap', .int .u32 2] wr fun e w' => ∃ v, e = .returned v ∧ LimbState w w' v (val * 2 ^ (16 * i + j) * 2) (B + i + j + 1)) :=
            (natMul_any g' cap' 2 l' wr hnn hat (by omega) (by decide) (by decide)).mono fun e w' h => LimbState.step hv hnn hlen hbl h (by decide) (by decide)
          have hjb : j ≤ 20 := by omega
          have hsb : s ≤ 20 := by omega
          have HJS : Hid _ := hjs
          clear hv hnn hat hlen hbl hjs HS1
          go_wp2_with fail
          refine HC.out.mono ?_
          rintro e' w2 ⟨v2, rfl, hst2⟩
          have HS2 : Hid (LimbState w w2 v2 (val * 2 ^ (16 * i + j) * 2) (B + i + j + 1)) := hst2
          clear hst2 HC
          go_wp2_with fail
          go_roundw
          case rel =>
            have h := HJS.out
            refine ⟨j + 1, s - 1, by go_num, by go_num, by omega, ?_⟩
            have h2 := HS2.out
            rw [Nat.mul_assoc, ← Nat.pow_succ] at h2
            exact h2
          case measure => simp [intOf]; omega
        · have hs0 : s = 0 := by omega
          subst hs0
          have HS3 : Hid (LimbState w wr u0 (val * 2 ^ e) (B + 300)) := by
            obtain ⟨g', l', cap', h1, h2, h3, h4, h5, h6⟩ := hst
            have h := HIR.out
            refine ⟨g', l', cap', h1, ?_, h3, h4, by omega, h6⟩
            rw [h2]
            congr 2
            omega
          have hjb : j ≤ 20 := by omega
          clear hst hjs HS1 HIR
          by_cases hj9 : j < 16
          · have y1 : (j : Int) < 16 := by omega
            have y3 : decide ((j : Int) < 16) = true := by simp; omega
            go_wp2_with fail
            go_ret
            exact ⟨_, rfl, HS3.out⟩
          · have y1 : ¬ (j : Int) < 16 := by omega
            have y3 : decide ((j : Int) < 16) = false := by simp; omega
            go_wp2_with fail
            go_ret
            exact ⟨_, rfl, HS3.out⟩
end Go.Proofs.Qxb6615058aDoor
