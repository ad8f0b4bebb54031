/-
  Walk: setDigits (34); numDigits (35) and formatBase10 (53) by the shelf.
-/
import Derived.Test.Qxb6615058aDoorW4
import Derived.Test.Qxb6615058aDoorN11
import Derived.Handy
namespace Go.Proofs.Qxb6615058aDoor
open Go.RowKit Go.Lib Go.Sort

theorem below_drewN {B : Nat} {w w' : World} (h : Below B w w') (n : Nat) : Below B w (w'.drewN n) := ⟨h.os, h.tape, h.output, h.size, h.block⟩

theorem putRow_below {w : World} {B : Nat} (dk : Array UInt8) : Below B w (putRow (fun (b : UInt8) => Value.int .u8 (b.toNat : Int)) w B 0 dk) := by
  refine ⟨rfl, rfl, rfl, by simp, fun k hk => ?_⟩
  simp only [putRow, mapBlock, Array.getElem?_modify]
  rw [if_neg (by omega)]

theorem dg_nat (u n t : Nat) : ((Lib.dg u (n - 1 - t)).toNat : Int) = ((48 + dgt u n t : Nat) : Int) := by
  unfold Lib.dg dgt
  rw [UInt8.toNat_ofNat']
  have : u / 10 ^ (n - 1 - t) % 10 < 10 := Nat.mod_lt _ (by decide)
  omega

/-- The digits of u in the row. -/
def DigitsAt (w : World) (B u n : Nat) : Prop := ∀ t, t < n → w.cell? ⟨B, t, none⟩ = some (.int .u8 ((48 + dgt u n t : Nat) : Int))
theorem DigitsAt.below {w W : World} {B u n : Nat} (h : DigitsAt w B u n) {B2 : Nat} (hB : B < B2) (hb : Below B2 w W) : DigitsAt W B u n := fun t ht => (hb.cell hB).trans (h t ht)

/-- 32 bytes that are free. -/
def Free32 (w : World) (B : Nat) : Prop := ∀ t, t < 32 → w.cell? ⟨B, t, none⟩ = some (.int .u8 0) ∧ w.frozen? ⟨B, t, none⟩ = false

theorem fmt10_any (B u : Nat) (w : World) (h64 : u < 18446744073709551616) (hn : nDigits u ≤ 20) (hf : Free32 w B) :
    Calls Tryd.prog 53 #[.slice (some ⟨B, 0, none⟩) (nDigits u) 32, .int .u64 u] w fun e w' => e = .returned (.tuple #[]) ∧ DigitsAt w' B u (nDigits u) ∧ Below B w w' := by
  have hH : Holds (fun (b : UInt8) => Value.int .u8 (b.toNat : Int)) w B 0 (Array.replicate (nDigits u) (0 : UInt8)) := by
    intro j hj
    rw [Array.size_replicate] at hj
    rw [Nat.zero_add]
    have := hf j (by omega)
    refine ⟨?_, this.2⟩
    rw [this.1]
    rw [getElem!_pos _ _ (by simpa using hj), Array.getElem_replicate]
    rfl
  have hc := Tryd.internal_strconv_formatBase10 B 0 32 u (Array.replicate (nDigits u) (0 : UInt8)) w hH (by rw [Array.size_replicate]; exact nDigits_hi u) h64 (by rw [Array.size_replicate]; omega)
  rw [Array.size_replicate] at hc
  refine hc.mono ?_
  rintro e w' ⟨rfl, n, v', dk, rfl, hi⟩
  refine ⟨rfl, fun t ht => ?_, below_drewN (putRow_below dk) n⟩
  have hs := hi.size
  have h1 := cell?_putRow (fun (b : UInt8) => Value.int .u8 (b.toNat : Int)) w B 0 _ dk hH (by rw [hs, Array.size_replicate]) t (by omega)
  rw [Nat.zero_add] at h1
  show (putRow _ w B 0 dk).cell? _ = _
  rw [h1, hi.done t (Nat.zero_le _) ht]
  exact congrArg (fun z => some (Value.int .u8 z)) (dg_nat u (nDigits u) t)

set_option maxRecDepth 100000 in
set_option maxHeartbeats 2000000 in
theorem setDigits_any (B u : Nat) (p : Int) (w : World) (h64 : u < 18446744073709551616) (hn : nDigits u ≤ 20) (hp : -1000 ≤ p) (hp2 : p ≤ 1000) (hf : Free32 w B) :
    Calls Tryd.prog 34 #[.slice (some ⟨B, 0, none⟩) 32 32, .int .u64 u, .int .i64 p, .int .i64 (nDigits u)] w fun e w' =>
      e = .returned (.tuple #[.int .i64 ((nDigits u : Int) + p), .int .i64 (nz u)]) ∧ DigitsAt w' B u (nDigits u) ∧ Below B w w' := by
  have HF : Hid (Calls Tryd.prog 53 #[.slice (some ⟨B, 0, none⟩) (nDigits u) 32, .int .u64 u] w fun e w' => e = .returned (.tuple #[]) ∧ DigitsAt w' B u (nDigits u) ∧ Below B w w') := fmt10_any B u w h64 hn hf
  have HNZ : Hid (nz u = nzAt u (nDigits u) (nDigits u)) := rfl
  obtain ⟨n, hn0⟩ : ∃ n, n = nDigits u := ⟨_, rfl⟩
  rw [← hn0] at HF HNZ hn ⊢
  have x1 : (n : Int) ≤ 32 := by omega
  have x2 : (0 : Int) ≤ (n : Int) := by omega
  clear hf hn0
  go_enter Tryd.func34, Tryd.ntmps34
  go_wp2_with fail
  refine HF.out.mono ?_
  rintro e w1 ⟨rfl, hd, hb⟩
  have HD : Hid _ := hd
  have HB : Hid _ := hb
  clear hd hb
  go_wp2_with fail
  go_loop [3] (fun kv => ∃ k : Nat, kv = .int .i64 k ∧ k ≤ n ∧ nzAt u n n = nzAt u n k) (fun kv => (RowKit.intOf kv).toNat)
  case atStart => exact ⟨n, rfl, Nat.le_refl _, rfl⟩
  case round =>
    obtain ⟨k, rfl, hk, hkz⟩ := hrel
    have HK : Hid _ := hkz
    clear hkz
    rcases Nat.eq_zero_or_pos k with h0 | h0
    · subst h0
      have HR : Hid (nz u = 0) := by rw [Hid, HNZ.out, HK.out]; rfl
      go_wp2_with fail
      go_ret2
      exact ⟨by rw [HR.out]; rfl, HD.out, HB.out⟩
    · obtain ⟨j, rfl⟩ : ∃ j, k = j + 1 := ⟨k - 1, by omega⟩
      have hc := HD.out j (by omega)
      have hg := dgt_lt u n j
      have y1 : (0 : Int) < ((j + 1 : Nat) : Int) := by omega
      have y2 : ((j + 1 : Nat) : Int) - 1 = (j : Int) := by omega
      have y3 : (j : Int) < 32 := by omega
      by_cases hz : dgt u n j = 0
      · rw [hz] at hc
        have HR : Hid (nzAt u n n = nzAt u n j) := by rw [Hid, HK.out, nzAt, if_pos hz]
        clear hz
        go_wp2_with fail
        go_round
        case rel => exact ⟨j, by go_num, by omega, HR.out⟩
        case measure => simp [RowKit.intOf]
      · have HR : Hid (nz u = j + 1) := by rw [Hid, HNZ.out, HK.out, nzAt, if_neg hz]
        obtain ⟨g, hg0⟩ : ∃ g, g = 48 + dgt u n j := ⟨_, rfl⟩
        rw [← hg0] at hc
        have z1 : ((g : Int) == 48) = false := by rw [beq_eq_false_iff_ne]; omega
        have z2 : ¬ (g : Int) = 48 := by omega
        clear hz hg0
        go_wp2_with fail
        go_ret2
        exact ⟨by rw [HR.out]; rfl, HD.out, HB.out⟩
end Go.Proofs.Qxb6615058aDoor
