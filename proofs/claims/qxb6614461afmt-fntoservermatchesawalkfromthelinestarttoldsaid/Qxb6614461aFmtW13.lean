import Derived.Test.Qxb6614461aFmtP3
namespace Go.Proofs.Qxb6614461aFmt
open Go.RowKit

set_option maxRecDepth 100000 in
set_option maxHeartbeats 6400000 in
theorem width_any (bs : ByteArray) (B cp i en : Nat) (w : World) (hp : ∀ j, j < bs.size → w.cell? ⟨B, j, none⟩ = some (.int .u8 (bs.get! j).toNat)) (h1 : i < en) (h2 : en ≤ bs.size) (hbs : bs.size < 1073741824) :
    Calls Tryf.prog 12 #[.slice (some ⟨B, 0, none⟩) bs.size cp, .int .i64 i, .int .i64 en] w fun e w' => e = .returned (.tuple #[.int .i64 (sz bs i en), .int .i64 (un bs i en)]) ∧ w' = w := by
  obtain ⟨c0, c1, c2, c3, l0, l1, l2, l3, hw, g0, g1, g2, g3⟩ := sz_wd bs i en h1 h2
  have k0 : w.cell? ⟨B, i, none⟩ = some (.int .u8 (c0 : Nat)) := by rw [hp i (by omega), g0]
  have k1 : 1 < en - i → w.cell? ⟨B, i + 1, none⟩ = some (.int .u8 (c1 : Nat)) := fun h => by rw [hp (i + 1) (by omega), g1 h]
  have k2 : 2 < en - i → w.cell? ⟨B, i + 2, none⟩ = some (.int .u8 (c2 : Nat)) := fun h => by rw [hp (i + 2) (by omega), g2 h]
  have k3 : 3 < en - i → w.cell? ⟨B, i + 3, none⟩ = some (.int .u8 (c3 : Nat)) := fun h => by rw [hp (i + 3) (by omega), g3 h]
  have HW : Hid ((sz bs i en, un bs i en) = wd (en - i) c0 c1 c2 c3) := hw
  have HK2 : Hid (2 < en - i → w.cell? ⟨B, i + 2, none⟩ = some (.int .u8 (c2 : Nat))) := k2
  have HK3 : Hid (3 < en - i → w.cell? ⟨B, i + 3, none⟩ = some (.int .u8 (c3 : Nat))) := k3
  have HK1 : Hid (1 < en - i → w.cell? ⟨B, i + 1, none⟩ = some (.int .u8 (c1 : Nat))) := k1
  generalize sz bs i en = S at HW ⊢
  generalize un bs i en = U at HW ⊢
  generalize bs.size = Z at *
  have x1 : (i : Int) < (Z : Int) := by omega
  clear g0 g1 g2 g3 hw hp k1 k2 k3
  go_enter Tryf.func12, Tryf.ntmps12
  rcases (by omega : c0 < 128 ∨ (128 ≤ c0 ∧ c0 < 194) ∨ 244 < c0 ∨ (194 ≤ c0 ∧ c0 ≤ 223) ∨ c0 = 224 ∨ (225 ≤ c0 ∧ c0 ≤ 236) ∨ c0 = 237 ∨ c0 = 238 ∨ c0 = 239 ∨ c0 = 240 ∨ (241 ≤ c0 ∧ c0 ≤ 243) ∨ c0 = 244) with hc | hc | hc | hc | hc | hc | hc | hc | hc | hc | hc | hc
  · have y1 : (c0 : Int) < 128 := by omega
    go_wp2_with fail
    go_ret2
    exact ⟨congrArg Ending.returned (wd_out HW.out (a := 1) (b := 1) (by unfold wd lo1 hi1; (repeat' split) <;> first | rfl | (exfalso; omega)) (by omega) (by omega)), rfl⟩
  · have y1 : 128 ≤ (c0 : Int) := by omega
    have y2 : (c0 : Int) < 194 := by omega
    have f224 : ((c0 : Int) == 224) = false := by simp; omega
    have f237 : ((c0 : Int) == 237) = false := by simp; omega
    have f238 : ((c0 : Int) == 238) = false := by simp; omega
    have f239 : ((c0 : Int) == 239) = false := by simp; omega
    have f240 : ((c0 : Int) == 240) = false := by simp; omega
    have f244 : ((c0 : Int) == 244) = false := by simp; omega
    go_wp2_with fail
    go_ret2
    exact ⟨congrArg Ending.returned (wd_out HW.out (a := 1) (b := 1) (by unfold wd lo1 hi1; (repeat' split) <;> first | rfl | (exfalso; omega)) (by omega) (by omega)), rfl⟩
  · have y1 : 244 < (c0 : Int) := by omega
    have f224 : ((c0 : Int) == 224) = false := by simp; omega
    have f237 : ((c0 : Int) == 237) = false := by simp; omega
    have f238 : ((c0 : Int) == 238) = false := by simp; omega
    have f239 : ((c0 : Int) == 239) = false := by simp; omega
    have f240 : ((c0 : Int) == 240) = false := by simp; omega
    have f244 : ((c0 : Int) == 244) = false := by simp; omega
    go_wp2_with fail
    go_ret2
    exact ⟨congrArg Ending.returned (wd_out HW.out (a := 1) (b := 1) (by unfold wd lo1 hi1; (repeat' split) <;> first | rfl | (exfalso; omega)) (by omega) (by omega)), rfl⟩
  · have y1 : 194 ≤ (c0 : Int) := by omega
    have y2 : (c0 : Int) ≤ 223 := by omega
    have f224 : ((c0 : Int) == 224) = false := by simp; omega
    have f237 : ((c0 : Int) == 237) = false := by simp; omega
    have f238 : ((c0 : Int) == 238) = false := by simp; omega
    have f239 : ((c0 : Int) == 239) = false := by simp; omega
    have f240 : ((c0 : Int) == 240) = false := by simp; omega
    have f244 : ((c0 : Int) == 244) = false := by simp; omega
    by_cases hn : (en : Int) - (i : Int) < 2
    · go_wp2_with fail
      go_ret2
      exact ⟨congrArg Ending.returned (wd_out HW.out (a := 1) (b := 1) (by unfold wd lo1 hi1; (repeat' split) <;> first | rfl | (exfalso; omega)) (by omega) (by omega)), rfl⟩
    have q1 := HK1.out (by omega)
    have z1 : (i : Int) + 1 < (Z : Int) := by omega
    by_cases ha : (c1 : Int) < 128
    · go_wp2_with fail
      go_ret2
      exact ⟨congrArg Ending.returned (wd_out HW.out (a := 1) (b := 1) (by unfold wd lo1 hi1; (repeat' split) <;> first | rfl | (exfalso; omega)) (by omega) (by omega)), rfl⟩
    by_cases hb : 191 < (c1 : Int)
    · go_wp2_with fail
      go_ret2
      exact ⟨congrArg Ending.returned (wd_out HW.out (a := 1) (b := 1) (by unfold wd lo1 hi1; (repeat' split) <;> first | rfl | (exfalso; omega)) (by omega) (by omega)), rfl⟩
    go_wp2_with fail
    go_loop [12] (fun jv => ∃ k : Nat, 2 ≤ k ∧ k ≤ 2 ∧ jv = .int .i64 k ∧ (3 ≤ k → 128 ≤ c2 ∧ c2 ≤ 191) ∧ (4 ≤ k → 128 ≤ c3 ∧ c3 ≤ 191)) (fun jv => 4 - (intOf jv).toNat)
    case atStart => exact ⟨2, by omega, by omega, rfl, fun h => by omega, fun h => by omega⟩
    case round =>
      obtain ⟨k, hk1, hk2, rfl, e2, e3⟩ := hrel
      obtain rfl : k = 2 := by omega
      go_wp2_with fail
      go_ret2
      exact ⟨congrArg Ending.returned (wd_out HW.out (a := 2) (b := 1) (by unfold wd lo1 hi1; (repeat' split) <;> first | rfl | (exfalso; omega)) (by omega) (by omega)), rfl⟩
  · subst hc
    by_cases hn : (en : Int) - (i : Int) < 3
    · go_wp2_with fail
      go_ret2
      exact ⟨congrArg Ending.returned (wd_out HW.out (a := 1) (b := 1) (by unfold wd lo1 hi1; (repeat' split) <;> first | rfl | (exfalso; omega)) (by omega) (by omega)), rfl⟩
    have q1 := HK1.out (by omega)
    have z1 : (i : Int) + 1 < (Z : Int) := by omega
    by_cases ha : (c1 : Int) < 160
    · go_wp2_with fail
      go_ret2
      exact ⟨congrArg Ending.returned (wd_out HW.out (a := 1) (b := 1) (by unfold wd lo1 hi1; (repeat' split) <;> first | rfl | (exfalso; omega)) (by omega) (by omega)), rfl⟩
    by_cases hb : 191 < (c1 : Int)
    · go_wp2_with fail
      go_ret2
      exact ⟨congrArg Ending.returned (wd_out HW.out (a := 1) (b := 1) (by unfold wd lo1 hi1; (repeat' split) <;> first | rfl | (exfalso; omega)) (by omega) (by omega)), rfl⟩
    go_wp2_with fail
    go_loop [12] (fun jv => ∃ k : Nat, 2 ≤ k ∧ k ≤ 3 ∧ jv = .int .i64 k ∧ (3 ≤ k → 128 ≤ c2 ∧ c2 ≤ 191) ∧ (4 ≤ k → 128 ≤ c3 ∧ c3 ≤ 191)) (fun jv => 4 - (intOf jv).toNat)
    case atStart => exact ⟨2, by omega, by omega, rfl, fun h => by omega, fun h => by omega⟩
    case round =>
      obtain ⟨k, hk1, hk2, rfl, e2, e3⟩ := hrel
      by_cases hk2 : k = 2
      · subst hk2
        have q2 := HK2.out (by omega)
        have z2 : (i : Int) + 2 < (Z : Int) := by omega
        have z2' : IntKind.i64.wrap ((i : Int) + 2) = (i : Int) + 2 := by rw [IntKind.wrap_i64]; omega
        by_cases r1 : (c2 : Int) < 128
        · go_wp2_with fail
          go_ret2
          exact ⟨congrArg Ending.returned (wd_out HW.out (a := 1) (b := 1) (by unfold wd lo1 hi1; (repeat' split) <;> first | rfl | (exfalso; omega)) (by omega) (by omega)), rfl⟩
        by_cases r2 : 191 < (c2 : Int)
        · go_wp2_with fail
          go_ret2
          exact ⟨congrArg Ending.returned (wd_out HW.out (a := 1) (b := 1) (by unfold wd lo1 hi1; (repeat' split) <;> first | rfl | (exfalso; omega)) (by omega) (by omega)), rfl⟩
        go_wp2_with fail
        go_round
        case rel => exact ⟨3, by omega, by omega, by go_num, fun h => by omega, fun h => by omega⟩
        case measure => simp [intOf]
      obtain rfl : k = 3 := by omega
      go_wp2_with fail
      go_ret2
      exact ⟨congrArg Ending.returned (wd_out HW.out (a := 3) (b := 1) (by unfold wd lo1 hi1; (repeat' split) <;> first | rfl | (exfalso; omega)) (by omega) (by omega)), rfl⟩
  · have y1 : 225 ≤ (c0 : Int) := by omega
    have y2 : (c0 : Int) ≤ 236 := by omega
    have f224 : ((c0 : Int) == 224) = false := by simp; omega
    have f237 : ((c0 : Int) == 237) = false := by simp; omega
    have f238 : ((c0 : Int) == 238) = false := by simp; omega
    have f239 : ((c0 : Int) == 239) = false := by simp; omega
    have f240 : ((c0 : Int) == 240) = false := by simp; omega
    have f244 : ((c0 : Int) == 244) = false := by simp; omega
    by_cases hn : (en : Int) - (i : Int) < 3
    · go_wp2_with fail
      go_ret2
      exact ⟨congrArg Ending.returned (wd_out HW.out (a := 1) (b := 1) (by unfold wd lo1 hi1; (repeat' split) <;> first | rfl | (exfalso; omega)) (by omega) (by omega)), rfl⟩
    have q1 := HK1.out (by omega)
    have z1 : (i : Int) + 1 < (Z : Int) := by omega
    by_cases ha : (c1 : Int) < 128
    · go_wp2_with fail
      go_ret2
      exact ⟨congrArg Ending.returned (wd_out HW.out (a := 1) (b := 1) (by unfold wd lo1 hi1; (repeat' split) <;> first | rfl | (exfalso; omega)) (by omega) (by omega)), rfl⟩
    by_cases hb : 191 < (c1 : Int)
    · go_wp2_with fail
      go_ret2
      exact ⟨congrArg Ending.returned (wd_out HW.out (a := 1) (b := 1) (by unfold wd lo1 hi1; (repeat' split) <;> first | rfl | (exfalso; omega)) (by omega) (by omega)), rfl⟩
    go_wp2_with fail
    go_loop [12] (fun jv => ∃ k : Nat, 2 ≤ k ∧ k ≤ 3 ∧ jv = .int .i64 k ∧ (3 ≤ k → 128 ≤ c2 ∧ c2 ≤ 191) ∧ (4 ≤ k → 128 ≤ c3 ∧ c3 ≤ 191)) (fun jv => 4 - (intOf jv).toNat)
    case atStart => exact ⟨2, by omega, by omega, rfl, fun h => by omega, fun h => by omega⟩
    case round =>
      obtain ⟨k, hk1, hk2, rfl, e2, e3⟩ := hrel
      by_cases hk2 : k = 2
      · subst hk2
        have q2 := HK2.out (by omega)
        have z2 : (i : Int) + 2 < (Z : Int) := by omega
        have z2' : IntKind.i64.wrap ((i : Int) + 2) = (i : Int) + 2 := by rw [IntKind.wrap_i64]; omega
        by_cases r1 : (c2 : Int) < 128
        · go_wp2_with fail
          go_ret2
          exact ⟨congrArg Ending.returned (wd_out HW.out (a := 1) (b := 1) (by unfold wd lo1 hi1; (repeat' split) <;> first | rfl | (exfalso; omega)) (by omega) (by omega)), rfl⟩
        by_cases r2 : 191 < (c2 : Int)
        · go_wp2_with fail
          go_ret2
          exact ⟨congrArg Ending.returned (wd_out HW.out (a := 1) (b := 1) (by unfold wd lo1 hi1; (repeat' split) <;> first | rfl | (exfalso; omega)) (by omega) (by omega)), rfl⟩
        go_wp2_with fail
        go_round
        case rel => exact ⟨3, by omega, by omega, by go_num, fun h => by omega, fun h => by omega⟩
        case measure => simp [intOf]
      obtain rfl : k = 3 := by omega
      go_wp2_with fail
      go_ret2
      exact ⟨congrArg Ending.returned (wd_out HW.out (a := 3) (b := 1) (by unfold wd lo1 hi1; (repeat' split) <;> first | rfl | (exfalso; omega)) (by omega) (by omega)), rfl⟩
  · subst hc
    by_cases hn : (en : Int) - (i : Int) < 3
    · go_wp2_with fail
      go_ret2
      exact ⟨congrArg Ending.returned (wd_out HW.out (a := 1) (b := 1) (by unfold wd lo1 hi1; (repeat' split) <;> first | rfl | (exfalso; omega)) (by omega) (by omega)), rfl⟩
    have q1 := HK1.out (by omega)
    have z1 : (i : Int) + 1 < (Z : Int) := by omega
    by_cases ha : (c1 : Int) < 128
    · go_wp2_with fail
      go_ret2
      exact ⟨congrArg Ending.returned (wd_out HW.out (a := 1) (b := 1) (by unfold wd lo1 hi1; (repeat' split) <;> first | rfl | (exfalso; omega)) (by omega) (by omega)), rfl⟩
    by_cases hb : 159 < (c1 : Int)
    · go_wp2_with fail
      go_ret2
      exact ⟨congrArg Ending.returned (wd_out HW.out (a := 1) (b := 1) (by unfold wd lo1 hi1; (repeat' split) <;> first | rfl | (exfalso; omega)) (by omega) (by omega)), rfl⟩
    go_wp2_with fail
    go_loop [12] (fun jv => ∃ k : Nat, 2 ≤ k ∧ k ≤ 3 ∧ jv = .int .i64 k ∧ (3 ≤ k → 128 ≤ c2 ∧ c2 ≤ 191) ∧ (4 ≤ k → 128 ≤ c3 ∧ c3 ≤ 191)) (fun jv => 4 - (intOf jv).toNat)
    case atStart => exact ⟨2, by omega, by omega, rfl, fun h => by omega, fun h => by omega⟩
    case round =>
      obtain ⟨k, hk1, hk2, rfl, e2, e3⟩ := hrel
      by_cases hk2 : k = 2
      · subst hk2
        have q2 := HK2.out (by omega)
        have z2 : (i : Int) + 2 < (Z : Int) := by omega
        have z2' : IntKind.i64.wrap ((i : Int) + 2) = (i : Int) + 2 := by rw [IntKind.wrap_i64]; omega
        by_cases r1 : (c2 : Int) < 128
        · go_wp2_with fail
          go_ret2
          exact ⟨congrArg Ending.returned (wd_out HW.out (a := 1) (b := 1) (by unfold wd lo1 hi1; (repeat' split) <;> first | rfl | (exfalso; omega)) (by omega) (by omega)), rfl⟩
        by_cases r2 : 191 < (c2 : Int)
        · go_wp2_with fail
          go_ret2
          exact ⟨congrArg Ending.returned (wd_out HW.out (a := 1) (b := 1) (by unfold wd lo1 hi1; (repeat' split) <;> first | rfl | (exfalso; omega)) (by omega) (by omega)), rfl⟩
        go_wp2_with fail
        go_round
        case rel => exact ⟨3, by omega, by omega, by go_num, fun h => by omega, fun h => by omega⟩
        case measure => simp [intOf]
      obtain rfl : k = 3 := by omega
      go_wp2_with fail
      go_ret2
      exact ⟨congrArg Ending.returned (wd_out HW.out (a := 3) (b := 1) (by unfold wd lo1 hi1; (repeat' split) <;> first | rfl | (exfalso; omega)) (by omega) (by omega)), rfl⟩
  · subst hc
    by_cases hn : (en : Int) - (i : Int) < 3
    · go_wp2_with fail
      go_ret2
      exact ⟨congrArg Ending.returned (wd_out HW.out (a := 1) (b := 1) (by unfold wd lo1 hi1; (repeat' split) <;> first | rfl | (exfalso; omega)) (by omega) (by omega)), rfl⟩
    have q1 := HK1.out (by omega)
    have z1 : (i : Int) + 1 < (Z : Int) := by omega
    by_cases ha : (c1 : Int) < 128
    · go_wp2_with fail
      go_ret2
      exact ⟨congrArg Ending.returned (wd_out HW.out (a := 1) (b := 1) (by unfold wd lo1 hi1; (repeat' split) <;> first | rfl | (exfalso; omega)) (by omega) (by omega)), rfl⟩
    by_cases hb : 191 < (c1 : Int)
    · go_wp2_with fail
      go_ret2
      exact ⟨congrArg Ending.returned (wd_out HW.out (a := 1) (b := 1) (by unfold wd lo1 hi1; (repeat' split) <;> first | rfl | (exfalso; omega)) (by omega) (by omega)), rfl⟩
    go_wp2_with fail
    go_loop [12] (fun jv => ∃ k : Nat, 2 ≤ k ∧ k ≤ 3 ∧ jv = .int .i64 k ∧ (3 ≤ k → 128 ≤ c2 ∧ c2 ≤ 191) ∧ (4 ≤ k → 128 ≤ c3 ∧ c3 ≤ 191)) (fun jv => 4 - (intOf jv).toNat)
    case atStart => exact ⟨2, by omega, by omega, rfl, fun h => by omega, fun h => by omega⟩
    case round =>
      obtain ⟨k, hk1, hk2, rfl, e2, e3⟩ := hrel
      by_cases hk2 : k = 2
      · subst hk2
        have q2 := HK2.out (by omega)
        have z2 : (i : Int) + 2 < (Z : Int) := by omega
        have z2' : IntKind.i64.wrap ((i : Int) + 2) = (i : Int) + 2 := by rw [IntKind.wrap_i64]; omega
        by_cases r1 : (c2 : Int) < 128
        · go_wp2_with fail
          go_ret2
          exact ⟨congrArg Ending.returned (wd_out HW.out (a := 1) (b := 1) (by unfold wd lo1 hi1; (repeat' split) <;> first | rfl | (exfalso; omega)) (by omega) (by omega)), rfl⟩
        by_cases r2 : 191 < (c2 : Int)
        · go_wp2_with fail
          go_ret2
          exact ⟨congrArg Ending.returned (wd_out HW.out (a := 1) (b := 1) (by unfold wd lo1 hi1; (repeat' split) <;> first | rfl | (exfalso; omega)) (by omega) (by omega)), rfl⟩
        go_wp2_with fail
        go_round
        case rel => exact ⟨3, by omega, by omega, by go_num, fun h => by omega, fun h => by omega⟩
        case measure => simp [intOf]
      obtain rfl : k = 3 := by omega
      go_wp2_with fail
      go_ret2
      exact ⟨congrArg Ending.returned (wd_out HW.out (a := 3) (b := 1) (by unfold wd lo1 hi1; (repeat' split) <;> first | rfl | (exfalso; omega)) (by omega) (by omega)), rfl⟩
  · subst hc
    by_cases hn : (en : Int) - (i : Int) < 3
    · go_wp2_with fail
      go_ret2
      exact ⟨congrArg Ending.returned (wd_out HW.out (a := 1) (b := 1) (by unfold wd lo1 hi1; (repeat' split) <;> first | rfl | (exfalso; omega)) (by omega) (by omega)), rfl⟩
    have q1 := HK1.out (by omega)
    have z1 : (i : Int) + 1 < (Z : Int) := by omega
    by_cases ha : (c1 : Int) < 128
    · go_wp2_with fail
      go_ret2
      exact ⟨congrArg Ending.returned (wd_out HW.out (a := 1) (b := 1) (by unfold wd lo1 hi1; (repeat' split) <;> first | rfl | (exfalso; omega)) (by omega) (by omega)), rfl⟩
    by_cases hb : 191 < (c1 : Int)
    · go_wp2_with fail
      go_ret2
      exact ⟨congrArg Ending.returned (wd_out HW.out (a := 1) (b := 1) (by unfold wd lo1 hi1; (repeat' split) <;> first | rfl | (exfalso; omega)) (by omega) (by omega)), rfl⟩
    go_wp2_with fail
    go_loop [12] (fun jv => ∃ k : Nat, 2 ≤ k ∧ k ≤ 3 ∧ jv = .int .i64 k ∧ (3 ≤ k → 128 ≤ c2 ∧ c2 ≤ 191) ∧ (4 ≤ k → 128 ≤ c3 ∧ c3 ≤ 191)) (fun jv => 4 - (intOf jv).toNat)
    case atStart => exact ⟨2, by omega, by omega, rfl, fun h => by omega, fun h => by omega⟩
    case round =>
      obtain ⟨k, hk1, hk2, rfl, e2, e3⟩ := hrel
      by_cases hk2 : k = 2
      · subst hk2
        have q2 := HK2.out (by omega)
        have z2 : (i : Int) + 2 < (Z : Int) := by omega
        have z2' : IntKind.i64.wrap ((i : Int) + 2) = (i : Int) + 2 := by rw [IntKind.wrap_i64]; omega
        by_cases r1 : (c2 : Int) < 128
        · go_wp2_with fail
          go_ret2
          exact ⟨congrArg Ending.returned (wd_out HW.out (a := 1) (b := 1) (by unfold wd lo1 hi1; (repeat' split) <;> first | rfl | (exfalso; omega)) (by omega) (by omega)), rfl⟩
        by_cases r2 : 191 < (c2 : Int)
        · go_wp2_with fail
          go_ret2
          exact ⟨congrArg Ending.returned (wd_out HW.out (a := 1) (b := 1) (by unfold wd lo1 hi1; (repeat' split) <;> first | rfl | (exfalso; omega)) (by omega) (by omega)), rfl⟩
        go_wp2_with fail
        go_round
        case rel => exact ⟨3, by omega, by omega, by go_num, fun h => by omega, fun h => by omega⟩
        case measure => simp [intOf]
      obtain rfl : k = 3 := by omega
      go_wp2_with fail
      go_ret2
      exact ⟨congrArg Ending.returned (wd_out HW.out (a := 3) (b := 1) (by unfold wd lo1 hi1; (repeat' split) <;> first | rfl | (exfalso; omega)) (by omega) (by omega)), rfl⟩
  · subst hc
    by_cases hn : (en : Int) - (i : Int) < 4
    · go_wp2_with fail
      go_ret2
      exact ⟨congrArg Ending.returned (wd_out HW.out (a := 1) (b := 1) (by unfold wd lo1 hi1; (repeat' split) <;> first | rfl | (exfalso; omega)) (by omega) (by omega)), rfl⟩
    have q1 := HK1.out (by omega)
    have z1 : (i : Int) + 1 < (Z : Int) := by omega
    by_cases ha : (c1 : Int) < 144
    · go_wp2_with fail
      go_ret2
      exact ⟨congrArg Ending.returned (wd_out HW.out (a := 1) (b := 1) (by unfold wd lo1 hi1; (repeat' split) <;> first | rfl | (exfalso; omega)) (by omega) (by omega)), rfl⟩
    by_cases hb : 191 < (c1 : Int)
    · go_wp2_with fail
      go_ret2
      exact ⟨congrArg Ending.returned (wd_out HW.out (a := 1) (b := 1) (by unfold wd lo1 hi1; (repeat' split) <;> first | rfl | (exfalso; omega)) (by omega) (by omega)), rfl⟩
    go_wp2_with fail
    go_loop [12] (fun jv => ∃ k : Nat, 2 ≤ k ∧ k ≤ 4 ∧ jv = .int .i64 k ∧ (3 ≤ k → 128 ≤ c2 ∧ c2 ≤ 191) ∧ (4 ≤ k → 128 ≤ c3 ∧ c3 ≤ 191)) (fun jv => 4 - (intOf jv).toNat)
    case atStart => exact ⟨2, by omega, by omega, rfl, fun h => by omega, fun h => by omega⟩
    case round =>
      obtain ⟨k, hk1, hk2, rfl, e2, e3⟩ := hrel
      by_cases hk2 : k = 2
      · subst hk2
        have q2 := HK2.out (by omega)
        have z2 : (i : Int) + 2 < (Z : Int) := by omega
        have z2' : IntKind.i64.wrap ((i : Int) + 2) = (i : Int) + 2 := by rw [IntKind.wrap_i64]; omega
        by_cases r1 : (c2 : Int) < 128
        · go_wp2_with fail
          go_ret2
          exact ⟨congrArg Ending.returned (wd_out HW.out (a := 1) (b := 1) (by unfold wd lo1 hi1; (repeat' split) <;> first | rfl | (exfalso; omega)) (by omega) (by omega)), rfl⟩
        by_cases r2 : 191 < (c2 : Int)
        · go_wp2_with fail
          go_ret2
          exact ⟨congrArg Ending.returned (wd_out HW.out (a := 1) (b := 1) (by unfold wd lo1 hi1; (repeat' split) <;> first | rfl | (exfalso; omega)) (by omega) (by omega)), rfl⟩
        go_wp2_with fail
        go_round
        case rel => exact ⟨3, by omega, by omega, by go_num, fun h => by omega, fun h => by omega⟩
        case measure => simp [intOf]
      by_cases hk3 : k = 3
      · subst hk3
        have q3 := HK3.out (by omega)
        have z3 : (i : Int) + 3 < (Z : Int) := by omega
        have z3' : IntKind.i64.wrap ((i : Int) + 3) = (i : Int) + 3 := by rw [IntKind.wrap_i64]; omega
        by_cases r1 : (c3 : Int) < 128
        · go_wp2_with fail
          go_ret2
          exact ⟨congrArg Ending.returned (wd_out HW.out (a := 1) (b := 1) (by unfold wd lo1 hi1; (repeat' split) <;> first | rfl | (exfalso; omega)) (by omega) (by omega)), rfl⟩
        by_cases r2 : 191 < (c3 : Int)
        · go_wp2_with fail
          go_ret2
          exact ⟨congrArg Ending.returned (wd_out HW.out (a := 1) (b := 1) (by unfold wd lo1 hi1; (repeat' split) <;> first | rfl | (exfalso; omega)) (by omega) (by omega)), rfl⟩
        go_wp2_with fail
        go_round
        case rel => exact ⟨4, by omega, by omega, by go_num, fun h => by omega, fun h => by omega⟩
        case measure => simp [intOf]
      obtain rfl : k = 4 := by omega
      go_wp2_with fail
      go_ret2
      exact ⟨congrArg Ending.returned (wd_out HW.out (a := 4) (b := 2) (by unfold wd lo1 hi1; (repeat' split) <;> first | rfl | (exfalso; omega)) (by omega) (by omega)), rfl⟩
  · have y1 : 241 ≤ (c0 : Int) := by omega
    have y2 : (c0 : Int) ≤ 243 := by omega
    have f224 : ((c0 : Int) == 224) = false := by simp; omega
    have f237 : ((c0 : Int) == 237) = false := by simp; omega
    have f238 : ((c0 : Int) == 238) = false := by simp; omega
    have f239 : ((c0 : Int) == 239) = false := by simp; omega
    have f240 : ((c0 : Int) == 240) = false := by simp; omega
    have f244 : ((c0 : Int) == 244) = false := by simp; omega
    by_cases hn : (en : Int) - (i : Int) < 4
    · go_wp2_with fail
      go_ret2
      exact ⟨congrArg Ending.returned (wd_out HW.out (a := 1) (b := 1) (by unfold wd lo1 hi1; (repeat' split) <;> first | rfl | (exfalso; omega)) (by omega) (by omega)), rfl⟩
    have q1 := HK1.out (by omega)
    have z1 : (i : Int) + 1 < (Z : Int) := by omega
    by_cases ha : (c1 : Int) < 128
    · go_wp2_with fail
      go_ret2
      exact ⟨congrArg Ending.returned (wd_out HW.out (a := 1) (b := 1) (by unfold wd lo1 hi1; (repeat' split) <;> first | rfl | (exfalso; omega)) (by omega) (by omega)), rfl⟩
    by_cases hb : 191 < (c1 : Int)
    · go_wp2_with fail
      go_ret2
      exact ⟨congrArg Ending.returned (wd_out HW.out (a := 1) (b := 1) (by unfold wd lo1 hi1; (repeat' split) <;> first | rfl | (exfalso; omega)) (by omega) (by omega)), rfl⟩
    go_wp2_with fail
    go_loop [12] (fun jv => ∃ k : Nat, 2 ≤ k ∧ k ≤ 4 ∧ jv = .int .i64 k ∧ (3 ≤ k → 128 ≤ c2 ∧ c2 ≤ 191) ∧ (4 ≤ k → 128 ≤ c3 ∧ c3 ≤ 191)) (fun jv => 4 - (intOf jv).toNat)
    case atStart => exact ⟨2, by omega, by omega, rfl, fun h => by omega, fun h => by omega⟩
    case round =>
      obtain ⟨k, hk1, hk2, rfl, e2, e3⟩ := hrel
      by_cases hk2 : k = 2
      · subst hk2
        have q2 := HK2.out (by omega)
        have z2 : (i : Int) + 2 < (Z : Int) := by omega
        have z2' : IntKind.i64.wrap ((i : Int) + 2) = (i : Int) + 2 := by rw [IntKind.wrap_i64]; omega
        by_cases r1 : (c2 : Int) < 128
        · go_wp2_with fail
          go_ret2
          exact ⟨congrArg Ending.returned (wd_out HW.out (a := 1) (b := 1) (by unfold wd lo1 hi1; (repeat' split) <;> first | rfl | (exfalso; omega)) (by omega) (by omega)), rfl⟩
        by_cases r2 : 191 < (c2 : Int)
        · go_wp2_with fail
          go_ret2
          exact ⟨congrArg Ending.returned (wd_out HW.out (a := 1) (b := 1) (by unfold wd lo1 hi1; (repeat' split) <;> first | rfl | (exfalso; omega)) (by omega) (by omega)), rfl⟩
        go_wp2_with fail
        go_round
        case rel => exact ⟨3, by omega, by omega, by go_num, fun h => by omega, fun h => by omega⟩
        case measure => simp [intOf]
      by_cases hk3 : k = 3
      · subst hk3
        have q3 := HK3.out (by omega)
        have z3 : (i : Int) + 3 < (Z : Int) := by omega
        have z3' : IntKind.i64.wrap ((i : Int) + 3) = (i : Int) + 3 := by rw [IntKind.wrap_i64]; omega
        by_cases r1 : (c3 : Int) < 128
        · go_wp2_with fail
          go_ret2
          exact ⟨congrArg Ending.returned (wd_out HW.out (a := 1) (b := 1) (by unfold wd lo1 hi1; (repeat' split) <;> first | rfl | (exfalso; omega)) (by omega) (by omega)), rfl⟩
        by_cases r2 : 191 < (c3 : Int)
        · go_wp2_with fail
          go_ret2
          exact ⟨congrArg Ending.returned (wd_out HW.out (a := 1) (b := 1) (by unfold wd lo1 hi1; (repeat' split) <;> first | rfl | (exfalso; omega)) (by omega) (by omega)), rfl⟩
        go_wp2_with fail
        go_round
        case rel => exact ⟨4, by omega, by omega, by go_num, fun h => by omega, fun h => by omega⟩
        case measure => simp [intOf]
      obtain rfl : k = 4 := by omega
      go_wp2_with fail
      go_ret2
      exact ⟨congrArg Ending.returned (wd_out HW.out (a := 4) (b := 2) (by unfold wd lo1 hi1; (repeat' split) <;> first | rfl | (exfalso; omega)) (by omega) (by omega)), rfl⟩
  · subst hc
    by_cases hn : (en : Int) - (i : Int) < 4
    · go_wp2_with fail
      go_ret2
      exact ⟨congrArg Ending.returned (wd_out HW.out (a := 1) (b := 1) (by unfold wd lo1 hi1; (repeat' split) <;> first | rfl | (exfalso; omega)) (by omega) (by omega)), rfl⟩
    have q1 := HK1.out (by omega)
    have z1 : (i : Int) + 1 < (Z : Int) := by omega
    by_cases ha : (c1 : Int) < 128
    · go_wp2_with fail
      go_ret2
      exact ⟨congrArg Ending.returned (wd_out HW.out (a := 1) (b := 1) (by unfold wd lo1 hi1; (repeat' split) <;> first | rfl | (exfalso; omega)) (by omega) (by omega)), rfl⟩
    by_cases hb : 143 < (c1 : Int)
    · go_wp2_with fail
      go_ret2
      exact ⟨congrArg Ending.returned (wd_out HW.out (a := 1) (b := 1) (by unfold wd lo1 hi1; (repeat' split) <;> first | rfl | (exfalso; omega)) (by omega) (by omega)), rfl⟩
    go_wp2_with fail
    go_loop [12] (fun jv => ∃ k : Nat, 2 ≤ k ∧ k ≤ 4 ∧ jv = .int .i64 k ∧ (3 ≤ k → 128 ≤ c2 ∧ c2 ≤ 191) ∧ (4 ≤ k → 128 ≤ c3 ∧ c3 ≤ 191)) (fun jv => 4 - (intOf jv).toNat)
    case atStart => exact ⟨2, by omega, by omega, rfl, fun h => by omega, fun h => by omega⟩
    case round =>
      obtain ⟨k, hk1, hk2, rfl, e2, e3⟩ := hrel
      by_cases hk2 : k = 2
      · subst hk2
        have q2 := HK2.out (by omega)
        have z2 : (i : Int) + 2 < (Z : Int) := by omega
        have z2' : IntKind.i64.wrap ((i : Int) + 2) = (i : Int) + 2 := by rw [IntKind.wrap_i64]; omega
        by_cases r1 : (c2 : Int) < 128
        · go_wp2_with fail
          go_ret2
          exact ⟨congrArg Ending.returned (wd_out HW.out (a := 1) (b := 1) (by unfold wd lo1 hi1; (repeat' split) <;> first | rfl | (exfalso; omega)) (by omega) (by omega)), rfl⟩
        by_cases r2 : 191 < (c2 : Int)
        · go_wp2_with fail
          go_ret2
          exact ⟨congrArg Ending.returned (wd_out HW.out (a := 1) (b := 1) (by unfold wd lo1 hi1; (repeat' split) <;> first | rfl | (exfalso; omega)) (by omega) (by omega)), rfl⟩
        go_wp2_with fail
        go_round
        case rel => exact ⟨3, by omega, by omega, by go_num, fun h => by omega, fun h => by omega⟩
        case measure => simp [intOf]
      by_cases hk3 : k = 3
      · subst hk3
        have q3 := HK3.out (by omega)
        have z3 : (i : Int) + 3 < (Z : Int) := by omega
        have z3' : IntKind.i64.wrap ((i : Int) + 3) = (i : Int) + 3 := by rw [IntKind.wrap_i64]; omega
        by_cases r1 : (c3 : Int) < 128
        · go_wp2_with fail
          go_ret2
          exact ⟨congrArg Ending.returned (wd_out HW.out (a := 1) (b := 1) (by unfold wd lo1 hi1; (repeat' split) <;> first | rfl | (exfalso; omega)) (by omega) (by omega)), rfl⟩
        by_cases r2 : 191 < (c3 : Int)
        · go_wp2_with fail
          go_ret2
          exact ⟨congrArg Ending.returned (wd_out HW.out (a := 1) (b := 1) (by unfold wd lo1 hi1; (repeat' split) <;> first | rfl | (exfalso; omega)) (by omega) (by omega)), rfl⟩
        go_wp2_with fail
        go_round
        case rel => exact ⟨4, by omega, by omega, by go_num, fun h => by omega, fun h => by omega⟩
        case measure => simp [intOf]
      obtain rfl : k = 4 := by omega
      go_wp2_with fail
      go_ret2
      exact ⟨congrArg Ending.returned (wd_out HW.out (a := 4) (b := 2) (by unfold wd lo1 hi1; (repeat' split) <;> first | rfl | (exfalso; omega)) (by omega) (by omega)), rfl⟩
end Go.Proofs.Qxb6614461aFmt
