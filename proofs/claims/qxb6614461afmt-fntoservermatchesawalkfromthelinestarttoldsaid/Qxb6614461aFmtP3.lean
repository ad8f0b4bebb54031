import Derived.Test.Qxb6614461aFmtP2
namespace Go.Proofs.Qxb6614461aFmt
open Go.RowKit

/-- zzWidth, in plain words, of the bytes at hand (n of them, c0 the first). -/
def lo1 (c0 : Nat) : Nat := if c0 = 224 then 160 else if c0 = 240 then 144 else 128
def hi1 (c0 : Nat) : Nat := if c0 = 237 then 159 else if c0 = 244 then 143 else 191
def wd (n c0 c1 c2 c3 : Nat) : Nat × Nat :=
  if c0 < 128 then (1, 1)
  else if 194 ≤ c0 ∧ c0 ≤ 223 ∧ 2 ≤ n ∧ 128 ≤ c1 ∧ c1 ≤ 191 then (2, 1)
  else if 224 ≤ c0 ∧ c0 ≤ 239 ∧ 3 ≤ n ∧ lo1 c0 ≤ c1 ∧ c1 ≤ hi1 c0 ∧ 128 ≤ c2 ∧ c2 ≤ 191 then (3, 1)
  else if 240 ≤ c0 ∧ c0 ≤ 244 ∧ 4 ≤ n ∧ lo1 c0 ≤ c1 ∧ c1 ≤ hi1 c0 ∧ 128 ≤ c2 ∧ c2 ≤ 191 ∧ 128 ≤ c3 ∧ c3 ≤ 191 then (4, 2)
  else (1, 1)

set_option maxHeartbeats 4000000 in
theorem wd_eq (n c0 c1 c2 c3 : Nat) (h0 : c0 < 256) (h1 : c1 < 256) (h2 : c2 < 256) (h3 : c3 < 256) : ((Lib.decodeN n c0 c1 c2 c3).2, (ru (Lib.decodeN n c0 c1 c2 c3).1).toNat) = wd n c0 c1 c2 c3 := by
  unfold Lib.decodeN wd lo1 hi1
  by_cases a0 : c0 < 128
  · rw [if_pos a0, if_pos a0]
    simp only [Prod.mk.injEq, true_and]
    unfold ru
    rw [if_pos (by omega)]
    rfl
  · rw [if_neg a0, if_neg a0]
    have hr : (ru ((65533 : Nat) : Int)).toNat = 1 := by decide
    repeat' split
    all_goals first
      | (exfalso; omega)
      | (simp only [hr]; done)
      | (simp only [Prod.mk.injEq, true_and]; unfold ru; first | (rw [if_pos (by omega)]; rfl) | (rw [if_neg (by omega), if_pos (by omega)]; rfl))

theorem get_lt (b : ByteArray) (i : Nat) : (b.get! i).toNat < 256 := UInt8.toNat_lt _

/-- sz and un by zzWidth's own words. -/
theorem sz_wd (bs : ByteArray) (i en : Nat) (h1 : i < en) (h2 : en ≤ bs.size) : ∃ c0 c1 c2 c3 : Nat, c0 < 256 ∧ c1 < 256 ∧ c2 < 256 ∧ c3 < 256 ∧ (sz bs i en, un bs i en) = wd (en - i) c0 c1 c2 c3 ∧
    (bs.get! i).toNat = c0 ∧ (1 < en - i → (bs.get! (i + 1)).toNat = c1) ∧ (2 < en - i → (bs.get! (i + 2)).toNat = c2) ∧ (3 < en - i → (bs.get! (i + 3)).toNat = c3) := by
  have e1 : (bs.extract i en).size = en - i := by simp [ByteArray.size_extract]; omega
  refine ⟨((bs.extract i en).get! 0).toNat, ((bs.extract i en).get! 1).toNat, ((bs.extract i en).get! 2).toNat, ((bs.extract i en).get! 3).toNat, get_lt _ _, get_lt _ _, get_lt _ _, get_lt _ _, ?_, ?_, ?_, ?_, ?_⟩
  · rw [← wd_eq _ _ _ _ _ (get_lt _ _) (get_lt _ _) (get_lt _ _) (get_lt _ _)]
    have hd : dec bs i en = Lib.decodeN (en - i) ((bs.extract i en).get! 0).toNat ((bs.extract i en).get! 1).toNat ((bs.extract i en).get! 2).toNat ((bs.extract i en).get! 3).toNat := by
      unfold dec Lib.decodeGo
      rw [if_neg (by omega), Lib.decode_at, e1]
      rfl
    unfold sz un
    rw [hd]
  · rw [get_extract bs i en 0 h2 (by omega)]; rfl
  · intro h; rw [get_extract bs i en 1 h2 (by omega)]
  · intro h; rw [get_extract bs i en 2 h2 (by omega)]
  · intro h; rw [get_extract bs i en 3 h2 (by omega)]

/-- The way out: two numbers. -/
theorem wd_out {n c0 c1 c2 c3 : Nat} {a b : Int} {p q : Nat} (hw : (p, q) = wd n c0 c1 c2 c3) (h : wd n c0 c1 c2 c3 = (a.toNat, b.toNat)) (ha : 0 ≤ a) (hb : 0 ≤ b) : (.tuple #[.int .i64 a, .int .i64 b] : Value) = .tuple #[.int .i64 p, .int .i64 q] := by
  rw [h] at hw
  simp only [Prod.mk.injEq] at hw
  obtain ⟨rfl, rfl⟩ := hw
  rw [Int.toNat_of_nonneg ha, Int.toNat_of_nonneg hb]

end Go.Proofs.Qxb6614461aFmt
