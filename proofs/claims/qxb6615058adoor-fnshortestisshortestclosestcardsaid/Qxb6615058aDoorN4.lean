/-
  Plain: what strconv's uscale reckons, in whole numbers.
-/
import Derived.Test.Qxb6615058aDoorN3
namespace Go.Proofs.Qxb6615058aDoor

theorem above {D T Z g n : Nat} (hZ : D * T = Z + g) (hg : g < D * 18446744073709551616) (h : n + 18446744073709551616 ≤ T) : D * n < Z := by
  have h1 := Nat.mul_le_mul_left D h
  rw [Nat.mul_add] at h1
  omega
theorem atmost {D T Z g n : Nat} (hZ : D * T = Z + g) (h : T ≤ n) : Z ≤ D * n := by
  have h1 := Nat.mul_le_mul_left D h
  omega
theorem below {D T Z g n : Nat} (hD : 0 < D) (hZ : D * T = Z + g) (h : T < n) : Z < D * n := by
  have h1 := (Nat.mul_lt_mul_left hD).2 h
  omega

/-- Between two neighbouring multiples. -/
theorem between {D Z n : Nat} (h1 : n * D < Z) (h2 : Z < (n + 1) * D) : Z / D = n ∧ ¬ D ∣ Z := by
  have e : Z / D = n := by
    refine Nat.div_eq_of_lt_le ?_ h2
    omega
  refine ⟨e, fun hd => ?_⟩
  have := Nat.div_mul_cancel hd
  rw [e] at this
  omega

theorem or_one (n : Nat) : n ||| 1 = 2 * (n / 2) + 1 := by
  have h1 : (n ||| 1) / 2 = n / 2 := by rw [Nat.or_div_two]; simp
  have h2 : (n ||| 1) % 2 = 1 := by rw [Nat.or_mod_two_eq_one]; right; rfl
  omega

/-- The number whose fourfold is Z over D, to two bits: its halves rounded down, and whether that was all. -/
def unround (Z D : Nat) : Nat := 2 * (Z / (2 * D)) + if 2 * D ∣ Z then 0 else 1

theorem unround_off {Z D n : Nat} (h : Z / D = n) (hn : ¬ D ∣ Z) : n ||| 1 = unround Z D := by
  unfold unround
  have h1 : ¬ 2 * D ∣ Z := fun hd => hn (Nat.dvd_trans (Nat.dvd_mul_left D 2) hd)
  rw [if_neg h1, or_one, ← h, Nat.mul_comm 2 D, Nat.div_div_eq_div_mul]
theorem unround_on {Z D n : Nat} (hD : 0 < D) (h : Z = n * D) : n ||| 0 = unround Z D := by
  unfold unround
  have e : Z / (2 * D) = n / 2 := by
    rw [Nat.mul_comm 2 D, ← Nat.div_div_eq_div_mul, h, Nat.mul_div_cancel n hD]
  rw [e, Nat.or_zero]
  have hiff : 2 * D ∣ Z ↔ 2 ∣ n := by
    rw [h]
    exact Nat.mul_dvd_mul_iff_right hD
  by_cases h2 : 2 ∣ n
  · rw [if_pos (hiff.2 h2)]
    omega
  · rw [if_neg (fun hd => h2 (hiff.1 hd))]
    omega

/-- What uscale answers: x times hi * 2^64 - lo, to be cut by 2^(128 + s). -/
def uscaleN (x h l s : Nat) : Nat :=
  let hi := x * h / 18446744073709551616
  let mid := x * h % 18446744073709551616
  let mid2 := x * l / 18446744073709551616
  if hi % 2 ^ s ≠ 0 then hi / 2 ^ s ||| 1
  else (if mid < mid2 then hi - 1 else hi) / 2 ^ s ||| (if 1 < (mid + 18446744073709551616 - mid2) % 18446744073709551616 then 1 else 0)

theorem uscale_math {x h l s D QN : Nat} (hD : 0 < D) (hx : x < 18446744073709551616) (hl : l < 18446744073709551616) (hlh : l ≤ h * 18446744073709551616)
    (t1 : QN ≤ (h * 18446744073709551616 - l) * D) (t2 : (h * 18446744073709551616 - l) * D < QN + D)
    (hgap : ∀ k : Nat, x * QN = k * (D * 2 ^ (128 + s)) ∨ D * 36893488147419103232 ≤ apart (x * QN) (k * (D * 2 ^ (128 + s)))) :
    uscaleN x h l s = unround (x * QN) (D * 2 ^ (128 + s)) := by
  -- the product, and how far the true one stands below it
  obtain ⟨pm, hpm⟩ : ∃ pm, pm = h * 18446744073709551616 - l := ⟨_, rfl⟩
  rw [← hpm] at t1 t2
  have hZ : D * (x * pm) = x * QN + x * (pm * D - QN) := by
    rw [← Nat.mul_add, Nat.add_sub_cancel' t1, Nat.mul_left_comm, Nat.mul_comm D pm]
  have hg : x * (pm * D - QN) < D * 18446744073709551616 := by
    have h1 : x * (pm * D - QN) ≤ x * D := Nat.mul_le_mul_left x (by omega)
    have h2 : x * D < 18446744073709551616 * D := (Nat.mul_lt_mul_right hD).2 hx
    rw [Nat.mul_comm 18446744073709551616 D] at h2
    omega
  generalize x * (pm * D - QN) = g at hZ hg
  -- T, by parts
  have hT : x * pm + x * l = x * h * 18446744073709551616 := by
    rw [← Nat.mul_add, hpm, Nat.sub_add_cancel hlh, Nat.mul_assoc]
  have hxl : x * l ≤ 18446744073709551615 * 18446744073709551615 := Nat.mul_le_mul (by omega) (by omega)
  have e1 := Nat.div_add_mod (x * h) 18446744073709551616
  have e2 := Nat.div_add_mod (x * l) 18446744073709551616
  have m1 : x * h % 18446744073709551616 < 18446744073709551616 := Nat.mod_lt _ (by decide)
  have m2 : x * l % 18446744073709551616 < 18446744073709551616 := Nat.mod_lt _ (by decide)
  unfold uscaleN
  dsimp only
  generalize x * h / 18446744073709551616 = hi at *
  generalize x * h % 18446744073709551616 = mid at *
  generalize x * l / 18446744073709551616 = mid2 at *
  generalize x * l % 18446744073709551616 = r at *
  generalize x * QN = Z at *
  generalize x * pm = T at *
  generalize x * h = X at *
  generalize x * l = xl at *
  -- the cut
  obtain ⟨w, hw⟩ : ∃ w, w = 2 ^ s := ⟨_, rfl⟩
  have hw0 : 0 < w := by rw [hw]; exact Nat.two_pow_pos s
  have hDn : D * 2 ^ (128 + s) = D * (w * 340282366920938463463374607431768211456) := by
    rw [Nat.pow_add, ← hw, Nat.mul_comm (2 ^ 128) w]
  rw [hDn] at hgap ⊢
  have hDn0 : 0 < D * (w * 340282366920938463463374607431768211456) := Nat.mul_pos hD (Nat.mul_pos hw0 (by decide))
  rw [← hw]
  have e3 := Nat.div_add_mod hi w
  have m3 : hi % w < w := Nat.mod_lt _ hw0
  have f1 : ∀ H, H * (D * (w * 340282366920938463463374607431768211456)) = D * (w * H * 340282366920938463463374607431768211456) := fun H => by
    rw [Nat.mul_left_comm, Nat.mul_comm w H, Nat.mul_assoc]
  have f2 : ∀ H, w * (H + 1) = w * H + w := fun H => Nat.mul_succ w H
  by_cases h0 : hi % w = 0
  · rw [if_neg (by simpa using h0)]
    by_cases hm : mid < mid2
    · rw [if_pos hm, if_pos (by omega)]
      -- hi is not nothing
      have hhi : 0 < hi := by omega
      obtain ⟨H, hH⟩ : ∃ H, hi / w = H + 1 := by
        refine ⟨hi / w - 1, ?_⟩
        have : 0 < hi / w := by
          rcases Nat.eq_zero_or_pos (hi / w) with hz | hz
          · rw [hz, Nat.mul_zero] at e3; omega
          · exact hz
        omega
      rw [hH, f2] at e3
      have hdv : (hi - 1) / w = H := by
        refine Nat.div_eq_of_lt_le ?_ ?_
        · rw [Nat.mul_comm]; omega
        · rw [Nat.mul_comm, f2]; omega
      rw [hdv]
      obtain ⟨k1, k2⟩ := between (D := D * (w * 340282366920938463463374607431768211456)) (Z := Z) (n := H)
        (by rw [f1]; exact above hZ hg (by omega)) (by rw [f1, f2]; exact below hD hZ (by omega))
      exact unround_off k1 k2
    · rw [if_neg hm]
      have hdm : (mid + 18446744073709551616 - mid2) % 18446744073709551616 = mid - mid2 := by omega
      rw [hdm]
      by_cases hd : 1 < mid - mid2
      · rw [if_pos hd]
        obtain ⟨k1, k2⟩ := between (D := D * (w * 340282366920938463463374607431768211456)) (Z := Z) (n := hi / w)
          (by rw [f1]; exact above hZ hg (by omega)) (by rw [f1, f2]; exact below hD hZ (by omega))
        exact unround_off k1 k2
      · rw [if_neg hd]
        refine unround_on hDn0 ?_
        rcases hgap (hi / w) with hE | hE
        · exact hE
        · exfalso
          rw [f1] at hE
          have a1 : D * (w * (hi / w) * 340282366920938463463374607431768211456 - 36893488147419103232) < Z ∨ w * (hi / w) * 340282366920938463463374607431768211456 < 36893488147419103232 := by
            rcases Nat.lt_or_ge (w * (hi / w) * 340282366920938463463374607431768211456) 36893488147419103232 with hlt | hge
            · exact Or.inr hlt
            · exact Or.inl (above hZ hg (by omega))
          have a2 : Z ≤ D * (w * (hi / w) * 340282366920938463463374607431768211456 + 18446744073709551616) := atmost hZ (by omega)
          rw [Nat.mul_add] at a2
          unfold apart at hE
          rcases a1 with a1 | a1
          · rw [Nat.mul_sub] at a1
            have a3 : D * 36893488147419103232 = D * 18446744073709551616 + D * 18446744073709551616 := by rw [← Nat.mul_add]
            have a4 : 0 < D * 18446744073709551616 := Nat.mul_pos hD (by decide)
            omega
          · have a5 : w * (hi / w) = 0 := by omega
            rw [a5, Nat.zero_mul, Nat.mul_zero] at hE a2
            have a3 : D * 36893488147419103232 = D * 18446744073709551616 + D * 18446744073709551616 := by rw [← Nat.mul_add]
            have a4 : 0 < D * 18446744073709551616 := Nat.mul_pos hD (by decide)
            omega
  · rw [if_pos (by simpa using h0)]
    obtain ⟨k1, k2⟩ := between (D := D * (w * 340282366920938463463374607431768211456)) (Z := Z) (n := hi / w)
      (by rw [f1]; exact above hZ hg (by omega)) (by rw [f1, f2]; exact below hD hZ (by omega))
    exact unround_off k1 k2
end Go.Proofs.Qxb6615058aDoor
