/-
  Plain: the text of a decimal: [-]d[.ddd]e(+|-)dd[d].
-/
import Derived.Test.Qxb6615058aDoorN9
namespace Go.Proofs.Qxb6615058aDoor

def dB (d : Nat) : UInt8 := UInt8.ofNat (48 + d)
theorem dB_nat {d : Nat} (h : d < 10) : (dB d).toNat = 48 + d := by
  unfold dB
  rw [UInt8.toNat_ofNat']
  omega

/-- The digits of the exponent. -/
def expL (n : Nat) : List Nat := if n < 10 then [0, n] else if n < 100 then [n / 10, n % 10] else [n / 100, n / 10 % 10, n % 10]
def expT (x : Int) : List UInt8 := 101 :: (if x < 0 then 45 else 43) :: (expL x.natAbs).map dB
def signT (neg : Bool) : List UInt8 := if neg then [45] else []
def mantT : List Nat → List UInt8
  | [] => []
  | [a] => [dB a]
  | a :: b :: x => dB a :: 46 :: (b :: x).map dB
def textT (neg : Bool) (ds : List Nat) (x : Int) : List UInt8 := signT neg ++ (mantT ds ++ expT x)

theorem expL_ok (n : Nat) (h : n < 1000) : ((expL n).length = 2 ∨ (expL n).length = 3 ∧ (expL n)[0]? ≠ some 0) ∧ (∀ d ∈ expL n, d < 10) ∧ valD (expL n) = n := by
  unfold expL
  split
  · refine ⟨.inl rfl, ?_, ?_⟩
    · intro d hd
      simp at hd
      omega
    · simp [valD]
  · split
    · refine ⟨.inl rfl, ?_, ?_⟩
      · intro d hd
        simp at hd
        omega
      · simp [valD]
        omega
    · refine ⟨.inr ⟨rfl, ?_⟩, ?_, ?_⟩
      · simp
        omega
      · intro d hd
        simp at hd
        omega
      · simp [valD]
        omega

theorem mantT_len : ∀ ds : List Nat, (mantT ds).length = if ds.length ≤ 1 then ds.length else ds.length + 1
  | [] => rfl
  | [a] => rfl
  | a :: b :: x => by simp [mantT]

theorem mantT_one {ds : List Nat} (h : ds.length = 1) : mantT ds = ds.map dB := by
  match ds, h with
  | [a], _ => rfl

theorem mantT_many {ds : List Nat} (h : 2 ≤ ds.length) : mantT ds = dB ds[0] :: 46 :: (ds.drop 1).map dB := by
  match ds, h with
  | a :: b :: x, _ => rfl

theorem signT_len (neg : Bool) : (signT neg).length = if neg then 1 else 0 := by cases neg <;> rfl
theorem expT_len (x : Int) : (expT x).length = (expL x.natAbs).length + 2 := by simp [expT]

end Go.Proofs.Qxb6615058aDoor
