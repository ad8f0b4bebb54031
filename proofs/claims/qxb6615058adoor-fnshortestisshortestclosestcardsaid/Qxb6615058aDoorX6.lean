/-
  Walk: zzNegPair (6).
-/
import Derived.Test.Qxb6615058aDoorX5
import Derived.Test.Qxb6615058aDoorL4
namespace Go.Proofs.Qxb6615058aDoor
open Go.RowKit

set_option maxRecDepth 100000 in
theorem negPair_t (s t : ByteArray) (w : World) (h0 : 0 < s.size) (g0 : (((s[0]'h0).toNat : Int) == 45) = false) (hb : s.size ≤ 40) (ht : t = ⟨(45 :: s.data.toList).toArray⟩) :
    Calls Tryd.prog 6 #[.string s, .string t] w fun e w' => e = .returned (.bool true) ∧ w' = w := by
  have x0 : (0 : Int) < (s.size : Int) := by omega
  have x1 : decide ((s.size : Int) > 0) = true := by simp; omega
  have HT : Hid ((t.toList == ((⟨#[45]⟩ : ByteArray) ++ s).toList) = true) := by
    rw [Hid, beq_iff_eq, ht, ByteArray.toList_eq, ByteArray.toList_eq, ByteArray.data_append]
    simp
  clear ht
  go_enter Tryd.func6, Tryd.ntmps6
  go_wp2_with fail
  go_ret
  exact ⟨ret_bool HT.out, rfl⟩

set_option maxRecDepth 100000 in
theorem negPair_u (s t : ByteArray) (w : World) (h0 : 0 < s.size) (g0 : (((s[0]'h0).toNat : Int) == 45) = true) (hb : s.size ≤ 40) (ht : s.extract 1 s.size = t) :
    Calls Tryd.prog 6 #[.string s, .string t] w fun e w' => e = .returned (.bool true) ∧ w' = w := by
  have x0 : (0 : Int) < (s.size : Int) := by omega
  have x2 : (1 : Int) ≤ (s.size : Int) := by omega
  have x1 : decide ((s.size : Int) > 0) = true := by simp; omega
  go_enter Tryd.func6, Tryd.ntmps6
  go_wp2_with fail
  go_ret
  exact ⟨by first | rfl | exact ret_bool (by simp), rfl⟩

theorem text_first (neg : Bool) (ds : List Nat) (x : Int) (h1 : 1 ≤ ds.length) : ∃ l, textT neg ds x = signT neg ++ (dB (ds.getD 0 0) :: l) := by
  match ds, h1 with
  | [a], _ => exact ⟨_, rfl⟩
  | a :: b :: r, _ => exact ⟨_, rfl⟩

theorem text_flip (ds : List Nat) (x : Int) : textT true ds x = 45 :: textT false ds x := rfl

theorem text_len (neg : Bool) (ds : List Nat) (x : Int) (h1 : 1 ≤ ds.length) (h2 : ds.length ≤ 17) (hx : x.natAbs < 1000) : 0 < (textT neg ds x).length ∧ (textT neg ds x).length ≤ 40 := by
  have hl := (expL_ok x.natAbs hx).1
  unfold textT
  rw [List.length_append, List.length_append, signT_len, mantT_len, expT_len]
  cases neg <;> simp <;> split <;> omega

theorem negPair_any (neg : Bool) (ds : List Nat) (x : Int) (w : World) (h1 : 1 ≤ ds.length) (h2 : ds.length ≤ 17) (hx : x.natAbs < 1000) (hd : ∀ d ∈ ds, d < 10) :
    Calls Tryd.prog 6 #[.string ⟨(textT neg ds x).toArray⟩, .string ⟨(textT (!neg) ds x).toArray⟩] w fun e w' => e = .returned (.bool true) ∧ w' = w := by
  have hlen := text_len neg ds x h1 h2 hx
  have hs : (⟨(textT neg ds x).toArray⟩ : ByteArray).size = (textT neg ds x).length := size_text _
  cases neg
  · refine negPair_t _ _ w (by omega) ?_ (by omega) ?_
    · obtain ⟨l, hl⟩ := text_first false ds x h1
      rw [text_at _ 0 _ (dB (ds.getD 0 0)) (by rw [hl]; rfl)]
      have hg : ds.getD 0 0 < 10 := by
        match ds, h1, hd with
        | a :: r, _, hd => exact hd a (List.mem_cons_self ..)
      rw [dB_nat hg, beq_eq_false_iff_ne]
      omega
    · show (⟨(textT true ds x).toArray⟩ : ByteArray) = _
      rw [text_flip]
  · refine negPair_u _ _ w (by omega) ?_ (by omega) ?_
    · rw [text_at _ 0 _ 45 rfl]
      rfl
    · show (⟨(textT true ds x).toArray⟩ : ByteArray).extract 1 _ = ⟨(textT false ds x).toArray⟩
      rw [hs, text_flip]
      exact extract_text [45] (textT false ds x) _ _ rfl rfl
end Go.Proofs.Qxb6615058aDoor
