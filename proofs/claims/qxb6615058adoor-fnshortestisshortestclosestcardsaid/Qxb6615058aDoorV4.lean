/-
  zzParseE (7) at the text of a decimal.
-/
import Derived.Test.Qxb6615058aDoorV3
namespace Go.Proofs.Qxb6615058aDoor
open Go.RowKit

theorem extract_text (p q : List UInt8) (i j : Nat) (hi : i = p.length) (hj : j = (p ++ q).length) : (⟨(p ++ q).toArray⟩ : ByteArray).extract i j = ⟨q.toArray⟩ := by
  subst hi hj
  apply ByteArray.ext
  rw [ByteArray.data_extract, List.extract_toArray, List.extract_eq_take_drop]
  simp

theorem text_at (l : List UInt8) (i : Nat) (h : i < (⟨l.toArray⟩ : ByteArray).size) (b : UInt8) (hb : l[i]? = some b) : (⟨l.toArray⟩ : ByteArray)[i]'h = b := by
  have e : (⟨l.toArray⟩ : ByteArray)[i]'h = l[i]'(by simpa using (List.getElem?_eq_some_iff.1 hb).1) := rfl
  rw [e]
  exact (List.getElem?_eq_some_iff.1 hb).2

/-- The texts' shapes. -/
theorem text_one (neg : Bool) (a : Nat) (x : Int) : textT neg [a] x = signT neg ++ (dB a :: expT x) := rfl
theorem text_many (neg : Bool) (ds : List Nat) (x : Int) (h : 2 ≤ ds.length) : textT neg ds x = signT neg ++ (dB ds[0] :: 46 :: (ds.drop 1).map dB ++ expT x) := by
  rw [textT, mantT_many h]
  
theorem size_text (l : List UInt8) : (⟨l.toArray⟩ : ByteArray).size = l.length := by simp [ByteArray.size]

theorem parse_one_0 (a : Nat) (x : Int) (w : World) (ha : a < 10) (h1 : -999 ≤ x) (h2 : x ≤ 999) :
    Calls Tryd.prog 7 #[.string ⟨(textT false [a] x).toArray⟩] w fun e w' => e = .returned (.tuple #[.bool false, .string (dstr [a]), .int .i64 x, .bool true]) ∧ Below w.heap.size w w' := by
  obtain ⟨hl, hd, hv⟩ := expL_ok x.natAbs (by omega)
  by_cases hx : x < 0
  · have ht : textT false [a] x = dB a :: 101 :: 45 :: (expL x.natAbs).map dB := by
      rw [text_one, expT, if_pos hx]; rfl
    have hz : (⟨(textT false [a] x).toArray⟩ : ByteArray).size = 3 + (expL x.natAbs).length := by rw [size_text, ht]; simp; omega
    rcases hl with hl | ⟨hl, h3⟩
    · have hz2 : (⟨(textT false [a] x).toArray⟩ : ByteArray).size = 5 := by rw [hz, hl]
      have hr : (⟨(textT false [a] x).toArray⟩ : ByteArray).extract 3 5 = dstr (expL x.natAbs) := by
        rw [ht]
        exact extract_text [dB a, 101, 45] ((expL x.natAbs).map dB) _ _ rfl (by simp [hl])
      have h := parse1_012 ⟨(textT false [a] x).toArray⟩ a (expL x.natAbs) w hz2 hl hd (by omega) ha
        (by rw [text_at _ 0 _ (dB a) (by rw [ht]; rfl)]; exact dB_nat ha)
        (by rw [text_at _ 1 _ (101) (by rw [ht]; rfl)]; exact rfl)
        (by rw [text_at _ 2 _ (45) (by rw [ht]; rfl)]; exact rfl)
        hr
      refine h.mono ?_
      rintro e w' ⟨rfl, hb⟩
      refine ⟨?_, hb⟩
      rw [hv]
      exact ret_quad rfl rfl (by omega) rfl
    · have hz2 : (⟨(textT false [a] x).toArray⟩ : ByteArray).size = 6 := by rw [hz, hl]
      have hr : (⟨(textT false [a] x).toArray⟩ : ByteArray).extract 3 6 = dstr (expL x.natAbs) := by
        rw [ht]
        exact extract_text [dB a, 101, 45] ((expL x.natAbs).map dB) _ _ rfl (by simp [hl])
      have h := parse1_013 ⟨(textT false [a] x).toArray⟩ a (expL x.natAbs) w hz2 hl hd (by omega) ha h3
        (by rw [text_at _ 0 _ (dB a) (by rw [ht]; rfl)]; exact dB_nat ha)
        (by rw [text_at _ 1 _ (101) (by rw [ht]; rfl)]; exact rfl)
        (by rw [text_at _ 2 _ (45) (by rw [ht]; rfl)]; exact rfl)
        hr
      refine h.mono ?_
      rintro e w' ⟨rfl, hb⟩
      refine ⟨?_, hb⟩
      rw [hv]
      exact ret_quad rfl rfl (by omega) rfl
  · have ht : textT false [a] x = dB a :: 101 :: 43 :: (expL x.natAbs).map dB := by
      rw [text_one, expT, if_neg hx]; rfl
    have hz : (⟨(textT false [a] x).toArray⟩ : ByteArray).size = 3 + (expL x.natAbs).length := by rw [size_text, ht]; simp; omega
    rcases hl with hl | ⟨hl, h3⟩
    · have hz2 : (⟨(textT false [a] x).toArray⟩ : ByteArray).size = 5 := by rw [hz, hl]
      have hr : (⟨(textT false [a] x).toArray⟩ : ByteArray).extract 3 5 = dstr (expL x.natAbs) := by
        rw [ht]
        exact extract_text [dB a, 101, 43] ((expL x.natAbs).map dB) _ _ rfl (by simp [hl])
      have h := parse1_002 ⟨(textT false [a] x).toArray⟩ a (expL x.natAbs) w hz2 hl hd ha
        (by rw [text_at _ 0 _ (dB a) (by rw [ht]; rfl)]; exact dB_nat ha)
        (by rw [text_at _ 1 _ (101) (by rw [ht]; rfl)]; exact rfl)
        (by rw [text_at _ 2 _ (43) (by rw [ht]; rfl)]; exact rfl)
        hr
      refine h.mono ?_
      rintro e w' ⟨rfl, hb⟩
      refine ⟨?_, hb⟩
      rw [hv]
      exact ret_quad rfl rfl (by omega) rfl
    · have hz2 : (⟨(textT false [a] x).toArray⟩ : ByteArray).size = 6 := by rw [hz, hl]
      have hr : (⟨(textT false [a] x).toArray⟩ : ByteArray).extract 3 6 = dstr (expL x.natAbs) := by
        rw [ht]
        exact extract_text [dB a, 101, 43] ((expL x.natAbs).map dB) _ _ rfl (by simp [hl])
      have h := parse1_003 ⟨(textT false [a] x).toArray⟩ a (expL x.natAbs) w hz2 hl hd ha h3
        (by rw [text_at _ 0 _ (dB a) (by rw [ht]; rfl)]; exact dB_nat ha)
        (by rw [text_at _ 1 _ (101) (by rw [ht]; rfl)]; exact rfl)
        (by rw [text_at _ 2 _ (43) (by rw [ht]; rfl)]; exact rfl)
        hr
      refine h.mono ?_
      rintro e w' ⟨rfl, hb⟩
      refine ⟨?_, hb⟩
      rw [hv]
      exact ret_quad rfl rfl (by omega) rfl
theorem parse_one_1 (a : Nat) (x : Int) (w : World) (ha : a < 10) (h1 : -999 ≤ x) (h2 : x ≤ 999) :
    Calls Tryd.prog 7 #[.string ⟨(textT true [a] x).toArray⟩] w fun e w' => e = .returned (.tuple #[.bool true, .string (dstr [a]), .int .i64 x, .bool true]) ∧ Below w.heap.size w w' := by
  obtain ⟨hl, hd, hv⟩ := expL_ok x.natAbs (by omega)
  by_cases hx : x < 0
  · have ht : textT true [a] x = 45 :: dB a :: 101 :: 45 :: (expL x.natAbs).map dB := by
      rw [text_one, expT, if_pos hx]; rfl
    have hz : (⟨(textT true [a] x).toArray⟩ : ByteArray).size = 4 + (expL x.natAbs).length := by rw [size_text, ht]; simp; omega
    rcases hl with hl | ⟨hl, h3⟩
    · have hz2 : (⟨(textT true [a] x).toArray⟩ : ByteArray).size = 6 := by rw [hz, hl]
      have hr : (⟨(textT true [a] x).toArray⟩ : ByteArray).extract 4 6 = dstr (expL x.natAbs) := by
        rw [ht]
        exact extract_text [45, dB a, 101, 45] ((expL x.natAbs).map dB) _ _ rfl (by simp [hl])
      have h := parse1_112 ⟨(textT true [a] x).toArray⟩ a (expL x.natAbs) w hz2 hl hd (by omega) ha
        (by rw [text_at _ 0 _ (45) (by rw [ht]; rfl)]; exact rfl)
        (by rw [text_at _ 1 _ (dB a) (by rw [ht]; rfl)]; exact dB_nat ha)
        (by rw [text_at _ 2 _ (101) (by rw [ht]; rfl)]; exact rfl)
        (by rw [text_at _ 3 _ (45) (by rw [ht]; rfl)]; exact rfl)
        hr
      refine h.mono ?_
      rintro e w' ⟨rfl, hb⟩
      refine ⟨?_, hb⟩
      rw [hv]
      exact ret_quad rfl rfl (by omega) rfl
    · have hz2 : (⟨(textT true [a] x).toArray⟩ : ByteArray).size = 7 := by rw [hz, hl]
      have hr : (⟨(textT true [a] x).toArray⟩ : ByteArray).extract 4 7 = dstr (expL x.natAbs) := by
        rw [ht]
        exact extract_text [45, dB a, 101, 45] ((expL x.natAbs).map dB) _ _ rfl (by simp [hl])
      have h := parse1_113 ⟨(textT true [a] x).toArray⟩ a (expL x.natAbs) w hz2 hl hd (by omega) ha h3
        (by rw [text_at _ 0 _ (45) (by rw [ht]; rfl)]; exact rfl)
        (by rw [text_at _ 1 _ (dB a) (by rw [ht]; rfl)]; exact dB_nat ha)
        (by rw [text_at _ 2 _ (101) (by rw [ht]; rfl)]; exact rfl)
        (by rw [text_at _ 3 _ (45) (by rw [ht]; rfl)]; exact rfl)
        hr
      refine h.mono ?_
      rintro e w' ⟨rfl, hb⟩
      refine ⟨?_, hb⟩
      rw [hv]
      exact ret_quad rfl rfl (by omega) rfl
  · have ht : textT true [a] x = 45 :: dB a :: 101 :: 43 :: (expL x.natAbs).map dB := by
      rw [text_one, expT, if_neg hx]; rfl
    have hz : (⟨(textT true [a] x).toArray⟩ : ByteArray).size = 4 + (expL x.natAbs).length := by rw [size_text, ht]; simp; omega
    rcases hl with hl | ⟨hl, h3⟩
    · have hz2 : (⟨(textT true [a] x).toArray⟩ : ByteArray).size = 6 := by rw [hz, hl]
      have hr : (⟨(textT true [a] x).toArray⟩ : ByteArray).extract 4 6 = dstr (expL x.natAbs) := by
        rw [ht]
        exact extract_text [45, dB a, 101, 43] ((expL x.natAbs).map dB) _ _ rfl (by simp [hl])
      have h := parse1_102 ⟨(textT true [a] x).toArray⟩ a (expL x.natAbs) w hz2 hl hd ha
        (by rw [text_at _ 0 _ (45) (by rw [ht]; rfl)]; exact rfl)
        (by rw [text_at _ 1 _ (dB a) (by rw [ht]; rfl)]; exact dB_nat ha)
        (by rw [text_at _ 2 _ (101) (by rw [ht]; rfl)]; exact rfl)
        (by rw [text_at _ 3 _ (43) (by rw [ht]; rfl)]; exact rfl)
        hr
      refine h.mono ?_
      rintro e w' ⟨rfl, hb⟩
      refine ⟨?_, hb⟩
      rw [hv]
      exact ret_quad rfl rfl (by omega) rfl
    · have hz2 : (⟨(textT true [a] x).toArray⟩ : ByteArray).size = 7 := by rw [hz, hl]
      have hr : (⟨(textT true [a] x).toArray⟩ : ByteArray).extract 4 7 = dstr (expL x.natAbs) := by
        rw [ht]
        exact extract_text [45, dB a, 101, 43] ((expL x.natAbs).map dB) _ _ rfl (by simp [hl])
      have h := parse1_103 ⟨(textT true [a] x).toArray⟩ a (expL x.natAbs) w hz2 hl hd ha h3
        (by rw [text_at _ 0 _ (45) (by rw [ht]; rfl)]; exact rfl)
        (by rw [text_at _ 1 _ (dB a) (by rw [ht]; rfl)]; exact dB_nat ha)
        (by rw [text_at _ 2 _ (101) (by rw [ht]; rfl)]; exact rfl)
        (by rw [text_at _ 3 _ (43) (by rw [ht]; rfl)]; exact rfl)
        hr
      refine h.mono ?_
      rintro e w' ⟨rfl, hb⟩
      refine ⟨?_, hb⟩
      rw [hv]
      exact ret_quad rfl rfl (by omega) rfl
theorem parse_many_0 (ds : List Nat) (x : Int) (w : World) (hk : 2 ≤ ds.length) (hk2 : ds.length ≤ 30) (hdd : ∀ d ∈ ds, d < 10) (h1 : -999 ≤ x) (h2 : x ≤ 999) :
    Calls Tryd.prog 7 #[.string ⟨(textT false ds x).toArray⟩] w fun e w' => e = .returned (.tuple #[.bool false, .string (dstr ds), .int .i64 x, .bool true]) ∧ Below w.heap.size w w' := by
  obtain ⟨hl, hd, hv⟩ := expL_ok x.natAbs (by omega)
  by_cases hx : x < 0
  · have ht : textT false ds x = (dB ds[0] :: 46 :: (ds.drop 1).map dB) ++ (101 :: 45 :: (expL x.natAbs).map dB) := by
      rw [text_many _ _ _ hk, expT, if_pos hx]; rfl
    have hpl : (dB ds[0] :: 46 :: (ds.drop 1).map dB).length = 0 + 1 + ds.length := by simp; omega
    have hz : (⟨(textT false ds x).toArray⟩ : ByteArray).size = 0 + 1 + ds.length + 2 + (expL x.natAbs).length := by rw [size_text, ht, List.length_append, hpl]; simp; omega
    have hT : ∀ (t : Nat) (_ : 1 ≤ t) (h2 : t < ds.length) (h : 0 + 1 + t < (⟨(textT false ds x).toArray⟩ : ByteArray).size), ((⟨(textT false ds x).toArray⟩ : ByteArray)[0 + 1 + t]'h).toNat = 48 + ds[t] := by
      intro t h1 h2 h
      rw [text_at _ (0 + 1 + t) h (dB ds[t]) ?_]
      · exact dB_nat (hdd _ (List.getElem_mem h2))
      · rw [ht, List.getElem?_append_left (by rw [hpl]; omega)]
        obtain ⟨r, rfl⟩ : ∃ r, t = r + 1 := ⟨t - 1, by omega⟩
        rw [show 0 + 1 + (r + 1) = r + 1 + 1 by omega]
        simp only [List.getElem?_cons_succ, List.getElem?_map, List.getElem?_drop]
        rw [Nat.add_comm 1 r, List.getElem?_eq_getElem h2]
        rfl
    have hE : ∀ h, ((⟨(textT false ds x).toArray⟩ : ByteArray)[0 + 1 + ds.length]'h).toNat = 101 := by
      intro h
      rw [text_at _ _ h 101 (by rw [ht, List.getElem?_append_right (by rw [hpl]; exact Nat.le_refl _), hpl, Nat.sub_self]; rfl)]
      rfl
    have hS : ∀ h, ((⟨(textT false ds x).toArray⟩ : ByteArray)[0 + 1 + ds.length + 1]'h).toNat = 45 := by
      intro h
      rw [text_at _ _ h 45 (by rw [ht, List.getElem?_append_right (by rw [hpl]; omega), hpl, Nat.add_sub_cancel_left]; rfl)]
      rfl
    have hR : (⟨(textT false ds x).toArray⟩ : ByteArray).extract (0 + 1 + ds.length + 2) (⟨(textT false ds x).toArray⟩ : ByteArray).size = dstr (expL x.natAbs) := by
      have e : textT false ds x = ((dB ds[0] :: 46 :: (ds.drop 1).map dB) ++ [101, 45]) ++ (expL x.natAbs).map dB := by rw [ht]; simp
      rw [hz, e]
      exact extract_text _ _ _ _ (by rw [List.length_append, hpl]; rfl) (by rw [List.length_append, List.length_append, hpl, List.length_map]; rfl)
    rcases hl with hl | ⟨hl, h3⟩
    · have h := parse2_012 ⟨(textT false ds x).toArray⟩ ds (0 + 1 + ds.length) (expL x.natAbs) w hk rfl (by omega) (by omega) (by omega) hdd hl hd (by omega)
        (by rw [text_at _ 0 _ (dB ds[0]) (by rw [ht]; rfl)]; exact dB_nat (hdd _ (List.getElem_mem _))) (by rw [text_at _ 1 _ 46 (by rw [ht]; rfl)]; rfl) hT (hE _) (hS _) hR
      refine h.mono ?_
      rintro e w' ⟨rfl, hb⟩
      refine ⟨?_, hb⟩
      rw [hv]
      exact ret_quad rfl rfl (by omega) rfl
    · have h := parse2_013 ⟨(textT false ds x).toArray⟩ ds (0 + 1 + ds.length) (expL x.natAbs) w hk rfl (by omega) (by omega) (by omega) hdd hl hd (by omega) h3
        (by rw [text_at _ 0 _ (dB ds[0]) (by rw [ht]; rfl)]; exact dB_nat (hdd _ (List.getElem_mem _))) (by rw [text_at _ 1 _ 46 (by rw [ht]; rfl)]; rfl) hT (hE _) (hS _) hR
      refine h.mono ?_
      rintro e w' ⟨rfl, hb⟩
      refine ⟨?_, hb⟩
      rw [hv]
      exact ret_quad rfl rfl (by omega) rfl
  · have ht : textT false ds x = (dB ds[0] :: 46 :: (ds.drop 1).map dB) ++ (101 :: 43 :: (expL x.natAbs).map dB) := by
      rw [text_many _ _ _ hk, expT, if_neg hx]; rfl
    have hpl : (dB ds[0] :: 46 :: (ds.drop 1).map dB).length = 0 + 1 + ds.length := by simp; omega
    have hz : (⟨(textT false ds x).toArray⟩ : ByteArray).size = 0 + 1 + ds.length + 2 + (expL x.natAbs).length := by rw [size_text, ht, List.length_append, hpl]; simp; omega
    have hT : ∀ (t : Nat) (_ : 1 ≤ t) (h2 : t < ds.length) (h : 0 + 1 + t < (⟨(textT false ds x).toArray⟩ : ByteArray).size), ((⟨(textT false ds x).toArray⟩ : ByteArray)[0 + 1 + t]'h).toNat = 48 + ds[t] := by
      intro t h1 h2 h
      rw [text_at _ (0 + 1 + t) h (dB ds[t]) ?_]
      · exact dB_nat (hdd _ (List.getElem_mem h2))
      · rw [ht, List.getElem?_append_left (by rw [hpl]; omega)]
        obtain ⟨r, rfl⟩ : ∃ r, t = r + 1 := ⟨t - 1, by omega⟩
        rw [show 0 + 1 + (r + 1) = r + 1 + 1 by omega]
        simp only [List.getElem?_cons_succ, List.getElem?_map, List.getElem?_drop]
        rw [Nat.add_comm 1 r, List.getElem?_eq_getElem h2]
        rfl
    have hE : ∀ h, ((⟨(textT false ds x).toArray⟩ : ByteArray)[0 + 1 + ds.length]'h).toNat = 101 := by
      intro h
      rw [text_at _ _ h 101 (by rw [ht, List.getElem?_append_right (by rw [hpl]; exact Nat.le_refl _), hpl, Nat.sub_self]; rfl)]
      rfl
    have hS : ∀ h, ((⟨(textT false ds x).toArray⟩ : ByteArray)[0 + 1 + ds.length + 1]'h).toNat = 43 := by
      intro h
      rw [text_at _ _ h 43 (by rw [ht, List.getElem?_append_right (by rw [hpl]; omega), hpl, Nat.add_sub_cancel_left]; rfl)]
      rfl
    have hR : (⟨(textT false ds x).toArray⟩ : ByteArray).extract (0 + 1 + ds.length + 2) (⟨(textT false ds x).toArray⟩ : ByteArray).size = dstr (expL x.natAbs) := by
      have e : textT false ds x = ((dB ds[0] :: 46 :: (ds.drop 1).map dB) ++ [101, 43]) ++ (expL x.natAbs).map dB := by rw [ht]; simp
      rw [hz, e]
      exact extract_text _ _ _ _ (by rw [List.length_append, hpl]; rfl) (by rw [List.length_append, List.length_append, hpl, List.length_map]; rfl)
    rcases hl with hl | ⟨hl, h3⟩
    · have h := parse2_002 ⟨(textT false ds x).toArray⟩ ds (0 + 1 + ds.length) (expL x.natAbs) w hk rfl (by omega) (by omega) (by omega) hdd hl hd
        (by rw [text_at _ 0 _ (dB ds[0]) (by rw [ht]; rfl)]; exact dB_nat (hdd _ (List.getElem_mem _))) (by rw [text_at _ 1 _ 46 (by rw [ht]; rfl)]; rfl) hT (hE _) (hS _) hR
      refine h.mono ?_
      rintro e w' ⟨rfl, hb⟩
      refine ⟨?_, hb⟩
      rw [hv]
      exact ret_quad rfl rfl (by omega) rfl
    · have h := parse2_003 ⟨(textT false ds x).toArray⟩ ds (0 + 1 + ds.length) (expL x.natAbs) w hk rfl (by omega) (by omega) (by omega) hdd hl hd h3
        (by rw [text_at _ 0 _ (dB ds[0]) (by rw [ht]; rfl)]; exact dB_nat (hdd _ (List.getElem_mem _))) (by rw [text_at _ 1 _ 46 (by rw [ht]; rfl)]; rfl) hT (hE _) (hS _) hR
      refine h.mono ?_
      rintro e w' ⟨rfl, hb⟩
      refine ⟨?_, hb⟩
      rw [hv]
      exact ret_quad rfl rfl (by omega) rfl
theorem parse_many_1 (ds : List Nat) (x : Int) (w : World) (hk : 2 ≤ ds.length) (hk2 : ds.length ≤ 30) (hdd : ∀ d ∈ ds, d < 10) (h1 : -999 ≤ x) (h2 : x ≤ 999) :
    Calls Tryd.prog 7 #[.string ⟨(textT true ds x).toArray⟩] w fun e w' => e = .returned (.tuple #[.bool true, .string (dstr ds), .int .i64 x, .bool true]) ∧ Below w.heap.size w w' := by
  obtain ⟨hl, hd, hv⟩ := expL_ok x.natAbs (by omega)
  by_cases hx : x < 0
  · have ht : textT true ds x = (45 :: dB ds[0] :: 46 :: (ds.drop 1).map dB) ++ (101 :: 45 :: (expL x.natAbs).map dB) := by
      rw [text_many _ _ _ hk, expT, if_pos hx]; rfl
    have hpl : (45 :: dB ds[0] :: 46 :: (ds.drop 1).map dB).length = 1 + 1 + ds.length := by simp; omega
    have hz : (⟨(textT true ds x).toArray⟩ : ByteArray).size = 1 + 1 + ds.length + 2 + (expL x.natAbs).length := by rw [size_text, ht, List.length_append, hpl]; simp; omega
    have hT : ∀ (t : Nat) (_ : 1 ≤ t) (h2 : t < ds.length) (h : 1 + 1 + t < (⟨(textT true ds x).toArray⟩ : ByteArray).size), ((⟨(textT true ds x).toArray⟩ : ByteArray)[1 + 1 + t]'h).toNat = 48 + ds[t] := by
      intro t h1 h2 h
      rw [text_at _ (1 + 1 + t) h (dB ds[t]) ?_]
      · exact dB_nat (hdd _ (List.getElem_mem h2))
      · rw [ht, List.getElem?_append_left (by rw [hpl]; omega)]
        obtain ⟨r, rfl⟩ : ∃ r, t = r + 1 := ⟨t - 1, by omega⟩
        rw [show 1 + 1 + (r + 1) = r + 1 + 2 by omega]
        simp only [List.getElem?_cons_succ, List.getElem?_map, List.getElem?_drop]
        rw [Nat.add_comm 1 r, List.getElem?_eq_getElem h2]
        rfl
    have hE : ∀ h, ((⟨(textT true ds x).toArray⟩ : ByteArray)[1 + 1 + ds.length]'h).toNat = 101 := by
      intro h
      rw [text_at _ _ h 101 (by rw [ht, List.getElem?_append_right (by rw [hpl]; exact Nat.le_refl _), hpl, Nat.sub_self]; rfl)]
      rfl
    have hS : ∀ h, ((⟨(textT true ds x).toArray⟩ : ByteArray)[1 + 1 + ds.length + 1]'h).toNat = 45 := by
      intro h
      rw [text_at _ _ h 45 (by rw [ht, List.getElem?_append_right (by rw [hpl]; omega), hpl, Nat.add_sub_cancel_left]; rfl)]
      rfl
    have hR : (⟨(textT true ds x).toArray⟩ : ByteArray).extract (1 + 1 + ds.length + 2) (⟨(textT true ds x).toArray⟩ : ByteArray).size = dstr (expL x.natAbs) := by
      have e : textT true ds x = ((45 :: dB ds[0] :: 46 :: (ds.drop 1).map dB) ++ [101, 45]) ++ (expL x.natAbs).map dB := by rw [ht]; simp
      rw [hz, e]
      exact extract_text _ _ _ _ (by rw [List.length_append, hpl]; rfl) (by rw [List.length_append, List.length_append, hpl, List.length_map]; rfl)
    rcases hl with hl | ⟨hl, h3⟩
    · have h := parse2_112 ⟨(textT true ds x).toArray⟩ ds (1 + 1 + ds.length) (expL x.natAbs) w hk rfl (by omega) (by omega) (by omega) hdd hl hd (by omega)
        (by rw [text_at _ 0 _ 45 (by rw [ht]; rfl)]; rfl) (by rw [text_at _ 1 _ (dB ds[0]) (by rw [ht]; rfl)]; exact dB_nat (hdd _ (List.getElem_mem _))) (by rw [text_at _ 2 _ 46 (by rw [ht]; rfl)]; rfl) hT (hE _) (hS _) hR
      refine h.mono ?_
      rintro e w' ⟨rfl, hb⟩
      refine ⟨?_, hb⟩
      rw [hv]
      exact ret_quad rfl rfl (by omega) rfl
    · have h := parse2_113 ⟨(textT true ds x).toArray⟩ ds (1 + 1 + ds.length) (expL x.natAbs) w hk rfl (by omega) (by omega) (by omega) hdd hl hd (by omega) h3
        (by rw [text_at _ 0 _ 45 (by rw [ht]; rfl)]; rfl) (by rw [text_at _ 1 _ (dB ds[0]) (by rw [ht]; rfl)]; exact dB_nat (hdd _ (List.getElem_mem _))) (by rw [text_at _ 2 _ 46 (by rw [ht]; rfl)]; rfl) hT (hE _) (hS _) hR
      refine h.mono ?_
      rintro e w' ⟨rfl, hb⟩
      refine ⟨?_, hb⟩
      rw [hv]
      exact ret_quad rfl rfl (by omega) rfl
  · have ht : textT true ds x = (45 :: dB ds[0] :: 46 :: (ds.drop 1).map dB) ++ (101 :: 43 :: (expL x.natAbs).map dB) := by
      rw [text_many _ _ _ hk, expT, if_neg hx]; rfl
    have hpl : (45 :: dB ds[0] :: 46 :: (ds.drop 1).map dB).length = 1 + 1 + ds.length := by simp; omega
    have hz : (⟨(textT true ds x).toArray⟩ : ByteArray).size = 1 + 1 + ds.length + 2 + (expL x.natAbs).length := by rw [size_text, ht, List.length_append, hpl]; simp; omega
    have hT : ∀ (t : Nat) (_ : 1 ≤ t) (h2 : t < ds.length) (h : 1 + 1 + t < (⟨(textT true ds x).toArray⟩ : ByteArray).size), ((⟨(textT true ds x).toArray⟩ : ByteArray)[1 + 1 + t]'h).toNat = 48 + ds[t] := by
      intro t h1 h2 h
      rw [text_at _ (1 + 1 + t) h (dB ds[t]) ?_]
      · exact dB_nat (hdd _ (List.getElem_mem h2))
      · rw [ht, List.getElem?_append_left (by rw [hpl]; omega)]
        obtain ⟨r, rfl⟩ : ∃ r, t = r + 1 := ⟨t - 1, by omega⟩
        rw [show 1 + 1 + (r + 1) = r + 1 + 2 by omega]
        simp only [List.getElem?_cons_succ, List.getElem?_map, List.getElem?_drop]
        rw [Nat.add_comm 1 r, List.getElem?_eq_getElem h2]
        rfl
    have hE : ∀ h, ((⟨(textT true ds x).toArray⟩ : ByteArray)[1 + 1 + ds.length]'h).toNat = 101 := by
      intro h
      rw [text_at _ _ h 101 (by rw [ht, List.getElem?_append_right (by rw [hpl]; exact Nat.le_refl _), hpl, Nat.sub_self]; rfl)]
      rfl
    have hS : ∀ h, ((⟨(textT true ds x).toArray⟩ : ByteArray)[1 + 1 + ds.length + 1]'h).toNat = 43 := by
      intro h
      rw [text_at _ _ h 43 (by rw [ht, List.getElem?_append_right (by rw [hpl]; omega), hpl, Nat.add_sub_cancel_left]; rfl)]
      rfl
    have hR : (⟨(textT true ds x).toArray⟩ : ByteArray).extract (1 + 1 + ds.length + 2) (⟨(textT true ds x).toArray⟩ : ByteArray).size = dstr (expL x.natAbs) := by
      have e : textT true ds x = ((45 :: dB ds[0] :: 46 :: (ds.drop 1).map dB) ++ [101, 43]) ++ (expL x.natAbs).map dB := by rw [ht]; simp
      rw [hz, e]
      exact extract_text _ _ _ _ (by rw [List.length_append, hpl]; rfl) (by rw [List.length_append, List.length_append, hpl, List.length_map]; rfl)
    rcases hl with hl | ⟨hl, h3⟩
    · have h := parse2_102 ⟨(textT true ds x).toArray⟩ ds (1 + 1 + ds.length) (expL x.natAbs) w hk rfl (by omega) (by omega) (by omega) hdd hl hd
        (by rw [text_at _ 0 _ 45 (by rw [ht]; rfl)]; rfl) (by rw [text_at _ 1 _ (dB ds[0]) (by rw [ht]; rfl)]; exact dB_nat (hdd _ (List.getElem_mem _))) (by rw [text_at _ 2 _ 46 (by rw [ht]; rfl)]; rfl) hT (hE _) (hS _) hR
      refine h.mono ?_
      rintro e w' ⟨rfl, hb⟩
      refine ⟨?_, hb⟩
      rw [hv]
      exact ret_quad rfl rfl (by omega) rfl
    · have h := parse2_103 ⟨(textT true ds x).toArray⟩ ds (1 + 1 + ds.length) (expL x.natAbs) w hk rfl (by omega) (by omega) (by omega) hdd hl hd h3
        (by rw [text_at _ 0 _ 45 (by rw [ht]; rfl)]; rfl) (by rw [text_at _ 1 _ (dB ds[0]) (by rw [ht]; rfl)]; exact dB_nat (hdd _ (List.getElem_mem _))) (by rw [text_at _ 2 _ 46 (by rw [ht]; rfl)]; rfl) hT (hE _) (hS _) hR
      refine h.mono ?_
      rintro e w' ⟨rfl, hb⟩
      refine ⟨?_, hb⟩
      rw [hv]
      exact ret_quad rfl rfl (by omega) rfl
theorem parse_any (neg : Bool) (ds : List Nat) (x : Int) (w : World) (hk : 1 ≤ ds.length) (hk2 : ds.length ≤ 30) (hdd : ∀ d ∈ ds, d < 10) (h1 : -999 ≤ x) (h2 : x ≤ 999) :
    Calls Tryd.prog 7 #[.string ⟨(textT neg ds x).toArray⟩] w fun e w' => e = .returned (.tuple #[.bool neg, .string (dstr ds), .int .i64 x, .bool true]) ∧ Below w.heap.size w w' := by
  match ds, hk, hk2, hdd with
  | [a], _, _, hdd =>
    have ha := hdd a (List.mem_singleton.2 rfl)
    cases neg
    · exact parse_one_0 a x w ha h1 h2
    · exact parse_one_1 a x w ha h1 h2
  | a :: c :: r, _, hk2, hdd =>
    cases neg
    · exact parse_many_0 (a :: c :: r) x w (by simp) hk2 hdd h1 h2
    · exact parse_many_1 (a :: c :: r) x w (by simp) hk2 hdd h1 h2
end Go.Proofs.Qxb6615058aDoor
