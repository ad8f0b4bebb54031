/-
  Plain: a setting appended to a text wins.
-/
import Derived.Test.Qxb6600570aDoorW10
namespace Go.Proofs.Qxb6600570aDoor

/-- No sequence of white space of two bytes or more holds a space or a quote; none ends in a quote, none begins with one. -/
theorem seq_two : ∀ q ∈ Lib.spaceSeqs, 2 ≤ q.length → 32 ∉ q := by decide
theorem seq_q : ∀ q ∈ Lib.spaceSeqs, 34 ∉ q := by decide

theorem head_zero {l : List UInt8} (h : Lib.headSpace l = 0) : ∀ q ∈ Lib.spaceSeqs, ¬ q <+: l := fun q hq hp => by
  have := head_of hq hp
  rcases seqs_len q hq with e | e | e <;> omega
theorem tail_zero {l : List UInt8} (h : Lib.tailSpace l = 0) : ∀ q ∈ Lib.spaceSeqs, ¬ q <:+ l := fun q hq hp => by
  have := tail_of hq hp
  rcases seqs_len q hq with e | e | e <;> omega

theorem trim_fix {l : List UInt8} (h1 : Lib.headSpace l = 0) (h2 : Lib.tailSpace l = 0) : Lib.trimSpaceU l = l := by
  unfold Lib.trimSpaceU
  rw [stripL_done l h1, stripR_done l h2]
theorem fix_trim {l : List UInt8} (h : Lib.trimSpaceU l = l) : Lib.headSpace l = 0 ∧ Lib.tailSpace l = 0 := by
  have hL : Lib.stripL l.length l = l := by
    have h1 := stripR_len l.length (Lib.stripL l.length l)
    have h2 := stripL_len l.length l
    have h3 : (Lib.stripL l.length l).length = l.length := by
      have : (Lib.trimSpaceU l).length = l.length := by rw [h]
      unfold Lib.trimSpaceU at this
      omega
    by_cases hz : Lib.headSpace l = 0
    · exact stripL_done l hz
    · have := stripL_step l hz
      have hle := headSpace_le l
      have h4 := stripL_len (l.drop (Lib.headSpace l)).length (l.drop (Lib.headSpace l))
      rw [this, h3, List.length_drop] at h4
      omega
  have hz : Lib.headSpace l = 0 := by
    by_cases hz : Lib.headSpace l = 0
    · exact hz
    · have := stripL_step l hz
      have hle := headSpace_le l
      have h4 := stripL_len (l.drop (Lib.headSpace l)).length (l.drop (Lib.headSpace l))
      rw [this, hL, List.length_drop] at h4
      omega
  refine ⟨hz, ?_⟩
  unfold Lib.trimSpaceU at h
  rw [hL] at h
  by_cases ht : Lib.tailSpace l = 0
  · exact ht
  · have := stripR_step l ht
    have hle := tailSpace_le l
    have h4 := stripR_len (l.take (l.length - Lib.tailSpace l)).length (l.take (l.length - Lib.tailSpace l))
    rw [this, h, List.length_take] at h4
    omega

/-- The name in front keeps white space away. -/
theorem head_name {n x : List UInt8} (hn : n ≠ []) (h : Lib.headSpace n = 0) : Lib.headSpace (n ++ 32 :: x) = 0 := by
  refine head_none fun q hq hp => ?_
  rcases Nat.lt_or_ge n.length q.length with hl | hl
  · have hmem : 32 ∈ q := by
      obtain ⟨t, ht⟩ := hp
      have h1 : (q ++ t)[n.length]? = some 32 := by rw [ht]; simp
      rw [List.getElem?_append_left hl] at h1
      exact List.mem_of_getElem? h1
    have : 0 < n.length := List.length_pos_iff.2 hn
    exact seq_two q hq (by omega) hmem
  · exact head_zero h q hq (List.prefix_of_prefix_length_le hp ⟨32 :: x, rfl⟩ hl)

theorem tail_value {n x : List UInt8} (hx : x ≠ []) (h : Lib.tailSpace x = 0) : Lib.tailSpace (n ++ 32 :: x) = 0 := by
  refine tail_none fun q hq hp => ?_
  rcases Nat.lt_or_ge x.length q.length with hl | hl
  · have h1 : (32 :: x) <:+ n ++ 32 :: x := ⟨n, rfl⟩
    have h2 : (32 :: x) <:+ q := List.suffix_of_suffix_length_le h1 hp (by simp; omega)
    have hmem : 32 ∈ q := h2.subset (by simp)
    have : 0 < x.length := List.length_pos_iff.2 hx
    exact seq_two q hq (by omega) hmem
  · refine tail_zero h q hq (List.suffix_of_suffix_length_le hp ?_ hl)
    exact ⟨n ++ [32], by simp⟩

theorem tail_quote (x : List UInt8) : Lib.tailSpace (x ++ [34]) = 0 := by
  refine tail_none fun q hq hp => ?_
  have hl : 0 < q.length := by rcases seqs_len q hq with e | e | e <;> omega
  have h2 : [34] <:+ q := List.suffix_of_suffix_length_le ⟨x, rfl⟩ hp (by simp; omega)
  exact seq_q q hq (h2.subset (by simp))
theorem head_quote (x : List UInt8) : Lib.headSpace (34 :: x) = 0 := by
  refine head_none fun q hq hp => ?_
  have hl : 0 < q.length := by rcases seqs_len q hq with e | e | e <;> omega
  have h2 : [34] <+: q := List.prefix_of_prefix_length_le ⟨x, rfl⟩ hp (by simp; omega)
  exact seq_q q hq (h2.subset (by simp))

theorem tail_sp (n : List UInt8) : Lib.tailSpace (n ++ [32]) = 1 := by
  rw [tail_of (q := [32]) (by decide) ⟨n, rfl⟩]
  rfl
theorem get_toB {l : List UInt8} {j : Nat} {b : UInt8} (h : l[j]? = some b) : (toB l).get! j = b := by
  have hj : j < (toB l).size := by
    rw [← len_list, list_toB]
    exact (List.getElem?_eq_some_iff.1 h).1
  have h1 := get_list (toB l) j hj
  rw [list_toB, h] at h1
  exact (Option.some.inj h1).symm
theorem size_toB (l : List UInt8) : (toB l).size = l.length := by rw [← len_list, list_toB]

theorem give_line {n : ByteArray} (hn : NameOk n) (R : List UInt8) (hfix : Lib.trimSpaceU (n.data.toList ++ 32 :: R) = n.data.toList ++ 32 :: R) :
    give n (toB (n.data.toList ++ 32 :: R)) = some (unq (trimB (toB R))) := by
  have hlen := len_list n
  have hpos := hn.pos
  have hT : trimB (toB (n.data.toList ++ 32 :: R)) = toB (n.data.toList ++ 32 :: R) := by
    unfold trimB
    rw [list_toB, hfix]
    rfl
  have hget : ∀ j, j < n.size → (toB (n.data.toList ++ 32 :: R)).get! j = n.get! j := fun j hj => by
    refine get_toB ?_
    rw [List.getElem?_append_left (by omega), get_list n j hj]
  have hsz : (toB (n.data.toList ++ 32 :: R)).size = n.size + 1 + R.length := by rw [size_toB]; simp; omega
  have hk : (toB (n.data.toList ++ 32 :: R)).get! n.size = 32 := by
    refine get_toB ?_
    rw [List.getElem?_append_right (by omega), hlen]
    simp
  have hns : NoSp (toB (n.data.toList ++ 32 :: R)) n.size := fun j hj => by
    rw [hget j hj]
    exact ⟨fun h => hn.sp j hj ((u8_32 _).1 h), fun h => hn.tab j hj ((u8_9 _).1 h)⟩
  obtain ⟨k1, k2⟩ := key_hit hns (by omega) (Or.inl hk)
  have e1 : (toB (n.data.toList ++ 32 :: R)).extract 0 n.size = n := by
    rw [← toB_list ((toB (n.data.toList ++ 32 :: R)).extract 0 n.size), ext_take, list_toB, List.take_append_of_le_length (by omega), List.take_of_length_le (by omega), toB_list]
  have e2 : (toB (n.data.toList ++ 32 :: R)).extract (n.size + 1) (toB (n.data.toList ++ 32 :: R)).size = toB R := by
    rw [← toB_list ((toB (n.data.toList ++ 32 :: R)).extract (n.size + 1) _), ext_drop, list_toB, List.drop_append, List.drop_of_length_le (by omega)]
    rw [show n.size + 1 - n.data.toList.length = 1 by omega]
    rfl
  unfold give
  rw [hT]
  unfold giveT
  rw [if_neg (by omega), if_neg (fun h => hn.hash (by rw [← hget 0 hpos]; exact (u8_35 _).1 h)), k1, k2, e1, e2, if_pos rfl]

theorem name_list {n : ByteArray} (hn : NameOk n) : n.data.toList ≠ [] ∧ Lib.headSpace n.data.toList = 0 ∧ Lib.tailSpace n.data.toList = 0 := by
  refine ⟨fun h => ?_, ?_⟩
  · have := len_list n
    rw [h] at this
    have := hn.pos
    simp at *
    omega
  · refine fix_trim ?_
    have h := hn.trim
    have h2 : (trimB n).data.toList = n.data.toList := by rw [h]
    unfold trimB at h2
    simpa using h2

theorem unq_nil : unq (trimB ⟨#[]⟩) = ⟨#[]⟩ := by decide

theorem give_plain {n v : ByteArray} (hn : NameOk n) (ht : trimB v = v) (hq : quo v = false) : give n (toB (n.data.toList ++ 32 :: v.data.toList)) = some v := by
  obtain ⟨h1, h2, h3⟩ := name_list hn
  have hv : Lib.trimSpaceU v.data.toList = v.data.toList := by
    have h4 : (trimB v).data.toList = v.data.toList := by rw [ht]
    unfold trimB at h4
    simpa using h4
  by_cases hz : v.data.toList = []
  · have hve : v = ⟨#[]⟩ := by rw [← toB_list v, hz]; rfl
    rw [hz]
    have hT : trimB (toB (n.data.toList ++ [32])) = n := by
      have e : Lib.trimSpaceU (n.data.toList ++ [32]) = n.data.toList := by
        unfold Lib.trimSpaceU
        rw [stripL_done _ (head_name h1 h2)]
        have hs := stripR_step (n.data.toList ++ [32]) (by rw [tail_sp]; decide)
        rw [tail_sp] at hs
        rw [← hs]
        have e2 : (n.data.toList ++ [32]).take ((n.data.toList ++ [32]).length - 1) = n.data.toList := by simp
        rw [e2]
        exact stripR_done _ h3
      unfold trimB
      rw [list_toB, e]
    unfold give
    rw [hT]
    have hns : NoSp n n.size := fun j hj => ⟨fun h => hn.sp j hj ((u8_32 _).1 h), fun h => hn.tab j hj ((u8_9 _).1 h)⟩
    obtain ⟨k1, k2⟩ := key_none hns
    have hpos := hn.pos
    unfold giveT
    rw [if_neg (by omega), if_neg (fun h => hn.hash ((u8_35 _).1 h)), k1, k2, ext_all, if_pos rfl, unq_nil, hve]
  · obtain ⟨_, h5⟩ := fix_trim hv
    rw [give_line hn _ (trim_fix (head_name h1 h2) (tail_value hz h5)), toB_list, ht, unq_quo, if_neg (by rw [hq]; decide)]

theorem give_quoted {n v : ByteArray} (hn : NameOk n) : give n (toB (n.data.toList ++ 32 :: (34 :: v.data.toList ++ [34]))) = some v := by
  obtain ⟨h1, h2, _⟩ := name_list hn
  have hR : Lib.trimSpaceU (34 :: v.data.toList ++ [34]) = 34 :: v.data.toList ++ [34] := trim_fix (head_quote _) (tail_quote _)
  have hfix : Lib.trimSpaceU (n.data.toList ++ 32 :: (34 :: v.data.toList ++ [34])) = n.data.toList ++ 32 :: (34 :: v.data.toList ++ [34]) :=
    trim_fix (head_name h1 h2) (tail_value (by simp) (tail_quote _))
  rw [give_line hn _ hfix]
  have hT : trimB (toB (34 :: v.data.toList ++ [34])) = toB (34 :: v.data.toList ++ [34]) := by
    unfold trimB
    rw [list_toB, hR]
    rfl
  rw [hT]
  have hs : (toB (34 :: v.data.toList ++ [34])).size = v.size + 2 := by rw [size_toB]; simp
  have g0 : (toB (34 :: v.data.toList ++ [34])).get! 0 = 34 := get_toB rfl
  have g1 : (toB (34 :: v.data.toList ++ [34])).get! (v.size + 1) = 34 := by
    refine get_toB ?_
    rw [List.getElem?_append_right (by simp)]
    simp
  unfold unq
  rw [hs, if_pos ⟨by omega, g0, by rw [show v.size + 2 - 1 = v.size + 1 by omega]; exact g1⟩, show v.size + 2 - 1 = v.size + 1 by omega]
  congr 1
  rw [← toB_list ((toB (34 :: v.data.toList ++ [34])).extract 1 (v.size + 1)), ext_list, list_toB]
  have e : ((34 :: v.data.toList ++ [34]).take (v.size + 1)).drop 1 = v.data.toList := by
    rw [show (34 :: v.data.toList ++ [34]) = 34 :: (v.data.toList ++ [34]) by rfl, List.take_succ_cons, List.drop_succ_cons, List.drop_zero, List.take_append_of_le_length (by simp), List.take_of_length_le (by simp)]
  rw [e, toB_list]

/-- The last line is the appended one. -/
theorem last_appended {n d line : ByteArray} {v : ByteArray} (hl : ∀ j, j < line.size → ¬ (line.get! j).toNat = 10) (hg : give n line = some v) (whole : ByteArray) (hw : whole.data.toList = d.data.toList ++ 10 :: line.data.toList) : last n (piecesB whole) = some v := by
  have hno : 10 ∉ line.data.toList := fun hm => by
    obtain ⟨j, hj⟩ := List.mem_iff_getElem?.1 hm
    have hlt : j < line.size := by rw [← len_list]; exact (List.getElem?_eq_some_iff.1 hj).1
    rw [get_list line j hlt] at hj
    exact hl j hlt ((u8_10 _).1 (Option.some.inj hj))
  show lastL n whole.data.toList = some v
  rw [hw, lastL_cut n _ _ hno, toB_list]
  exact upd_some hg

end Go.Proofs.Qxb6600570aDoor
