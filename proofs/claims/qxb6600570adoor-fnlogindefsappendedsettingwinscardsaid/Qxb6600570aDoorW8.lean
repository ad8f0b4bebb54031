/-
  Walk: LoginDefs (12).
-/
import Derived.Test.Qxb6600570aDoorW7
import Derived.Test.Qxb6600570aDoorQuiet
import Derived.Lib.SpaceUEq
import Derived.BigRegionIn
namespace Go.Proofs.Qxb6600570aDoor
open Go.RowKit Go.Shelf
attribute [local go_sem] Oper.semAt_some

/-- Without its quotes. -/
def unq (v : ByteArray) : ByteArray := if 2 ≤ v.size ∧ v.get! 0 = 34 ∧ v.get! (v.size - 1) = 34 then v.extract 1 (v.size - 1) else v
def keyOf (l : ByteArray) : ByteArray := if 0 ≤ Lib.indexAny l.data.toList [32, 9] then l.extract 0 (Lib.indexAny l.data.toList [32, 9]).toNat else l
def restOf (l : ByteArray) : ByteArray := if 0 ≤ Lib.indexAny l.data.toList [32, 9] then l.extract ((Lib.indexAny l.data.toList [32, 9]).toNat + 1) l.size else ⟨#[]⟩
/-- What a trimmed line gives the setting. -/
def giveT (name l : ByteArray) : Option ByteArray :=
  if l.size = 0 then none else if l.get! 0 = 35 then none else if keyOf l = name then some (unq (trimB (restOf l))) else none
def give (name line : ByteArray) : Option ByteArray := giveT name (trimB line)
def upd1 (name : ByteArray) (acc : Option ByteArray) (line : ByteArray) : Option ByteArray := match give name line with
  | some v => some v
  | none => acc
def last (name : ByteArray) (xs : List ByteArray) : Option ByteArray := xs.foldl (upd1 name) none
theorem last_snoc (name : ByteArray) (pre : List ByteArray) (x : ByteArray) : last name (pre ++ [x]) = upd1 name (last name pre) x := by simp [last]

def valOf (o : Option ByteArray) : ByteArray := o.getD ⟨#[]⟩

theorem keeps_below {W W' : World} (h : Below W.heap.size W W') : KeepsOthers W W' := ⟨h.size, fun k _ hk _ => (h.block k (Array.getElem?_eq_some_iff.1 hk).1).trans hk⟩
theorem kept_below {lo hi : Nat} {W W' : World} (h : Below W.heap.size W W') (hh : hi ≤ W.heap.size) : Kept lo hi W W' := fun k _ h2 => h.block k (by omega)
theorem kept_set {lo hi : Nat} (W : World) (b : Nat) (v : Value) (h : b < lo) : Kept lo hi W (W.setCell ⟨b, 0, none⟩ v) := fun k h1 _ => Below.heap_setCell _ _ _ _ (by show k ≠ b; omega)

/-- What the loop keeps. -/
structure LI (w : World) (N : Nat) (name : ByteArray) (acc : Option ByteArray) (W : World) : Prop where
  nm : W.cell? ⟨N, 0, none⟩ = some (.string name)
  vl : W.cell? ⟨N + 1, 0, none⟩ = some (.string (valOf acc))
  vf : W.frozen? ⟨N + 1, 0, none⟩ = false
  fd : W.cell? ⟨N + 2, 0, none⟩ = some (.bool acc.isSome)
  ff : W.frozen? ⟨N + 2, 0, none⟩ = false
  bl : Below N w W

theorem LI.step {w W W' : World} {N : Nat} {name : ByteArray} {acc : Option ByteArray} (h : LI w N name acc W) (hb : Below W.heap.size W W') (hN : N = w.heap.size) : LI w N name acc W' where
  nm := (hb.cell (World.block_lt_of_cell? _ _ h.nm)).trans h.nm
  vl := (hb.cell (World.block_lt_of_cell? _ _ h.vl)).trans h.vl
  vf := (hb.frozen (World.block_lt_of_cell? _ _ h.vl)).trans h.vf
  fd := (hb.cell (World.block_lt_of_cell? _ _ h.fd)).trans h.fd
  ff := (hb.frozen (World.block_lt_of_cell? _ _ h.fd)).trans h.ff
  bl := h.bl.trans (hb.mono (by have := h.bl.size; omega))

theorem LI.set {w W : World} {N : Nat} {name : ByteArray} {acc : Option ByteArray} (h : LI w N name acc W) (b : Nat) (hb : N + 3 ≤ b) (v : Value) : LI w N name acc (W.setCell ⟨b, 0, none⟩ v) where
  nm := (World.cell?_setCell_far _ _ _ _ (by show b ≠ N; omega)).trans h.nm
  vl := (World.cell?_setCell_far _ _ _ _ (by show b ≠ N + 1; omega)).trans h.vl
  vf := by rw [World.frozen?_setCell]; exact h.vf
  fd := (World.cell?_setCell_far _ _ _ _ (by show b ≠ N + 2; omega)).trans h.fd
  ff := by rw [World.frozen?_setCell]; exact h.ff
  bl := h.bl.setCell (p := ⟨b, 0, none⟩) (by show N ≤ b; omega) v

theorem LI.own (w : World) (N : Nat) (name : ByteArray) (f : List ByteArray → Option ByteArray) (B : Nat) (hN : N = w.heap.size) (hB : N ≤ B) : OwnFrom B (fun pre W => LI w N name (f pre) W) := fun s A C row hs hg hr =>
  ⟨cell_kept hs.nm hg (fun r e => (hr r e).2), cell_kept hs.vl hg (fun r e => (hr r e).2), (frozen_kept hs.vl hg (fun r e => (hr r e).2)).trans hs.vf, cell_kept hs.fd hg (fun r e => (hr r e).2), (frozen_kept hs.fd hg (fun r e => (hr r e).2)).trans hs.ff,
    hs.bl.grown hg (Nat.le_trans (by omega) hs.bl.size) (fun k e => Nat.le_trans hB (hr k e).1)⟩

theorem stripL_len : ∀ (f : Nat) (l : List UInt8), (Lib.stripL f l).length ≤ l.length
  | 0, l => Nat.le_refl _
  | f + 1, l => by
    simp only [Lib.stripL]
    split
    · exact Nat.le_refl _
    · exact Nat.le_trans (stripL_len f _) (by simp)
theorem stripR_len : ∀ (f : Nat) (l : List UInt8), (Lib.stripR f l).length ≤ l.length
  | 0, l => Nat.le_refl _
  | f + 1, l => by
    simp only [Lib.stripR]
    split
    · exact Nat.le_refl _
    · exact Nat.le_trans (stripR_len f _) (by simp)
theorem trimB_size (s : ByteArray) : (trimB s).size ≤ s.size := by
  have h : (Lib.trimSpaceU s.data.toList).length ≤ s.data.toList.length := Nat.le_trans (stripR_len _ _) (stripL_len _ _)
  rw [len_list] at h
  have e : (trimB s).size = (Lib.trimSpaceU s.data.toList).length := by
    rw [← len_list]
    unfold trimB
    simp
  omega

/-- strings.TrimSpace. -/
theorem trimLib_any (s : ByteArray) (w : World) (hs : s.size < 1073741824) (htab : Lib.TabIs Tryd.prog w "strings.asciiSpace" .u8 Lib.asciiSpaceTab ∧ Lib.Utf8Tabs 6 7 w ∧ Lib.WhiteTab 1 w) :
    Calls Tryd.prog 25 #[.string s] w fun e w' => e = .returned (.string (trimB s)) ∧ Below w.heap.size w w' := by
  refine (Tryd.strings_TrimSpace_any s w (by omega) htab.1 htab.2.1 htab.2.2).mono ?_
  rintro e w' ⟨rfl, hb⟩
  exact ⟨by rw [← Lib.trimSpaceU_eq]; rfl, hb⟩

theorem indexAny_lt : ∀ (l c : List UInt8) (k : Nat), Lib.indexAny l c = k → k < l.length
  | [], _, k, h => by simp [Lib.indexAny] at h
  | b :: l, c, k, h => by
    simp only [Lib.indexAny] at h
    split at h
    · have : k = 0 := by omega
      subst this
      simp
    · split at h
      · omega
      · have := indexAny_lt l c (k - 1) (by have := Lib.indexAny_ge c l; rename_i h1; simp at h1; omega)
        simp only [List.length_cons]
        omega

theorem li_of {w W : World} {N : Nat} {name : ByteArray} {a b : Option ByteArray} (h : a = b) (h2 : LI w N name b W) : LI w N name a W := by
  rw [h]
  exact h2
theorem str_eq {a b : ByteArray} (h : a = b) : (a.toList == b.toList) = true := by rw [h]; simp
theorem str_ne {a b : ByteArray} (h : ¬ a = b) : (a.toList == b.toList) = false := by
  rw [beq_eq_false_iff_ne, Lib.toList_data, Lib.toList_data]
  intro e
  exact h (by rw [← toB_list a, ← toB_list b, e])
theorem byte_eq {v : ByteArray} {i c : Nat} (h : i < v.size) (e : (v.get! i).toNat = c) : (((v[i]'h).toNat : Int) == (c : Int)) = true := by
  rw [get_is v i h] at e
  rw [e]
  simp
theorem byte_ne {v : ByteArray} {i c : Nat} (h : i < v.size) (e : ¬ (v.get! i).toNat = c) : (((v[i]'h).toNat : Int) == (c : Int)) = false := by
  rw [get_is v i h] at e
  rw [beq_eq_false_iff_ne]
  omega
theorem u8_34 (b : UInt8) : b = 34 ↔ b.toNat = 34 := by rw [← UInt8.toNat_inj]; simp

theorem LI.put {w W : World} {N : Nat} {name : ByteArray} {acc : Option ByteArray} (h : LI w N name acc W) (v : ByteArray) : LI w N name (some v) ((W.setCell ⟨N + 1, 0, none⟩ (.string v)).setCell ⟨N + 1 + 1, 0, none⟩ (.bool true)) where
  nm := (World.cell?_setCell_far _ _ _ _ (by show N + 1 + 1 ≠ N; omega)).trans ((World.cell?_setCell_far _ _ _ _ (by show N + 1 ≠ N; omega)).trans h.nm)
  vl := (World.cell?_setCell_far _ _ _ _ (by show N + 1 + 1 ≠ N + 1; omega)).trans (World.cell?_setCell_same' _ _ _ (by rw [h.vl]; rfl))
  vf := by rw [World.frozen?_setCell, World.frozen?_setCell]; exact h.vf
  fd := World.cell?_setCell_same' _ _ _ (by rw [World.cell?_setCell_far _ _ _ _ (by show N + 1 ≠ N + 1 + 1; omega)]; rw [h.fd]; rfl)
  ff := by rw [World.frozen?_setCell, World.frozen?_setCell]; exact h.ff
  bl := (h.bl.setCell (p := ⟨N + 1, 0, none⟩) (by show N ≤ N + 1; omega) _).setCell (p := ⟨N + 1 + 1, 0, none⟩) (by show N ≤ N + 1 + 1; omega) _
theorem LI.put2 {w W : World} {N : Nat} {name : ByteArray} {acc : Option ByteArray} (h : LI w N name acc W) (u v : ByteArray) : LI w N name (some v) (((W.setCell ⟨N + 1, 0, none⟩ (.string u)).setCell ⟨N + 1, 0, none⟩ (.string v)).setCell ⟨N + 1 + 1, 0, none⟩ (.bool true)) where
  nm := (World.cell?_setCell_far _ _ _ _ (by show N + 1 + 1 ≠ N; omega)).trans ((World.cell?_setCell_far _ _ _ _ (by show N + 1 ≠ N; omega)).trans ((World.cell?_setCell_far _ _ _ _ (by show N + 1 ≠ N; omega)).trans h.nm))
  vl := (World.cell?_setCell_far _ _ _ _ (by show N + 1 + 1 ≠ N + 1; omega)).trans (World.cell?_setCell_same' _ _ _ (by rw [World.cell?_setCell_same' _ _ _ (by rw [h.vl]; rfl)]; rfl))
  vf := by rw [World.frozen?_setCell, World.frozen?_setCell, World.frozen?_setCell]; exact h.vf
  fd := World.cell?_setCell_same' _ _ _ (by rw [World.cell?_setCell_far _ _ _ _ (by show N + 1 ≠ N + 1 + 1; omega), World.cell?_setCell_far _ _ _ _ (by show N + 1 ≠ N + 1 + 1; omega)]; rw [h.fd]; rfl)
  ff := by rw [World.frozen?_setCell, World.frozen?_setCell, World.frozen?_setCell]; exact h.ff
  bl := ((h.bl.setCell (p := ⟨N + 1, 0, none⟩) (by show N ≤ N + 1; omega) _).setCell (p := ⟨N + 1, 0, none⟩) (by show N ≤ N + 1; omega) _).setCell (p := ⟨N + 1 + 1, 0, none⟩) (by show N ≤ N + 1 + 1; omega) _

theorem list_nil {t : ByteArray} : t.toList.isEmpty = true ↔ t.size = 0 := by
  rw [Lib.toList_data, List.isEmpty_iff, ← List.length_eq_zero_iff, len_list]
theorem give_none {name : ByteArray} {pre : List ByteArray} {x : ByteArray} (h : give name x = none) : last name (pre ++ [x]) = last name pre := by
  rw [last_snoc]; unfold upd1; rw [h]
theorem give_some {name : ByteArray} {pre : List ByteArray} {x v : ByteArray} (h : give name x = some v) : last name (pre ++ [x]) = some v := by
  rw [last_snoc]; unfold upd1; rw [h]

set_option maxRecDepth 100000 in
set_option maxHeartbeats 4000000 in
theorem loginDefs_any (data name : ByteArray) (w : World) (hd : data.size < 1073741824) (htab : ∀ W, Below w.heap.size w W → Lib.TabIs Tryd.prog W "strings.asciiSpace" .u8 Lib.asciiSpaceTab ∧ Lib.Utf8Tabs 6 7 W ∧ Lib.WhiteTab 1 W) :
    Calls Tryd.prog 12 #[.string data, .string name] w fun e w' => e = .returned (.tuple #[.string (valOf (last name (piecesB data))), .bool (last name (piecesB data)).isSome]) ∧ Below w.heap.size w w' := by
  refine (callsIn_wide (n := 5)).1 ?_
  refine callsIn_of_wp_marks Tryd.func12 rfl trivial ?_ rfl
  simp only [Tryd.ntmps12, List.size_toArray, List.length_cons, List.length_nil, Nat.reduceAdd, Nat.reduceSub, Array.replicate_succ, Array.replicate_zero, List.push_toArray, List.append_toArray, List.nil_append, List.cons_append]
  gi_wp2
  refine ⟨trivial, ?_⟩
  refine (callsIn_wide.2 (splitSeq_any data _)).mono ?_
  rintro e w' ⟨rfl, hw'⟩
  have hsz : (((w.alloc (Obj.cells #[Value.string name] 9)).alloc (Obj.cells #[Value.string ⟨#[]⟩] 9)).alloc (Obj.cells #[Value.bool false] 4)).heap.size = w.heap.size + 3 := by simp
  have hL0 : LI w w.heap.size name none (((w.alloc (Obj.cells #[Value.string name] 9)).alloc (Obj.cells #[Value.string ⟨#[]⟩] 9)).alloc (Obj.cells #[Value.bool false] 4)) := by
    refine ⟨by go_simp, by go_simp; rfl, by go_simp, by go_simp, by go_simp, ?_⟩
    exact (((Below.refl _ w).alloc (Nat.le_refl _) _).alloc (by simp) _).alloc (by simp; omega) _
  generalize ((w.alloc (Obj.cells #[Value.string name] 9)).alloc (Obj.cells #[Value.string ⟨#[]⟩] 9)).alloc (Obj.cells #[Value.bool false] 4) = W0 at *
  have hB6 : Below W0.heap.size W0 w' := by
    rw [hw']
    exact (((Below.refl _ W0).alloc (Nat.le_refl _) _).alloc (by simp) _).alloc (by simp; omega) _
  have c1 : w'.cell? ⟨W0.heap.size, 0, none⟩ = some (.string data) := by rw [hw']; go_simp
  have c2 : w'.cell? ⟨W0.heap.size + 1, 0, none⟩ = some (.string nl) := by rw [hw']; go_simp
  have c3 : w'.cell? ⟨W0.heap.size + 1 + 1, 0, none⟩ = some (.int .i64 0) := by rw [hw']; go_simp
  have c4 : w'.frozen? ⟨W0.heap.size, 0, none⟩ = false := by rw [hw']; go_simp
  have hs6 : w'.heap.size = W0.heap.size + 3 := by rw [hw']; simp
  have hL6 := hL0.step hB6 rfl
  clear hw' hL0 hB6
  have hsf : splitFunc W0 = .func (.func 63) #[] #[.pointer (some ⟨w.heap.size + 3 + 1, 0, none⟩), .pointer (some ⟨w.heap.size + 3, 0, none⟩), .pointer (some ⟨w.heap.size + 3 + 1 + 1, 0, none⟩)] := by simp only [splitFunc, hsz]
  rw [hsf]
  rw [hsz] at c1 c2 c3 c4 hs6
  clear hsf hsz
  have HTAB : Hid (∀ W, Below w.heap.size w W → Lib.TabIs Tryd.prog W "strings.asciiSpace" .u8 Lib.asciiSpaceTab ∧ Lib.Utf8Tabs 6 7 W ∧ Lib.WhiteTab 1 W) := htab
  clear htab
  have HOWN : Hid (OwnFrom w'.heap.size (fun pre W => LI w w.heap.size name (last name pre) W)) := LI.own w w.heap.size name (last name) _ rfl (by omega)
  have hseq : CellSeq Fence.wide 4 Tryd.prog 63 #[.pointer (some ⟨w.heap.size + 3 + 1, 0, none⟩), .pointer (some ⟨w.heap.size + 3, 0, none⟩), .pointer (some ⟨w.heap.size + 3 + 1 + 1, 0, none⟩)] (fun x : ByteArray => #[.string x]) (fun x => x.size ≤ data.size) (w.heap.size + 3) (w.heap.size + 6) (w.heap.size + 3) (piecesB data) w' :=
    split_seq 4 _ _ _ _ _ data w' (by omega) (by omega) c2 c1 c4 c3 (by omega) (by omega) (by omega) (by omega) (by omega) (by omega) (by omega) (by omega)
  have HSEQ : Hid _ := hseq
  clear hseq c1 c2 c3 c4
  gi_wp2
  refine wpIn_range_cell rfl (by omega) (gf := 63) rfl trivial (enters_of Tryd.func63 (by kernel_rfl) rfl) (hsb := ?hsb) (hhi := ?hhi) HSEQ.out (fun _ => rfl) (fun pre W => LI w w.heap.size name (last name pre) W) HOWN.out (fun pre A v h => h.set _ (Nat.le_refl _) v) hL6 ?a1 ?assign ?body ?done
  case assign =>
    intro l x W K hK
    gi_wp2
    exact hK
  case hsb => omega
  case hhi => omega
  case body =>
    rintro l pre x W hx hI hWs
    have HT1 : Hid (CallsIn (Fence.wide.inRound l) 2 Tryd.prog 25 #[.string x] W fun e w' => e = .returned (.string (trimB x)) ∧ Below W.heap.size W w') := CallsIn.inRound l (callsIn_wide.2 (trimLib_any x W (by omega) (HTAB.out W hI.bl)))
    have htx := trimB_size x
    have HG0 : Hid (giveT name (trimB x) = none → last name (pre ++ [x]) = last name pre) := fun h => give_none h
    have HGS : Hid (∀ v, giveT name (trimB x) = some v → last name (pre ++ [x]) = some v) := fun v h => give_some h
    gi_wp2
    refine ⟨trivial, ?_⟩
    refine HT1.out.mono ?_
    rintro e W1 ⟨rfl, hb1⟩
    generalize trimB x = t at *
    have HI1 : Hid _ := hI.step hb1 rfl
    have HB1 : Hid _ := hb1
    clear hb1 HT1
    by_cases h0 : t.size = 0
    · have e0 : t.toList.isEmpty = true := list_nil.2 h0
      have HN : Hid (last name (pre ++ [x]) = last name pre) := HG0.out (by unfold giveT; rw [if_pos h0])
      clear h0 HG0 HGS
      gi_wp2
      exact ⟨keeps_below HB1.out, kept_below HB1.out (by omega), li_of HN.out HI1.out⟩
    · have e0 : t.toList.isEmpty = false := by
        cases h : t.toList.isEmpty
        · rfl
        · exact absurd (list_nil.1 h) h0
      have hpos : 0 < t.size := by omega
      have y0 : (0 : Int) < (t.size : Int) := by omega
      by_cases h35 : t.get! 0 = 35
      · have e1 : (((t[0]'hpos).toNat : Int) == 35) = true := by
          rw [← get_is t 0 hpos, h35]
          rfl
        have HN : Hid (last name (pre ++ [x]) = last name pre) := HG0.out (by unfold giveT; rw [if_neg h0, if_pos h35])
        clear h0 h35 HG0 HGS
        gi_wp2
        exact ⟨keeps_below HB1.out, kept_below HB1.out (by omega), li_of HN.out HI1.out⟩
      · have e1 : (((t[0]'hpos).toNat : Int) == 35) = false := by
          rw [← get_is t 0 hpos, beq_eq_false_iff_ne]
          intro h
          exact h35 (UInt8.toNat_inj.1 (by simp; omega))
        have HG1 : Hid (giveT name t = if keyOf t = name then some (unq (trimB (restOf t))) else none) := by
          rw [Hid]
          unfold giveT
          rw [if_neg h0, if_neg h35]
        have HIA : Hid (CallsIn (Fence.wide.inRound l) 2 Tryd.prog 26 #[.string t, .string st] W1 fun e w' => e = .returned (.int .i64 (Lib.indexAny t.data.toList [32, 9])) ∧ Below W1.heap.size W1 w') := CallsIn.inRound l (callsIn_wide.2 (indexAny_any t W1 (by omega)))
        clear h0 h35
        gi_wp2
        refine ⟨trivial, ?_⟩
        refine HIA.out.mono ?_
        rintro e W2 ⟨rfl, hb2⟩
        have HI2 : Hid _ := HI1.out.step hb2 rfl
        have HB2 : Hid (Below W.heap.size W W2) := HB1.out.trans (hb2.mono HB1.out.size)
        clear hb2 HIA HI1 HB1
        by_cases hneg : Lib.indexAny t.data.toList [32, 9] < 0
        · have HI3 : Hid (LI w w.heap.size name (last name pre) W2) := HI2.out
          have HB3 : Hid (Below W.heap.size W W2) := HB2.out
          have HG2 : Hid (giveT name t = if t = name then some (unq (trimB ⟨#[]⟩)) else none) := by
            have ing : ¬ 0 ≤ Lib.indexAny t.data.toList [32, 9] := by omega
            have h1 : keyOf t = t := by unfold keyOf; rw [if_neg ing]
            have h2 : restOf t = ⟨#[]⟩ := by unfold restOf; rw [if_neg ing]
            rw [Hid, HG1.out, h1, h2]
          have hrs : ByteArray.size ⟨#[]⟩ < 1073741824 := by decide
          have ing : ¬ 0 ≤ Lib.indexAny t.data.toList [32, 9] := by omega
          clear HI2 HB2 HG1 e0 y0 e1 htx hx hneg
          generalize Lib.indexAny t.data.toList [32, 9] = ix at *
          generalize W2 = W3 at *
          have cn := HI3.out.nm
          by_cases hkn : t = name
          · have qk : (t.toList == name.toList) = true := str_eq hkn
            have HSM : Hid (last name (pre ++ [x]) = some (unq (trimB ⟨#[]⟩))) := HGS.out _ (by rw [HG2.out, if_pos hkn])
            have HT3 : Hid (CallsIn (Fence.wide.inRound l) 2 Tryd.prog 25 #[.string ⟨#[]⟩] W3 fun e w' => e = .returned (.string (trimB ⟨#[]⟩)) ∧ Below W3.heap.size W3 w') := CallsIn.inRound l (callsIn_wide.2 (trimLib_any ⟨#[]⟩ W3 hrs (HTAB.out W3 HI3.out.bl)))
            have htr := trimB_size ⟨#[]⟩
            clear hkn HG0 HGS HG2 HTAB HOWN HSEQ
            gi_wp2
            refine ⟨trivial, ?_⟩
            refine HT3.out.mono ?_
            rintro e W4 ⟨rfl, hb4⟩
            have HI4 : Hid _ := HI3.out.step hb4 rfl
            have HB4 : Hid (Below W.heap.size W W4) := HB3.out.trans (hb4.mono HB3.out.size)
            generalize trimB ⟨#[]⟩ = v at *
            clear hb4 HT3 HI3 HB3 cn
            have cv := HI4.out.vl
            have cvf := HI4.out.vf
            have cf : W4.cell? ⟨w.heap.size + 1 + 1, 0, none⟩ = some (.bool (last name pre).isSome) := HI4.out.fd
            have cff : W4.frozen? ⟨w.heap.size + 1 + 1, 0, none⟩ = false := HI4.out.ff
            have HK1 : Hid (∀ u : Value, KeepsOthers W ((W4.setCell ⟨w.heap.size + 1, 0, none⟩ u).setCell ⟨w.heap.size + 1 + 1, 0, none⟩ (.bool true)) ∧ Kept (w.heap.size + 3) (w.heap.size + 6) W ((W4.setCell ⟨w.heap.size + 1, 0, none⟩ u).setCell ⟨w.heap.size + 1 + 1, 0, none⟩ (.bool true))) := fun u =>
              ⟨(keeps_below HB4.out).trans ((KeepsOthers.setCell _ _ _).trans (KeepsOthers.setCell _ _ _)), (kept_below HB4.out (by omega)).trans ((kept_set _ _ _ (by omega)).trans (kept_set _ _ _ (by omega)))⟩
            have HK2 : Hid (∀ u u' : Value, KeepsOthers W (((W4.setCell ⟨w.heap.size + 1, 0, none⟩ u).setCell ⟨w.heap.size + 1, 0, none⟩ u').setCell ⟨w.heap.size + 1 + 1, 0, none⟩ (.bool true)) ∧ Kept (w.heap.size + 3) (w.heap.size + 6) W (((W4.setCell ⟨w.heap.size + 1, 0, none⟩ u).setCell ⟨w.heap.size + 1, 0, none⟩ u').setCell ⟨w.heap.size + 1 + 1, 0, none⟩ (.bool true))) := fun u u' =>
              ⟨(keeps_below HB4.out).trans ((KeepsOthers.setCell _ _ _).trans ((KeepsOthers.setCell _ _ _).trans (KeepsOthers.setCell _ _ _))), (kept_below HB4.out (by omega)).trans ((kept_set _ _ _ (by omega)).trans ((kept_set _ _ _ (by omega)).trans (kept_set _ _ _ (by omega))))⟩
            by_cases v2 : 2 ≤ v.size
            · obtain ⟨m, hm⟩ : ∃ m, m = v.size - 1 := ⟨_, rfl⟩
              have w1 : (2 : Int) ≤ (v.size : Int) := by omega
              have w2 : (0 : Int) < (v.size : Int) := by omega
              have w3 : (m : Int) < (v.size : Int) := by omega
              have w4 : IntKind.i64.wrap ((v.size : Int) - 1) = (m : Int) := by rw [IntKind.wrap_i64]; omega
              have w5 : (m : Int) ≤ (v.size : Int) := by omega
              have w6 : (1 : Int) ≤ (m : Int) := by omega
              have l0 : 0 < v.size := by omega
              have lm : m < v.size := by omega
              by_cases q1 : (v.get! 0).toNat = 34
              · have f1 : (((v[0]'l0).toNat : Int) == 34) = true := byte_eq l0 q1
                by_cases q2 : (v.get! m).toNat = 34
                · have f2 : (((v[m]'lm).toNat : Int) == 34) = true := byte_eq lm q2
                  have HU : Hid (unq v = v.extract 1 m) := by
                    rw [Hid]; unfold unq; rw [if_pos ⟨v2, (u8_34 _).2 q1, by rw [← hm]; exact (u8_34 _).2 q2⟩, ← hm]
                  clear hm v2 q1 q2
                  gi_wp2
                  obtain ⟨k1, k2⟩ := HK2.out (.string v) (.string (v.extract 1 m))
                  exact ⟨k1, k2, li_of (HSM.out.trans (by rw [HU.out])) (HI4.out.put2 v _)⟩
                · have f2 : (((v[m]'lm).toNat : Int) == 34) = false := byte_ne lm q2
                  have HU : Hid (unq v = v) := by
                    rw [Hid]; unfold unq; rw [if_neg (fun h => q2 (by rw [← hm] at h; exact (u8_34 _).1 h.2.2))]
                  clear hm v2 q1 q2
                  gi_wp2
                  obtain ⟨k1, k2⟩ := HK1.out (.string v)
                  exact ⟨k1, k2, li_of (HSM.out.trans (by rw [HU.out])) (HI4.out.put v)⟩
              · have f1 : (((v[0]'l0).toNat : Int) == 34) = false := byte_ne l0 q1
                have HU : Hid (unq v = v) := by
                  rw [Hid]; unfold unq; rw [if_neg (fun h => q1 ((u8_34 _).1 h.2.1))]
                clear hm v2 q1
                gi_wp2
                obtain ⟨k1, k2⟩ := HK1.out (.string v)
                exact ⟨k1, k2, li_of (HSM.out.trans (by rw [HU.out])) (HI4.out.put v)⟩
            · have w1 : decide ((2 : Int) ≤ (v.size : Int)) = false := by simp; omega
              have HU : Hid (unq v = v) := by
                rw [Hid]; unfold unq; rw [if_neg (fun h => v2 h.1)]
              clear v2
              gi_wp2
              obtain ⟨k1, k2⟩ := HK1.out (.string v)
              exact ⟨k1, k2, li_of (HSM.out.trans (by rw [HU.out])) (HI4.out.put v)⟩
          · have qk : (t.toList == name.toList) = false := str_ne hkn
            have HN : Hid (last name (pre ++ [x]) = last name pre) := HG0.out (by rw [HG2.out, if_neg hkn])
            clear hkn HG0 HGS HG2
            gi_wp2
            exact ⟨keeps_below HB3.out, kept_below HB3.out (by omega), li_of HN.out HI3.out⟩
        · obtain ⟨k, hk⟩ : ∃ k : Nat, Lib.indexAny t.data.toList [32, 9] = (k : Int) := ⟨(Lib.indexAny t.data.toList [32, 9]).toNat, by omega⟩
          have hkl := indexAny_lt _ _ k hk
          rw [len_list] at hkl
          have HKY : Hid (keyOf t = t.extract 0 k) := by
            rw [Hid]; unfold keyOf; rw [hk, if_pos (by omega)]; rfl
          have HRS : Hid (restOf t = t.extract (k + 1) t.size) := by
            rw [Hid]; unfold restOf; rw [hk, if_pos (by omega)]; rfl
          rw [hk]
          clear hk hneg
          have z1 : (k : Int) ≤ (t.size : Int) := by omega
          have z2 : ((k : Int) + 1) ≤ (t.size : Int) := by omega
          have z3 : IntKind.i64.wrap ((k : Int) + 1) = ((k + 1 : Nat) : Int) := by rw [IntKind.wrap_i64]; omega
          gi_wp2
          refine wpIn_region_quiet_round rfl (by kernel_rfl) (by kernel_rfl) ?_
          repeat (gi_big_quiet_step (fail))
          refine wpQuietIn_nil ?_
          rintro _ ⟨nq, rfl⟩
          have HI3 : Hid (LI w w.heap.size name (last name pre) (W2.drewN nq)) := HI2.out.step ⟨rfl, rfl, rfl, Nat.le_refl _, fun _ _ => rfl⟩ rfl
          have HB3 : Hid (Below W.heap.size W (W2.drewN nq)) := HB2.out.trans ⟨rfl, rfl, rfl, Nat.le_refl _, fun _ _ => rfl⟩
          have HG2 : Hid (giveT name t = if t.extract 0 k = name then some (unq (trimB (t.extract (k + 1) t.size))) else none) := by rw [Hid, HG1.out, HKY.out, HRS.out]
          have hrs : (t.extract (k + 1) t.size).size < 1073741824 := by rw [ByteArray.size_extract]; omega
          clear HI2 HB2 HG1 HKY HRS z1 z2 z3 hkl e0 y0 e1 htx hx
          generalize W2.drewN nq = W3 at *
          generalize t.extract 0 k = key at *
          generalize t.extract (k + 1) t.size = rest at *
          have cn := HI3.out.nm
          by_cases hkn : key = name
          · have qk : (key.toList == name.toList) = true := str_eq hkn
            have HSM : Hid (last name (pre ++ [x]) = some (unq (trimB rest))) := HGS.out _ (by rw [HG2.out, if_pos hkn])
            have HT3 : Hid (CallsIn (Fence.wide.inRound l) 2 Tryd.prog 25 #[.string rest] W3 fun e w' => e = .returned (.string (trimB rest)) ∧ Below W3.heap.size W3 w') := CallsIn.inRound l (callsIn_wide.2 (trimLib_any rest W3 hrs (HTAB.out W3 HI3.out.bl)))
            have htr := trimB_size rest
            clear hkn HG0 HGS HG2 HTAB HOWN HSEQ
            gi_wp2
            refine ⟨trivial, ?_⟩
            refine HT3.out.mono ?_
            rintro e W4 ⟨rfl, hb4⟩
            have HI4 : Hid _ := HI3.out.step hb4 rfl
            have HB4 : Hid (Below W.heap.size W W4) := HB3.out.trans (hb4.mono HB3.out.size)
            generalize trimB rest = v at *
            clear hb4 HT3 HI3 HB3 cn
            have cv := HI4.out.vl
            have cvf := HI4.out.vf
            have cf : W4.cell? ⟨w.heap.size + 1 + 1, 0, none⟩ = some (.bool (last name pre).isSome) := HI4.out.fd
            have cff : W4.frozen? ⟨w.heap.size + 1 + 1, 0, none⟩ = false := HI4.out.ff
            have HK1 : Hid (∀ u : Value, KeepsOthers W ((W4.setCell ⟨w.heap.size + 1, 0, none⟩ u).setCell ⟨w.heap.size + 1 + 1, 0, none⟩ (.bool true)) ∧ Kept (w.heap.size + 3) (w.heap.size + 6) W ((W4.setCell ⟨w.heap.size + 1, 0, none⟩ u).setCell ⟨w.heap.size + 1 + 1, 0, none⟩ (.bool true))) := fun u =>
              ⟨(keeps_below HB4.out).trans ((KeepsOthers.setCell _ _ _).trans (KeepsOthers.setCell _ _ _)), (kept_below HB4.out (by omega)).trans ((kept_set _ _ _ (by omega)).trans (kept_set _ _ _ (by omega)))⟩
            have HK2 : Hid (∀ u u' : Value, KeepsOthers W (((W4.setCell ⟨w.heap.size + 1, 0, none⟩ u).setCell ⟨w.heap.size + 1, 0, none⟩ u').setCell ⟨w.heap.size + 1 + 1, 0, none⟩ (.bool true)) ∧ Kept (w.heap.size + 3) (w.heap.size + 6) W (((W4.setCell ⟨w.heap.size + 1, 0, none⟩ u).setCell ⟨w.heap.size + 1, 0, none⟩ u').setCell ⟨w.heap.size + 1 + 1, 0, none⟩ (.bool true))) := fun u u' =>
              ⟨(keeps_below HB4.out).trans ((KeepsOthers.setCell _ _ _).trans ((KeepsOthers.setCell _ _ _).trans (KeepsOthers.setCell _ _ _))), (kept_below HB4.out (by omega)).trans ((kept_set _ _ _ (by omega)).trans ((kept_set _ _ _ (by omega)).trans (kept_set _ _ _ (by omega))))⟩
            by_cases v2 : 2 ≤ v.size
            · obtain ⟨m, hm⟩ : ∃ m, m = v.size - 1 := ⟨_, rfl⟩
              have w1 : (2 : Int) ≤ (v.size : Int) := by omega
              have w2 : (0 : Int) < (v.size : Int) := by omega
              have w3 : (m : Int) < (v.size : Int) := by omega
              have w4 : IntKind.i64.wrap ((v.size : Int) - 1) = (m : Int) := by rw [IntKind.wrap_i64]; omega
              have w5 : (m : Int) ≤ (v.size : Int) := by omega
              have w6 : (1 : Int) ≤ (m : Int) := by omega
              have l0 : 0 < v.size := by omega
              have lm : m < v.size := by omega
              by_cases q1 : (v.get! 0).toNat = 34
              · have f1 : (((v[0]'l0).toNat : Int) == 34) = true := byte_eq l0 q1
                by_cases q2 : (v.get! m).toNat = 34
                · have f2 : (((v[m]'lm).toNat : Int) == 34) = true := byte_eq lm q2
                  have HU : Hid (unq v = v.extract 1 m) := by
                    rw [Hid]; unfold unq; rw [if_pos ⟨v2, (u8_34 _).2 q1, by rw [← hm]; exact (u8_34 _).2 q2⟩, ← hm]
                  clear hm v2 q1 q2
                  gi_wp2
                  obtain ⟨k1, k2⟩ := HK2.out (.string v) (.string (v.extract 1 m))
                  exact ⟨k1, k2, li_of (HSM.out.trans (by rw [HU.out])) (HI4.out.put2 v _)⟩
                · have f2 : (((v[m]'lm).toNat : Int) == 34) = false := byte_ne lm q2
                  have HU : Hid (unq v = v) := by
                    rw [Hid]; unfold unq; rw [if_neg (fun h => q2 (by rw [← hm] at h; exact (u8_34 _).1 h.2.2))]
                  clear hm v2 q1 q2
                  gi_wp2
                  obtain ⟨k1, k2⟩ := HK1.out (.string v)
                  exact ⟨k1, k2, li_of (HSM.out.trans (by rw [HU.out])) (HI4.out.put v)⟩
              · have f1 : (((v[0]'l0).toNat : Int) == 34) = false := byte_ne l0 q1
                have HU : Hid (unq v = v) := by
                  rw [Hid]; unfold unq; rw [if_neg (fun h => q1 ((u8_34 _).1 h.2.1))]
                clear hm v2 q1
                gi_wp2
                obtain ⟨k1, k2⟩ := HK1.out (.string v)
                exact ⟨k1, k2, li_of (HSM.out.trans (by rw [HU.out])) (HI4.out.put v)⟩
            · have w1 : decide ((2 : Int) ≤ (v.size : Int)) = false := by simp; omega
              have HU : Hid (unq v = v) := by
                rw [Hid]; unfold unq; rw [if_neg (fun h => v2 h.1)]
              clear v2
              gi_wp2
              obtain ⟨k1, k2⟩ := HK1.out (.string v)
              exact ⟨k1, k2, li_of (HSM.out.trans (by rw [HU.out])) (HI4.out.put v)⟩
          · have qk : (key.toList == name.toList) = false := str_ne hkn
            have HN : Hid (last name (pre ++ [x]) = last name pre) := HG0.out (by rw [HG2.out, if_neg hkn])
            clear hkn HG0 HGS HG2
            gi_wp2
            exact ⟨keeps_below HB3.out, kept_below HB3.out (by omega), li_of HN.out HI3.out⟩
  case done =>
    rintro D W hD hI hK
    have HI : Hid _ := hI
    have cv := HI.out.vl
    have cvf := HI.out.vf
    have cf : W.cell? ⟨w.heap.size + 1 + 1, 0, none⟩ = some (.bool (last name (piecesB data)).isSome) := HI.out.fd
    have cff : W.frozen? ⟨w.heap.size + 1 + 1, 0, none⟩ = false := HI.out.ff
    have HK : Hid _ := hK
    clear hI hK HSEQ HOWN HTAB hL6
    gi_wp2
    gi_region
    all_goals gi_wp2
    have hK' : (((W.setCell ⟨w.heap.size + 1, 0, none⟩ (.string (valOf (last name (piecesB data))))).setCell ⟨w.heap.size + 1 + 1, 0, none⟩ (.bool (last name (piecesB data)).isSome)).drew).heap[D]? = some (.deferred (some [])) := by
      show ((W.setCell ⟨w.heap.size + 1, 0, none⟩ (.string (valOf (last name (piecesB data))))).setCell ⟨w.heap.size + 1 + 1, 0, none⟩ (.bool (last name (piecesB data)).isSome)).heap[D]? = _
      rw [Below.heap_setCell _ _ _ _ (by show D ≠ w.heap.size + 1 + 1; omega), Below.heap_setCell _ _ _ _ (by show D ≠ w.heap.size + 1; omega)]
      exact HK.out
    refine ⟨by simp, .inl ⟨_, _, rfl, run_takeDeferred hK', ?_⟩⟩
    have b9 : Below w.heap.size w (((W.setCell ⟨w.heap.size + 1, 0, none⟩ (.string (valOf (last name (piecesB data))))).setCell ⟨w.heap.size + 1 + 1, 0, none⟩ (.bool (last name (piecesB data)).isSome)).drew.putObj D (.deferred none)) := by
      refine Below.trans (((HI.out.bl.setCell (p := ⟨w.heap.size + 1, 0, none⟩) (by show w.heap.size ≤ w.heap.size + 1; omega) (.string (valOf (last name (piecesB data))))).setCell (p := ⟨w.heap.size + 1 + 1, 0, none⟩) (by show w.heap.size ≤ w.heap.size + 1 + 1; omega) (.bool (last name (piecesB data)).isSome)).drew) ?_
      exact ⟨rfl, rfl, rfl, by rw [World.putObj_size]; exact Nat.le_refl _, fun k hk => World.putObj_heap_other (by omega)⟩
    have r1 : (((W.setCell ⟨w.heap.size + 1, 0, none⟩ (.string (valOf (last name (piecesB data))))).setCell ⟨w.heap.size + 1 + 1, 0, none⟩ (.bool (last name (piecesB data)).isSome)).drew.putObj D (.deferred none)).cell? ⟨w.heap.size + 1, 0, none⟩ = some (.string (valOf (last name (piecesB data)))) := by
      rw [World.cell?_of_block (World.putObj_heap_other (by show w.heap.size + 1 ≠ D; omega))]
      show ((W.setCell ⟨w.heap.size + 1, 0, none⟩ (.string (valOf (last name (piecesB data))))).setCell ⟨w.heap.size + 1 + 1, 0, none⟩ (.bool (last name (piecesB data)).isSome)).cell? ⟨w.heap.size + 1, 0, none⟩ = _
      rw [World.cell?_setCell_far _ _ _ _ (by show w.heap.size + 1 + 1 ≠ w.heap.size + 1; omega)]
      exact World.cell?_setCell_same' _ _ _ (by rw [cv]; rfl)
    have r2 : (((W.setCell ⟨w.heap.size + 1, 0, none⟩ (.string (valOf (last name (piecesB data))))).setCell ⟨w.heap.size + 1 + 1, 0, none⟩ (.bool (last name (piecesB data)).isSome)).drew.putObj D (.deferred none)).cell? ⟨w.heap.size + 1 + 1, 0, none⟩ = some (.bool (last name (piecesB data)).isSome) := by
      rw [World.cell?_of_block (World.putObj_heap_other (by show w.heap.size + 1 + 1 ≠ D; omega))]
      show ((W.setCell ⟨w.heap.size + 1, 0, none⟩ (.string (valOf (last name (piecesB data))))).setCell ⟨w.heap.size + 1 + 1, 0, none⟩ (.bool (last name (piecesB data)).isSome)).cell? ⟨w.heap.size + 1 + 1, 0, none⟩ = _
      exact World.cell?_setCell_same' _ _ _ (by rw [World.cell?_setCell_far _ _ _ _ (by show w.heap.size + 1 ≠ w.heap.size + 1 + 1; omega), cf]; rfl)
    clear hK'
    generalize ((W.setCell ⟨w.heap.size + 1, 0, none⟩ (.string (valOf (last name (piecesB data))))).setCell ⟨w.heap.size + 1 + 1, 0, none⟩ (.bool (last name (piecesB data)).isSome)).drew.putObj D (.deferred none) = W9 at *
    refine ⟨.tuple #[.string (valOf (last name (piecesB data))), .bool (last name (piecesB data)).isSome], ?_, rfl, b9⟩
    simp [results, Tryd.results12, go_sem, r1, r2]
end Go.Proofs.Qxb6600570aDoor
