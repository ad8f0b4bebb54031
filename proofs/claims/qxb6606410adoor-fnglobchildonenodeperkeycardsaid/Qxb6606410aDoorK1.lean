/-
  zzKeyOf (10): the walk.
-/
import Derived.Test.Qxb6606410aDoorPlain2
import Derived.Deep.RegionHeld3
import Derived.RegionTactic
import Derived.Deep.RegionLaw
namespace Go.Proofs.Qxb6606410aDoor
open Go.RowKit

theorem star_of (c : UInt8) (h : ((c.toNat : Int) == 42) = true) : c = 42 := UInt8.toNat_inj.1 (by simp at h; show c.toNat = 42; omega)
theorem other_of (c : UInt8) (h : ((c.toNat : Int) == 42) = false) : c ≠ 42 := fun e => by subst e; simp at h

theorem int_eq {k : IntKind} {a b : Int} (h : a = b) : Value.int k a = .int k b := by rw [h]

/-- What zzKeyOf leaves: the key's three parts, the middles in memory of the call's own. -/
def KeyEnd (s : ByteArray) (w : World) (e : Ending) (w' : World) : Prop :=
  ∃ (pre suf : ByteArray) (a : Option Addr) (m c : Nat) (ms : List ByteArray), e = .returned (.agg #[.string pre, .string suf, .slice a m c]) ∧ Below w.heap.size w w' ∧ ms.length = m ∧
    pre.data.toList = (dn s.data.toList).headD [] ∧ suf.data.toList = cu s.data.toList ∧ ms.map (·.data.toList) = mids s.data.toList ∧
    w'.ownsRow w.heap.size 9 1 (.slice a m c) m (ms.map Value.string)

/-- An append to a row of the call's own, as one step of a region that draws its order. -/
theorem step_append_at {P : Program} {ops : Array Oper} {o : Oper} {a : Act} {w : World} {K : Act → World → Prop} {Q : Exit → Act → World → Prop} {E : Prop}
    (hg : o.guard = none) (s x : Operand) (t : TypeId) (hop : o.op = Op.call { callee := Callee.builtin Builtin.append, args := #[s, x], argTypes := #[t, t] })
    (base : Nat) (e : TypeId) (i : TypeInfo) (z : Value) (size bytes : Nat) (h1 : P.underlying t = some (.slice e)) (h2 : P.info? e = some i) (h3 : i.zero = some z) (h4 : i.size = size) (h5 : i.bytes = bytes) (h6 : z.cells.size = size) (h7 : 0 < size)
    (v : Value) (n : Nat) (xs : List Value) (hs : a.eval s = v) (hown : w.ownsRow base e size v n xs)
    (ad : Addr) (m c : Nat) (news : List Value) (hx : a.eval x = .slice (some ad) m c) (hn : news.length = m * size) (hc : ∀ j u, news[j]? = some u → w.cell? (ad.add j) = some u) (h1c : ∀ u ∈ news, u.oneCell' = true)
    (b1 : n + m ≤ maxLen) (b2 : (n + m) * bytes ≤ 140737488355328) (b3 : base ≤ w.heap.size)
    (hK : ∀ v' w', w'.ownsRow base e size v' (n + m) (xs ++ news) → w.grownBy w' v.ownBlock → K (a.put o.dst v') w') :
    if Region.wanted o (yielded ops a.tmps) = true then Oper.wp P o a w K Q else E := by
  have hw : Region.wanted o (yielded ops a.tmps) = true := by simp [Region.wanted, hg]
  rw [if_pos hw]
  obtain ⟨v', w', hrun, r1, r2, _⟩ := run_append_own_at (P := P) w base t o.type e i z size bytes h1 h2 h3 h4 h5 h6 h7 v n xs hown ad m c news hn hc h1c b1 b2 b3
  unfold Oper.wp
  simp [execOp, hop, resolve, invoke, builtin, hs, hx, hrun, Result.andThen]
  exact hK v' w' r1 r2

theorem one_str (x : ByteArray) : ∀ u ∈ [Value.string x], u.oneCell' = true := fun u hu => by simp at hu; subst hu; rfl

/-- The key in the making, i bytes read. -/
structure KS (w wr : World) (l : List UInt8) (pre suf : ByteArray) (i st : Nat) (a : Option Addr) (m c : Nat) (ms : List ByteArray) : Prop where
  bl : Below w.heap.size w wr
  res : wr.heap[w.heap.size]? = some (.cells #[.string ⟨#[]⟩, .string ⟨#[]⟩, .slice none 0 0] 33)
  key : wr.heap[w.heap.size + 1]? = some (.cells #[.string pre, .string suf, .slice a m c] 33)
  own : wr.ownsRow (w.heap.size + 2) 9 1 (.slice a m c) m (ms.map Value.string)
  len : ms.length = m
  eq : ms.map (·.data.toList) = (dn (l.take i)).tail.filter fun x => !x.isEmpty
  st : st + (cu (l.take i)).length = i
  bd : m ≤ i

theorem KS.other {w wr : World} {s pre suf : ByteArray} {i st : Nat} {a : Option Addr} {m c : Nat} {ms : List ByteArray} (h : KS w wr s.data.toList pre suf i st a m c ms) (hi : i < s.size) (hc : s[i] ≠ 42) : KS w wr s.data.toList pre suf (i + 1) st a m c ms :=
  { h with
    eq := by rw [take_snoc s i hi, dn_other _ _ hc]; exact h.eq
    st := by rw [take_snoc s i hi, cu_other _ _ hc, List.length_append]; have := h.st; simp; omega
    bd := by have := h.bd; omega }

theorem tail_snoc {x : List (List UInt8)} {y : List UInt8} (h : x ≠ []) : (x ++ [y]).tail = x.tail ++ [y] := by
  cases x with
  | nil => exact absurd rfl h
  | cons a b => rfl

theorem dn_mono (l : List UInt8) (a b : Nat) (h : a ≤ b) (hd : dn (l.take a) ≠ []) : dn (l.take b) ≠ [] := by
  obtain ⟨k, rfl⟩ : ∃ k, b = a + k := ⟨b - a, by omega⟩
  clear h
  induction k with
  | zero => exact hd
  | succ k ih =>
    by_cases hk : a + k < l.length
    · rw [show a + (k + 1) = (a + k) + 1 from rfl, List.take_succ_eq_append_getElem hk]
      by_cases e : l[a + k] = 42
      · rw [e, dn_star]; simp
      · rw [dn_other _ _ e]; exact ih
    · rw [List.take_of_length_le (by omega)]
      rw [List.take_of_length_le (by omega)] at ih
      exact ih

theorem KS.starEmpty {w wr : World} {s pre suf : ByteArray} {i st : Nat} {a : Option Addr} {m c : Nat} {ms : List ByteArray} (h : KS w wr s.data.toList pre suf i st a m c ms) (hne : dn (s.data.toList.take i) ≠ []) (hi : i < s.size) (hc : s[i] = 42) (he : st = i) : KS w wr s.data.toList pre suf (i + 1) (i + 1) a m c ms :=
  { h with
    eq := by
      have h0 : cu (s.data.toList.take i) = [] := List.eq_nil_of_length_eq_zero (by have := h.st; omega)
      rw [take_snoc s i hi, hc, dn_star, tail_snoc hne, List.filter_append, h0]; simpa using h.eq
    st := by rw [take_snoc s i hi, hc, cu_star]; simp
    bd := by have := h.bd; omega }

theorem KS.start (w : World) (l : List UInt8) (pre suf : ByteArray) (f : Nat) (x : List UInt8) (h1 : dn (l.take (f + 1)) = [x]) (h2 : cu (l.take (f + 1)) = []) :
    KS w ((w.alloc (.cells #[.string ⟨#[]⟩, .string ⟨#[]⟩, .slice none 0 0] 33)).alloc (.cells #[.string pre, .string suf, .slice none 0 0] 33)).drew l pre suf (f + 1) (f + 1) none 0 0 [] where
  bl := (((Below.refl _ _).alloc (Nat.le_refl _) _).alloc (by simp) _).drew
  res := (hOld _ _ _ (by simp)).trans (hNew _ _)
  key := by
    have h := hNew (w.alloc (.cells #[.string ⟨#[]⟩, .string ⟨#[]⟩, .slice none 0 0] 33)) (.cells #[.string pre, .string suf, .slice none 0 0] 33)
    rw [show (w.alloc (.cells #[.string ⟨#[]⟩, .string ⟨#[]⟩, .slice none 0 0] 33)).heap.size = w.heap.size + 1 from by simp] at h
    exact h
  own := World.ownsRow_nil _ _ _ _
  len := rfl
  eq := by rw [h1]; rfl
  st := by rw [h2]; rfl
  bd := Nat.zero_le _

theorem hide4 {p : Prop} (h : p) : Hid p := h

theorem cu_slice (s : ByteArray) (i st : Nat) (hi : i ≤ s.size) (h : st + (cu (s.data.toList.take i)).length = i) : (s.extract st i).data.toList = cu (s.data.toList.take i) := by
  have h1 := (cu_tail (s.data.toList.take i)).2
  have hl : (s.data.toList.take i).length = i := by simp; omega
  rw [hl, show i - (cu (s.data.toList.take i)).length = st from by omega] at h1
  rw [← h1, Lib.extract_data, List.drop_take]

theorem KS.piece {w wr w4 : World} {s pre suf : ByteArray} {i st : Nat} {a : Option Addr} {m c : Nat} {ms : List ByteArray} {v' : Value} (h : KS w wr s.data.toList pre suf i st a m c ms) (hne : dn (s.data.toList.take i) ≠ []) (hi : i < s.size) (hc : s[i] = 42) (hgt : st < i)
    (own4 : w4.ownsRow (w.heap.size + 2) 9 1 v' (m + 1) (ms.map Value.string ++ [.string (s.extract st i)])) (gr4 : (wr.alloc (.cells #[.string (s.extract st i)] 9)).drew.grownBy w4 (Value.slice a m c).ownBlock) :
    ∃ g cap, v' = .slice (some ⟨g, 0, none⟩) (m + 1) cap ∧ w4.cell? ⟨w.heap.size + 1, 2, none⟩ = some (.slice a m c) ∧ w4.frozen? ⟨w.heap.size + 1, 2, none⟩ = false ∧
      KS w (w4.setCell ⟨w.heap.size + 1, 2, none⟩ v') s.data.toList pre suf (i + 1) (i + 1) (some ⟨g, 0, none⟩) (m + 1) cap (ms ++ [s.extract st i]) := by
  have hblk : ∀ k, k < w.heap.size + 2 → w4.heap[k]? = wr.heap[k]? := fun k hk => by
    have hkw : k < wr.heap.size := by have := (Array.getElem?_eq_some_iff.1 h.key).1; omega
    rw [gr4.block k (by show k < (wr.alloc _).heap.size; simp; omega) (fun e => by have := (h.own.lt k e.symm).1; omega)]
    exact hOld _ _ _ hkw
  have hkey := (hblk (w.heap.size + 1) (by omega)).trans h.key
  have hcu := cu_slice s i st (by omega) h.st
  have hne2 : (s.extract st i).data.toList.isEmpty = false := by
    rw [hcu]
    cases hcc : cu (s.data.toList.take i) with
    | nil => have := h.st; rw [hcc] at this; simp at this; omega
    | cons x y => rfl
  rcases own4.2 with ⟨_, h0⟩ | ⟨g, cap, cur, e, hb, hg, _⟩
  · omega
  · refine ⟨g, cap, e, cell_plain hkey 2, frozen_plain hkey 2, ?_⟩
    subst e
    have hgl := (own4.lt g rfl).1
    exact
      { bl := h.bl.trans (⟨gr4.os, gr4.tape, gr4.output, by have := gr4.size; simp at this; show _ ≤ (w4.heap.modify _ _).size; simp; have : wr.heap.size ≤ w4.heap.size := Nat.le_trans (by show wr.heap.size ≤ (wr.alloc _).heap.size; simp) gr4.size; exact this, fun k hk => by rw [heap_setCell_other _ _ _ _ (by show k ≠ w.heap.size + 1; omega), hblk k (by omega)]⟩)
        res := by rw [heap_setCell_other _ _ _ _ (by show w.heap.size ≠ w.heap.size + 1; omega), hblk _ (by omega)]; exact h.res
        key := by rw [heap_setCell_same _ _ _ _ _ _ hkey]; rfl
        own := by
          rw [List.map_append]
          exact ownsRow_of_block own4 fun k e => by cases e; exact heap_setCell_other _ _ _ _ (by show g ≠ w.heap.size + 1; omega)
        len := by simp [h.len]
        eq := by
          rw [take_snoc s i hi, hc, dn_star, tail_snoc hne, List.filter_append, List.map_append, h.eq, ← hcu]
          simp only [List.map_cons, List.map_nil, List.filter_cons, hne2, Bool.not_false, if_true, List.filter_nil]
        st := by rw [take_snoc s i hi, hc, cu_star]; simp
        bd := by have := h.bd; omega }

theorem ownsRow_lower {w : World} {b b' : Nat} {e : TypeId} {size : Nat} {v : Value} {n : Nat} {xs : List Value} (h : w.ownsRow b e size v n xs) (hb : b' ≤ b) : w.ownsRow b' e size v n xs := by
  refine ⟨h.1, ?_⟩
  rcases h.2 with hn | ⟨g, cap, cur, rfl, h1, rest⟩
  · exact .inl hn
  · exact .inr ⟨g, cap, cur, rfl, Nat.le_trans hb h1, rest⟩

theorem KS.ended {w wr : World} {s pre suf : ByteArray} {l : List UInt8} {f la st : Nat} {a : Option Addr} {m c : Nat} {ms : List ByteArray} (h : KS w wr l pre suf (la + 1) st a m c ms) (hl : l = s.data.toList) (hd : dn s.data.toList ≠ []) (hf : f = ((dn s.data.toList).headD []).length) (hla : la + 1 + (cu s.data.toList).length = s.size) :
    KeyEnd s w (.returned (.agg #[.string (s.extract 0 f), .string (s.extract (la + 1) s.size), .slice a m c])) (((wr.setCell ⟨w.heap.size, 0, none⟩ (.string pre)).setCell ⟨w.heap.size, 1, none⟩ (.string suf)).setCell ⟨w.heap.size, 2, none⟩ (.slice a m c)) := by
  subst hl
  have hsz : s.data.toList.length = s.size := by simp
  have e1 : s.data.toList.length - (cu s.data.toList).length = la + 1 := by omega
  refine ⟨_, _, a, m, c, ms, rfl, ((h.bl.setCell (Nat.le_refl _) _).setCell (Nat.le_refl _) _).setCell (Nat.le_refl _) _, h.len, ?_, ?_, ?_, ?_⟩
  · rw [Lib.extract_data, hf]
    simpa using (head_take _ hd).2
  · rw [Lib.extract_data]
    have h2 := (cu_tail s.data.toList).2
    rw [e1] at h2
    rw [h2]
    exact List.take_of_length_le (by omega)
  · rw [h.eq]
    have h3 := dn_upto s.data.toList
    rw [e1] at h3
    rw [h3]
    rfl
  · refine ownsRow_lower (ownsRow_of_block h.own fun k e => ?_) (by omega : w.heap.size ≤ w.heap.size + 2)
    have hk := (h.own.lt k e).1
    rw [heap_setCell_other _ _ _ _ (by show k ≠ w.heap.size; omega), heap_setCell_other _ _ _ _ (by show k ≠ w.heap.size; omega), heap_setCell_other _ _ _ _ (by show k ≠ w.heap.size; omega)]

set_option maxHeartbeats 1000000 in
theorem keyOf_any (s : ByteArray) (w : World) (hs : s.size ≤ 1048576) (hst : hasStar s.data.toList = true) :
    Calls Tryd.prog 10 #[.string s] w fun e w' => KeyEnd s w e w' := by
  have HST : Hid _ := star_dn s hst
  clear hst
  go_enter Tryd.func10, Tryd.ntmps10
  go_wp2
  go_loop [3, 4, 5] (fun f la i => ∃ k : Nat, k ≤ s.size ∧ i = .int .i64 k ∧ f = .int .i64 (fstI (s.data.toList.take k)) ∧ la = .int .i64 (lstI (s.data.toList.take k))) (fun _ _ i => s.size - (intOf i).toNat)
  case atStart => exact ⟨0, Nat.zero_le _, rfl, rfl, rfl⟩
  case round =>
    obtain ⟨k, hk, rfl, rfl, rfl⟩ := hrel
    by_cases hlt : k < s.size
    · have hts := take_snoc s k hlt
      have hln : (s.data.toList.take k).length = k := by rw [List.length_take, Array.length_toList]; show min k s.size = k; omega
      have HF1 : Hid ((((s[k].toNat : Int) == 42) = true → fstI (s.data.toList.take (k + 1)) = if fstI (s.data.toList.take k) < 0 then (k : Int) else fstI (s.data.toList.take k))) := fun h => by
        rw [hts, star_of _ h, fst_star, hln]
      have HF2 : Hid ((((s[k].toNat : Int) == 42) = true → lstI (s.data.toList.take (k + 1)) = (k : Int))) := fun h => by
        rw [hts, star_of _ h, lst_star, hln]
      have HF3 : Hid ((((s[k].toNat : Int) == 42) = false → fstI (s.data.toList.take (k + 1)) = fstI (s.data.toList.take k))) := fun h => by
        rw [hts, fst_other _ _ (other_of _ h)]
      have HF4 : Hid ((((s[k].toNat : Int) == 42) = false → lstI (s.data.toList.take (k + 1)) = lstI (s.data.toList.take k))) := fun h => by
        rw [hts, lst_other _ _ (other_of _ h)]
      clear hts hln
      generalize fstI (s.data.toList.take k) = f0 at HF1 HF3 ⊢
      generalize lstI (s.data.toList.take k) = l0 at HF4 ⊢
      go_wp2
      · go_round
        case rel => exact ⟨k + 1, by omega, by go_num, int_eq (by rw [HF1.out (by assumption), if_pos (by assumption)]), int_eq (by rw [HF2.out (by assumption)])⟩
        case measure => simp [intOf]; omega
      · go_round
        case rel => exact ⟨k + 1, by omega, by go_num, int_eq (by rw [HF1.out (by assumption), if_neg (by omega)]), int_eq (by rw [HF2.out (by assumption)])⟩
        case measure => simp [intOf]; omega
      · go_round
        case rel => exact ⟨k + 1, by omega, by go_num, int_eq (by rw [HF3.out (by assumption)]), int_eq (by rw [HF4.out (by assumption)])⟩
        case measure => simp [intOf]; omega
    · have htk : s.data.toList.take k = s.data.toList := List.take_of_length_le (by rw [Array.length_toList]; show s.size ≤ k; omega)
      have hsz : s.data.toList.length = s.size := by simp
      obtain ⟨f, hf⟩ : ∃ f, f = ((dn s.data.toList).headD []).length := ⟨_, rfl⟩
      obtain ⟨la, hla⟩ : ∃ la, la + 1 + (cu s.data.toList).length = s.size := ⟨s.size - 1 - (cu s.data.toList).length, by have := cu_lt _ HST.out; rw [hsz] at this; omega⟩
      have hfl : f ≤ la := by have := (head_take _ HST.out).1; rw [hsz] at this; omega
      have hls : la < s.size := by omega
      have e1 : fstI (s.data.toList.take k) = (f : Int) := by rw [htk]; unfold fstI; rw [if_neg HST.out, hf]
      have e2 : lstI (s.data.toList.take k) = (la : Int) := by
        rw [htk]; unfold lstI; rw [if_neg HST.out, hsz]; omega
      rw [e1, e2]
      have HF : Hid _ := hf
      have HLA : Hid _ := hla
      have hfs : (f : Int) ≤ (s.size : Int) := by omega
      have hl1 : (la : Int) + 1 ≤ (s.size : Int) := by omega
      clear e1 e2 hf hla htk hsz
      go_wp2
      go_region
      go_wp2
      have HK0 : Hid (KS w ((w.alloc (.cells #[.string ⟨#[]⟩, .string ⟨#[]⟩, .slice none 0 0] 33)).alloc (.cells #[.string (s.extract 0 f), .string (s.extract (la + 1) s.size), .slice none 0 0] 33)).drew s.data.toList (s.extract 0 f) (s.extract (la + 1) s.size) (f + 1) (f + 1) none 0 0 []) := by
        have hd := dn_first _ HST.out
        rw [← HF.out] at hd
        exact KS.start w _ _ _ f _ hd.1 hd.2
      have HNE : Hid (∀ i, f + 1 ≤ i → dn (s.data.toList.take i) ≠ []) := fun i hi => dn_mono _ _ _ hi (by rw [HF.out, (dn_first _ HST.out).1]; simp)
      go_loopw [7, 8] (fun sv iv wr => ∃ (i st : Nat) (a : Option Addr) (m c : Nat) (ms : List ByteArray), f + 1 ≤ i ∧ i ≤ la + 1 ∧ iv = .int .i64 i ∧ sv = .int .i64 st ∧ KS w wr s.data.toList (s.extract 0 f) (s.extract (la + 1) s.size) i st a m c ms) (fun _ iv _ => la + 1 - (intOf iv).toNat)
      case atStart => exact ⟨f + 1, f + 1, none, 0, 0, [], Nat.le_refl _, by omega, by go_num, by go_num, HK0.out⟩
      case round =>
        clear HK0
        obtain ⟨i, st, a, m, c, ms, hi1, hi2, rfl, rfl, hks⟩ := hrel
        have HKS : Hid _ := hks
        clear hks
        have hst : st ≤ i := by have := HKS.out.st; omega
        by_cases hlt2 : i ≤ la
        · have hlt3 : i < s.size := by omega
          have hc2 := cell_plain HKS.out.key 2
          have hfz := frozen_plain HKS.out.key 2
          have hc2 : wr.cell? ⟨w.heap.size + 1, 2, none⟩ = some (.slice a m c) := hc2
          rcases hb : ((s[i].toNat : Int) == 42)
          · have hks2 := HKS.out.other hlt3 (other_of _ hb)
            have HK2 : Hid _ := hks2
            clear hks2
            go_wp2
            go_roundw
            case rel => exact ⟨i + 1, st, a, m, c, ms, by omega, by omega, by go_num, rfl, HK2.out⟩
            case measure => simp [intOf]; omega
          · by_cases hgt : st < i
            · obtain ⟨i9, hi9, hz9, hy9, hb9⟩ := info_parts Tryd.info9
              have hx1 : (st : Int) ≤ (i : Int) := by omega
              have hx2 : (i : Int) ≤ (s.size : Int) := by omega
              have hsz : w.heap.size + 1 < wr.heap.size := (Array.getElem?_eq_some_iff.1 HKS.out.key).1
              have hmb : m ≤ 1048576 := by have := HKS.out.bd; omega
              go_wp2
              go_region_law (refine step_append_at rfl (.tmp 53) (.tmp 58) 22 rfl (w.heap.size + 2) 9 i9 (.string ByteArray.empty) 1 16 Tryd.underlying22 hi9 hz9 hy9 hb9 rfl (by decide) (.slice a m c) m (ms.map Value.string) (by simp [Act.eval]) ((HKS.out.own.alloc _).drew) ⟨wr.heap.size, 0, none⟩ 1 1 [.string (s.extract st i)] (by simp [Act.eval]) rfl (cell_one_new wr _ _) (one_str _) (by unfold maxLen; omega) (by omega) (by simp; omega) ?_; intro v' w4 own4 gr4; obtain ⟨g4, cap4, hv4, hc4, hf4, hk4⟩ := HKS.out.piece (HNE.out i hi1) hlt3 (star_of _ hb) hgt own4 gr4; rw [hv4] at hk4 ⊢; have HK4 := hide4 hk4; clear hv4 own4 gr4 hk4)
              all_goals
                go_wp2
                go_roundw
                case rel => exact ⟨i + 1, i + 1, _, _, _, _, by omega, by omega, by go_num, by go_num, HK4.out⟩
                case measure => simp [intOf]; omega
            · have hks2 := HKS.out.starEmpty (HNE.out i hi1) hlt3 (star_of _ hb) (by omega)
              have HK2 : Hid _ := hks2
              clear hks2
              go_wp2
              go_roundw
              case rel => exact ⟨i + 1, i + 1, a, m, c, ms, by omega, by omega, by go_num, by go_num, HK2.out⟩
              case measure => simp [intOf]; omega
        · obtain rfl : i = la + 1 := by omega
          have hk0 := cell_plain HKS.out.key 0
          have hk1 := cell_plain HKS.out.key 1
          have hk2 := cell_plain HKS.out.key 2
          have hr0 := cell_plain HKS.out.res 0
          have hr1 := cell_plain HKS.out.res 1
          have hr2 := cell_plain HKS.out.res 2
          have hf0 := frozen_plain HKS.out.res 0
          have hf1 := frozen_plain HKS.out.res 1
          have hf2 := frozen_plain HKS.out.res 2
          change wr.cell? _ = some (.string (s.extract 0 f)) at hk0
          change wr.cell? _ = some (.string (s.extract (la + 1) s.size)) at hk1
          change wr.cell? _ = some (.slice a m c) at hk2
          change wr.cell? _ = some (.string ⟨#[]⟩) at hr0
          change wr.cell? _ = some (.string ⟨#[]⟩) at hr1
          change wr.cell? _ = some (.slice none 0 0) at hr2
          have HKE := hide4 (HKS.out.ended (s := s) rfl HST.out HF.out HLA.out)
          go_wp2
          refine bodyPost_ret (v := .agg #[.string (s.extract 0 f), .string (s.extract (la + 1) s.size), .slice a m c]) ?_ rfl HKE.out
          simp [results, Tryd.results10, go_sem, hr0, hr1, hr2]
end Go.Proofs.Qxb6606410aDoor
