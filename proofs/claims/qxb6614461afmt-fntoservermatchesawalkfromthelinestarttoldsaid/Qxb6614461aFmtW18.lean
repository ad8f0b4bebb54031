import Derived.Test.Qxb6614461aFmtW17
namespace Go.Proofs.Qxb6614461aFmt
open Go.RowKit

/-- The marks, at some moment of zzBuild. -/
def Lain (w : World) (T sz cnt : Nat) (L : Nat → List (Nat × Nat × Nat)) : Prop :=
  (w.cell? ⟨T, 2, none⟩ = some (.map none) ∧ w.frozen? ⟨T, 2, none⟩ = false ∧ ∀ n, L n = []) ∨
  ∃ base mb nm D V, w.cell? ⟨T, 2, none⟩ = some (.map (some mb)) ∧ MK w base mb nm D V L ∧ sz ≤ mb ∧ base ≤ w.heap.size ∧ nm ≤ cnt

/-- zzBuild's memory, at some moment. -/
structure BI (w3 w : World) (T cnt : Nat) (bs : ByteArray) (L : Nat → List (Nat × Nat × Nat)) : Prop where
  size : w3.heap.size ≤ w.heap.size
  os : w.os = w3.os
  tape : w.tape = w3.tape
  output : w.output = w3.output
  blk : ∀ k, k < w3.heap.size → k ≠ T → w.heap[k]? = w3.heap[k]?
  t0 : w.cell? ⟨T, 0, none⟩ = w3.cell? ⟨T, 0, none⟩
  t1 : w.cell? ⟨T, 1, none⟩ = w3.cell? ⟨T, 1, none⟩
  lain : Lain w T w3.heap.size cnt L
  len : ∀ n, (L n).length ≤ cnt
  ok : ∀ n s, s ∈ L n → go bs (lineN bs n).2 s.2.1 ((lineN bs n).1, 0) = some (s.1, s.2.2)

theorem BI.cell {w3 w : World} {T cnt : Nat} {bs : ByteArray} {L : Nat → List (Nat × Nat × Nat)} (h : BI w3 w T cnt bs L) {B j : Nat} {v : Value} (hB : B ≠ T) (hc : w3.cell? ⟨B, j, none⟩ = some v) : w.cell? ⟨B, j, none⟩ = some v := by
  have hl := World.block_lt_of_cell? _ _ hc
  rw [World.cell?_of_block (h.blk B hl hB)]
  exact hc

theorem BI.start (w : World) (T : Nat) (bs : ByteArray) (hT : w.cell? ⟨T, 2, none⟩ = some (.map none)) (hz : w.frozen? ⟨T, 2, none⟩ = false) : BI w w T 0 bs (fun _ => []) where
  size := Nat.le_refl _
  os := rfl
  tape := rfl
  output := rfl
  blk := fun _ _ _ => rfl
  t0 := rfl
  t1 := rfl
  lain := Or.inl ⟨hT, hz, fun _ => rfl⟩
  len := fun _ => Nat.le_refl _
  ok := fun _ _ h => by cases h

theorem upd_len {L : Nat → List (Nat × Nat × Nat)} {cnt n : Nat} {s : Nat × Nat × Nat} (h : ∀ m, (L m).length ≤ cnt) : ∀ m, (upd L n (L n ++ [s]) m).length ≤ cnt + 1 := fun m => by
  unfold upd
  split
  · simp
    exact h n
  · exact Nat.le_succ_of_le (h m)

theorem upd_ok {bs : ByteArray} {L : Nat → List (Nat × Nat × Nat)} {n : Nat} {s : Nat × Nat × Nat} (h : ∀ n s, s ∈ L n → go bs (lineN bs n).2 s.2.1 ((lineN bs n).1, 0) = some (s.1, s.2.2)) (hs : go bs (lineN bs n).2 s.2.1 ((lineN bs n).1, 0) = some (s.1, s.2.2)) :
    ∀ m r, r ∈ upd L n (L n ++ [s]) m → go bs (lineN bs m).2 r.2.1 ((lineN bs m).1, 0) = some (r.1, r.2.2) := fun m r hr => by
  unfold upd at hr
  split at hr
  · rename_i e
    subst e
    rcases List.mem_append.1 hr with h1 | h1
    · exact h _ _ h1
    · rw [List.mem_singleton.1 h1]
      exact hs
  · exact h _ _ hr

theorem BI.add {w3 w : World} {T cnt : Nat} {bs : ByteArray} {L : Nat → List (Nat × Nat × Nat)} (h : BI w3 w T cnt bs L) (hTs : T < w3.heap.size) (n off p u : Nat) (hn : n < 2147483648) (hcnt : cnt < 4294967296) (hgo : go bs (lineN bs n).2 p ((lineN bs n).1, 0) = some (off, u)) :
    Calls Tryf.prog 13 #[.pointer (some ⟨T, 0, none⟩), .int .i64 n, .int .i64 off, .int .i64 p, .int .i64 u] w fun e w' => e = .returned (.tuple #[]) ∧ ∃ L', BI w3 w' T (cnt + 1) bs L' := by
  have hsz := h.size
  rcases h.lain with ⟨h1, h2, h3⟩ | ⟨base, mb, nm, D, V, h1, h2, h3, h4, h5⟩
  · refine (addMark_first T n off p u w h1 h2 hn).mono ?_
    rintro e w' ⟨rfl, D', v', m1, m2, m3, m4, m5, m6⟩
    have eT : ∀ j, w'.cell? ⟨T, j, none⟩ = (w.setCell ⟨T, 2, none⟩ (.map (some w.heap.size))).cell? ⟨T, j, none⟩ := fun j => World.cell?_of_block (m6 T (by omega))
    refine ⟨rfl, upd (fun _ => []) n [(off, p, u)], by omega, m3.trans h.os, m4.trans h.tape, m5.trans h.output, ?_, ?_, ?_, ?_, ?_, ?_⟩
    · intro k hk hne
      rw [m6 k (by omega), Below.heap_setCell _ _ _ _ hne]
      exact h.blk k hk hne
    · exact (eT _).trans ((World.cell?_setCell_other _ _ _ _ (by simp)).trans h.t0)
    · exact (eT _).trans ((World.cell?_setCell_other _ _ _ _ (by simp)).trans h.t1)
    · refine Or.inr ⟨_, _, _, _, _, ?_, m1, hsz, by omega, by omega⟩
      rw [eT]
      exact World.cell?_setCell_same' _ _ _ (by rw [h1]; rfl)
    · have := upd_len (L := fun _ => []) (cnt := cnt) (n := n) (s := (off, p, u)) (fun _ => Nat.zero_le _)
      exact this
    · exact upd_ok (L := fun _ => []) (s := (off, p, u)) (fun _ _ h => by cases h) hgo
  · have hlo := h2.lo
    refine (addMark_on T base mb nm n off p u D V L w h1 h2 hn (by omega) (by have := h.len n; omega) h4 (by omega)).mono ?_
    rintro e w' ⟨rfl, nm', D', v', rfl, m1, m2, m3, m4, m5, m6⟩
    have eT : w'.heap[T]? = w.heap[T]? := m6 T (by omega) (by omega) (by omega)
    refine ⟨rfl, _, by omega, m3.trans h.os, m4.trans h.tape, m5.trans h.output, ?_, ?_, ?_, ?_, upd_len h.len, upd_ok (s := (off, p, u)) h.ok hgo⟩
    · intro k hk hne
      rw [m6 k (by omega) (by omega) (by omega)]
      exact h.blk k hk hne
    · rw [World.cell?_of_block eT]
      exact h.t0
    · rw [World.cell?_of_block eT]
      exact h.t1
    · refine Or.inr ⟨_, _, _, _, _, ?_, m1, h3, by omega, by omega⟩
      rw [World.cell?_of_block eT]
      exact h1

theorem cells3_get (l : List (Nat × Nat × Nat)) (i : Nat) (h : i < l.length) : (cells3 l)[i * 3]? = some (iv (l.getD i (0, 0, 0)).1) ∧ (cells3 l)[i * 3 + 1]? = some (iv (l.getD i (0, 0, 0)).2.1) ∧ (cells3 l)[i * 3 + 2]? = some (iv (l.getD i (0, 0, 0)).2.2) := by
  induction l generalizing i with
  | nil => simp at h
  | cons p ls ih =>
    have e : cells3 (p :: ls) = iv p.1 :: iv p.2.1 :: iv p.2.2 :: cells3 ls := by simp [cells3]
    rw [e]
    match i with
    | 0 => simp
    | i + 1 =>
      have := ih i (by simpa using h)
      rw [show (i + 1) * 3 = i * 3 + 1 + 1 + 1 by omega]
      simpa using this

theorem BI.near {w3 w : World} {T cnt : Nat} {bs : ByteArray} {L : Nat → List (Nat × Nat × Nat)} (h : BI w3 w T cnt bs L) (hbs : bs.size < 1073741823) (hcnt : cnt < 4294967296) : NearOk w T bs := by
  intro n col X w' hn hc hb hX
  have hlo := (lines_ok bs).1
  rcases h.lain with ⟨h1, _, h3⟩ | ⟨base, mb, nm, D, V, h1, h2, h3, h4, h5⟩
  · refine (nearest_nil T X n _ _ (.map none) w' ((hb.cell (World.block_lt_of_cell? _ _ h1)).trans h1) (fun w2 _ => nil_lookup n w2)).mono ?_
    rintro e w2 ⟨rfl, hb2⟩
    exact ⟨(lineN bs n).1, 0, 0, rfl, hb2, by omega, rfl⟩
  · have hm' := (hb.cell (World.block_lt_of_cell? _ _ h1)).trans h1
    have hn31 : n < 2147483648 := by omega
    have hk' : MK w' base mb nm D V L := h2.step (fun k _ hk => hb.block k hk)
    obtain ⟨ps, hv⟩ := hk'.val n hn31
    have hfind : ∀ w2, Below w'.heap.size w' w2 → (Instr.lookup 54 (.map (some mb)) (.int .i64 n) false).run Tryf.prog w2 = .ok (V n) w2 := fun w2 hb2 => (hk'.step (fun k _ hk => hb2.block k hk)).find n hn31
    have hrow := hk'.row n
    rcases Rs_form hv with ⟨e, _⟩ | ⟨g, m, c, e, _⟩
    · rw [e] at hfind
      refine (nearest_nil T X n _ _ (.map (some mb)) w' hm' hfind).mono ?_
      rintro e w2 ⟨rfl, hb2⟩
      exact ⟨(lineN bs n).1, 0, 0, rfl, hb2, by omega, rfl⟩
    · rw [e] at hfind hrow
      have hm : m = (L n).length := by
        rcases hrow.2 with ⟨h0, _⟩ | ⟨g', cap, cur, e', _⟩
        · cases h0
        · cases e'
          rfl
      have hlen := h.len n
      have hcs := hrow.cells (g := g) rfl
      refine (nearest_some T X g m c n _ _ col (.map (some mb)) (fun i => (((L n).getD i (0, 0, 0)).1 : Nat)) (fun i => (((L n).getD i (0, 0, 0)).2.1 : Nat)) (fun i => (((L n).getD i (0, 0, 0)).2.2 : Nat)) w' hm' hX (by omega) hfind ?_).mono ?_
      · intro i hi
        obtain ⟨g1, g2, g3⟩ := cells3_get (L n) i (by omega)
        have k1 := hcs _ _ g1
        have k2 := hcs _ _ g2
        have k3 := hcs _ _ g3
        rw [addr_add] at k1 k2 k3
        exact ⟨k1, k2, k3⟩
      · rintro e w2 ⟨off, p, u, rfl, hb2, ⟨rfl, rfl, rfl⟩ | ⟨i, hi, rfl, rfl, rfl, hlt⟩⟩
        · exact ⟨(lineN bs n).1, 0, 0, rfl, hb2, by omega, rfl⟩
        · have hmem : (L n).getD i (0, 0, 0) ∈ L n := by
            rw [List.getD_eq_getElem?_getD, List.getElem?_eq_getElem (by omega)]
            exact List.getElem_mem _
          exact ⟨_, _, _, rfl, hb2, by omega, h.ok n _ hmem⟩

theorem BI.text {w3 w : World} {T cnt : Nat} {bs : ByteArray} {L : Nat → List (Nat × Nat × Nat)} {B cp LB lc : Nat} {mv : Value} (h : BI w3 w T cnt bs L) (ht : TextAt w3 T bs B cp LB lc mv) (hLB : LB ≠ T) : ∃ mv', TextAt w T bs B cp LB lc mv' := by
  obtain ⟨mv', h2⟩ : ∃ mv', w.cell? ⟨T, 2, none⟩ = some mv' := by
    rcases h.lain with ⟨h1, _⟩ | ⟨_, _, _, _, _, h1, _⟩
    · exact ⟨_, h1⟩
    · exact ⟨_, h1⟩
  exact ⟨mv', h.t0.trans ht.t0, h.t1.trans ht.t1, h2, fun n hn => ⟨h.cell hLB (ht.ln n hn).1, h.cell hLB (ht.ln n hn).2⟩⟩
end Go.Proofs.Qxb6614461aFmt
