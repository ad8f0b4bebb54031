/-
  What the steps of 'add' do to the set in memory. No Go text here.
-/
import Derived.Test.Qxb6606410aDoorHeap
import Derived.Lib.Bytealg
namespace Go.Proofs.Qxb6606410aDoor
open Go.RowKit

/-! ### Lists -/
theorem lookup_none {l : List UInt8} {ks : List Nat} {c : UInt8} (h : c ∉ l) : (l.zip ks).lookup c = none := by
  induction l generalizing ks with
  | nil => rfl
  | cons b l ih =>
    cases ks with
    | nil => rfl
    | cons k ks =>
      have hb : (c == b) = false := by rw [beq_eq_false_iff_ne]; intro e; exact h (by simp [e])
      simp only [List.zip_cons_cons, List.lookup_cons, hb]
      exact ih (fun m => h (List.mem_cons_of_mem _ m))

theorem index_cases (l : List UInt8) (c : UInt8) : (Lib.indexByte l c = -1 ∧ c ∉ l) ∨ (∃ i : Nat, Lib.indexByte l c = (i : Int) ∧ i < l.length ∧ ∀ ks : List Nat, ks.length = l.length → (l.zip ks).lookup c = ks[i]?) := by
  induction l with
  | nil => exact .inl ⟨rfl, by simp⟩
  | cons b l ih =>
    by_cases e : b = c
    · subst e
      refine .inr ⟨0, by simp [Lib.indexByte], by simp, fun ks hk => ?_⟩
      cases ks with
      | nil => simp at hk
      | cons k ks => simp
    · have e1 : (b == c) = false := by simpa using e
      have e2 : (c == b) = false := by rw [beq_eq_false_iff_ne]; exact fun h => e h.symm
      rcases ih with ⟨h1, h2⟩ | ⟨i, h1, h2, h3⟩
      · refine .inl ⟨by simp [Lib.indexByte, e1, h1], ?_⟩
        intro m
        rcases List.mem_cons.1 m with m | m
        · exact e m.symm
        · exact h2 m
      · have h4 : ((i : Int) == -1) = false := by rw [beq_eq_false_iff_ne]; omega
        refine .inr ⟨i + 1, ?_, by simp; omega, fun ks hk => ?_⟩
        · rw [Lib.indexByte, e1, h1, h4]; simp
        · cases ks with
          | nil => simp at hk
          | cons k ks =>
            simp only [List.zip_cons_cons, List.lookup_cons, e2, List.getElem?_cons_succ]
            exact h3 ks (by simpa using hk)

theorem edge_snoc (r r' : Node) (c : UInt8) (nb : Nat) (hl : r.kids.length = r.lead.length) (hc : c ∉ r.lead) (h1 : r'.lead = r.lead ++ [c]) (h2 : r'.kids = r.kids ++ [nb]) (h3 : r'.val = r.val) :
    ∀ y, r'.edge y = if y = some c then some nb else r.edge y := by
  intro y
  cases y with
  | none => simp [Node.edge, h3]
  | some d =>
    simp only [Node.edge, h1, h2]
    rw [List.zip_append hl.symm, List.lookup_append]
    by_cases e : d = c
    · subst e
      rw [lookup_none hc]
      simp
    · have e' : ¬ (some d = some c) := by simpa using e
      have e2 : (d == c) = false := by simpa using e
      simp [e, e2, List.lookup_cons]

theorem edge_val (r r' : Node) (nb : Nat) (h1 : r'.lead = r.lead) (h2 : r'.kids = r.kids) (h3 : r'.val = some nb) :
    ∀ y, r'.edge y = if y = none then some nb else r.edge y := by
  intro y
  cases y with
  | none => simp [Node.edge, h3]
  | some d => simp [Node.edge, h1, h2]

theorem nodup_lt : ∀ (n : Nat) (l : List Nat), l.Nodup → (∀ x ∈ l, x < n) → l.length ≤ n
  | 0, l, _, h => by
    cases l with
    | nil => simp
    | cons a l => exact absurd (h a (by simp)) (by omega)
  | n + 1, l, hn, h => by
    have h1 : (l.erase n).length ≤ n := nodup_lt n (l.erase n) (hn.erase n) fun x hx => by
      have h2 := h x (List.mem_of_mem_erase hx)
      have h3 : x ≠ n := fun e => by subst e; exact hn.not_mem_erase hx
      omega
    by_cases m : n ∈ l
    · have := List.length_erase_of_mem m
      omega
    · rw [List.erase_of_not_mem m] at h1; omega

theorem nodup_nats : ∀ (l : List UInt8), l.Nodup → (l.map (·.toNat)).Nodup
  | [], _ => by simp
  | c :: l, h => by
    rw [List.nodup_cons] at h
    rw [List.map_cons, List.nodup_cons]
    refine ⟨fun m => ?_, nodup_nats l h.2⟩
    obtain ⟨d, hd, e⟩ := List.mem_map.1 m
    exact h.1 (UInt8.toNat_inj.1 e ▸ hd)

theorem nodup_len (l : List UInt8) (h : l.Nodup) : l.length ≤ 256 := by
  have h3 : ∀ x ∈ l.map (·.toNat), x < 256 := by
    intro x hx
    obtain ⟨c, _, rfl⟩ := List.mem_map.1 hx
    exact c.toNat_lt
  simpa using nodup_lt 256 _ (nodup_nats l h) h3

theorem cell_of {w w' : World} {b : Nat} (h : w'.heap[b]? = w.heap[b]?) (o : Nat) : w'.cell? ⟨b, o, none⟩ = w.cell? ⟨b, o, none⟩ := World.cell?_of_block (w := w) h
theorem frozen_of {w w' : World} {b : Nat} (h : w'.heap[b]? = w.heap[b]?) (o : Nat) : w'.frozen? ⟨b, o, none⟩ = w.frozen? ⟨b, o, none⟩ := World.frozen?_of_block (w := w) h

theorem cell_set_ne (w : World) (b o1 o2 : Nat) (v : Value) (h : o1 ≠ o2) : (w.setCell ⟨b, o1, none⟩ v).cell? ⟨b, o2, none⟩ = w.cell? ⟨b, o2, none⟩ :=
  World.cell?_setCell_other _ _ _ _ (by intro e; injection e with _ e2; exact h e2)
theorem cell_set_eq {w : World} {a : Addr} {u v : Value} (h : w.cell? a = some u) : (w.setCell a v).cell? a = some v := World.cell?_setCell_same _ _ _ h
theorem hOld (w : World) (o : Obj) (k : Nat) (h : k < w.heap.size) : (w.alloc o).heap[k]? = w.heap[k]? := Below.heap_alloc w o k h
theorem hNew (w : World) (o : Obj) : (w.alloc o).heap[w.heap.size]? = some o := by show (w.heap.push o)[w.heap.size]? = _; simp

/-- What 'Nodup' of a node's blocks says, piece by piece. -/
structure Apart (r : Node) : Prop where
  bl : r.b ∉ blk r.la
  bn : r.b ∉ blk r.na
  bp : r.b ∉ r.pn.toList
  ln : ∀ k, k ∈ blk r.la → k ∉ blk r.na
  lp : ∀ k, k ∈ blk r.la → k ∉ r.pn.toList
  np : ∀ k, k ∈ blk r.na → k ∉ r.pn.toList

theorem nodup_toList {α : Type} (o : Option α) : o.toList.Nodup := by cases o <;> simp

theorem apart_iff (r : Node) : r.blocks.Nodup ↔ Apart r := by
  unfold Node.blocks
  rw [List.nodup_cons, List.nodup_append, List.nodup_append]
  constructor
  · rintro ⟨h1, ⟨_, _, h4⟩, _, h6⟩
    simp only [List.mem_append, not_or] at h1
    refine ⟨h1.1.1, h1.1.2, h1.2, fun k a b => h4 k a k b rfl, fun k a b => h6 k (by simp [a]) k b rfl, fun k a b => h6 k (by simp [a]) k b rfl⟩
  · intro h
    refine ⟨by simp only [List.mem_append, not_or]; exact ⟨⟨h.bl, h.bn⟩, h.bp⟩, ⟨nodup_toList _, nodup_toList _, ?_⟩, nodup_toList _, ?_⟩
    · intro a ha b hb e; subst e; exact h.ln a ha hb
    · intro a ha b hb e; subst e
      rcases List.mem_append.1 ha with m | m
      · exact h.lp a m hb
      · exact h.np a m hb

theorem mem_blocks {r : Node} {k : Nat} : k ∈ r.blocks ↔ k = r.b ∨ k ∈ blk r.la ∨ k ∈ blk r.na ∨ k ∈ r.pn.toList := by
  unfold Node.blocks
  simp only [List.mem_cons, List.mem_append, or_assoc]

theorem frozen_plain {w : World} {b : Nat} {cs : Array Value} {t : TypeId} (h : w.heap[b]? = some (.cells cs t)) (o : Nat) : w.frozen? ⟨b, o, none⟩ = false := by
  simp [World.frozen?, h]
theorem cell_plain {w : World} {b : Nat} {cs : Array Value} {t : TypeId} (h : w.heap[b]? = some (.cells cs t)) (o : Nat) : w.cell? ⟨b, o, none⟩ = cs[o]? := by
  simp [World.cell?, h]

theorem top_some (c : UInt8) (p : Path) : kt (some c :: p) = kt p := by simp [kt, top]

/-- A trie just made, three zero cells from 'off' on. -/
theorem leaf_ok {w : World} {q : Path} {nb : Nat} {cs : Array Value} {t : TypeId} (h : w.heap[nb]? = some (.cells cs t)) (h0 : cs[offOf q]? = some (.pointer none)) (h1 : cs[offOf q + 1]? = some (.slice none 0 0)) (h2 : cs[offOf q + 2]? = some (.slice none 0 0))
    (hm : offOf q = 1 → (∃ s, cs[0]? = some (.string s)) ∧ cs[4]? = some (.pointer none)) : NodeOk w q (leaf nb) where
  val := (cell_plain h _).trans h0
  lead := (cell_plain h _).trans h1
  leadRow := World.ownsRow_nil _ _ _ _
  next := (cell_plain h _).trans h2
  nextRow := World.ownsRow_nil _ _ _ _
  len := rfl
  nodup := by simp [leaf]
  fz := frozen_plain h
  mid := fun e => by obtain ⟨⟨s, a⟩, b⟩ := hm e; exact ⟨⟨s, (cell_plain h _).trans a⟩, (cell_plain h _).trans b⟩
  noMid := fun _ => rfl
  node := fun k e => by cases e

/-- Behind 'child = &trie{}; t.lead = append(t.lead, b)': the cells that the next statement asks for. -/
theorem lead_grown {w W3 : World} {g B : Nat} {T : Tri} {p : Path} {r : Node} {c : UInt8} {t0 : TypeId} (hI : Inv w g B T) (hp : T p = some r)
    (gr1 : ((w.alloc (.cells #[.pointer none, .slice none 0 0, .slice none 0 0] t0)).alloc (.cells #[bv c] 5)).grownBy W3 (r.la.map (·.block))) :
    (∀ k, k < w.heap.size → k ∉ blk r.la → W3.heap[k]? = w.heap[k]?) ∧ W3.heap[w.heap.size]? = some (.cells #[.pointer none, .slice none 0 0, .slice none 0 0] t0) ∧ w.heap.size + 2 ≤ W3.heap.size ∧
    (∀ o, W3.cell? ⟨r.b, o, none⟩ = w.cell? ⟨r.b, o, none⟩) ∧ (∀ o, W3.frozen? ⟨r.b, o, none⟩ = false) ∧ r.b < w.heap.size ∧ W3.os = w.os ∧ W3.tape = w.tape ∧ W3.output = w.output := by
  have hap := (apart_iff r).1 (hI.self p r hp)
  have hbs := (hI.lo p r r.b hp (mem_blocks.2 (.inl rfl))).2
  have hk : ∀ k, k < w.heap.size → k ∉ blk r.la → W3.heap[k]? = w.heap[k]? := fun k hk hn => by
    have := gr1.block k (by simp; omega) (fun e => hn (mem_blk.2 e.symm))
    rw [this, hOld _ _ _ (by simp; omega), hOld _ _ _ hk]
  have hleaf : W3.heap[w.heap.size]? = some (.cells #[.pointer none, .slice none 0 0, .slice none 0 0] t0) := by
    have hne : some w.heap.size ≠ r.la.map (·.block) := fun e => by
      have := (hI.lo p r w.heap.size hp (mem_blocks.2 (.inr (.inl (mem_blk.2 e.symm))))).2; omega
    rw [gr1.block w.heap.size (by simp; omega) hne, hOld _ _ _ (by simp), hNew]
  have hsz : w.heap.size + 2 ≤ W3.heap.size := by have := gr1.size; simp at this; omega
  exact ⟨hk, hleaf, hsz, fun o => cell_of (hk r.b hbs hap.bl) o, fun o => (frozen_of (hk r.b hbs hap.bl) o).trans ((hI.ok p r hp).fz o), hbs, gr1.os, gr1.tape, gr1.output⟩

/-- The whole step: a new trie stands under the byte c. -/
theorem child_added {w W3 W6 : World} {g B : Nat} {T : Tri} {p : Path} {r : Node} {c : UInt8} {t0 tk : TypeId} {g1 cap1 g2 cap2 : Nat} (hI : Inv w g B T) (hB : B ≤ w.heap.size) (hp : T p = some r) (hc : c ∉ r.lead) (htk : tk = kt p)
    (own1 : W3.ownsRow 0 5 1 (.slice (some ⟨g1, 0, none⟩) (r.lead.length + 1) cap1) (r.lead.length + 1) (r.lead.map bv ++ [bv c]))
    (gr1 : ((w.alloc (.cells #[.pointer none, .slice none 0 0, .slice none 0 0] t0)).alloc (.cells #[bv c] 5)).grownBy W3 (r.la.map (·.block)))
    (at1 : some g1 = r.la.map (·.block) ∨ g1 = w.heap.size + 2)
    (own2 : W6.ownsRow 0 tk 1 (.slice (some ⟨g2, 0, none⟩) (r.kids.length + 1) cap2) (r.kids.length + 1) (r.kids.map pv ++ [pv w.heap.size]))
    (gr2 : ((W3.setCell ⟨r.b, offOf p + 1, none⟩ (.slice (some ⟨g1, 0, none⟩) (r.lead.length + 1) cap1)).alloc (.cells #[pv w.heap.size] tk)).grownBy W6 (r.na.map (·.block)))
    (at2 : some g2 = r.na.map (·.block) ∨ g2 = W3.heap.size + 1) :
    ∃ T', Inv (W6.setCell ⟨r.b, offOf p + 2, none⟩ (.slice (some ⟨g2, 0, none⟩) (r.kids.length + 1) cap2)) g B T' ∧
      Fr w (W6.setCell ⟨r.b, offOf p + 2, none⟩ (.slice (some ⟨g2, 0, none⟩) (r.kids.length + 1) cap2)) T T' ∧ T' (some c :: p) = some (leaf w.heap.size) := by
  subst htk
  have hN := hI.ok p r hp
  have hap := (apart_iff r).1 (hI.self p r hp)
  obtain ⟨k3, leaf3, size3, cell3, fz3, hbs, os3, tp3, ou3⟩ := lead_grown hI hp gr1
  have ltla : ∀ k, k ∈ blk r.la → k < w.heap.size := fun k m => (hI.lo p r k hp (mem_blocks.2 (.inr (.inl m)))).2
  have ltna : ∀ k, k ∈ blk r.na → k < w.heap.size := fun k m => (hI.lo p r k hp (mem_blocks.2 (.inr (.inr (.inl m))))).2
  have ltpn : ∀ k, k ∈ r.pn.toList → k < w.heap.size := fun k m => (hI.lo p r k hp (mem_blocks.2 (.inr (.inr (.inr m))))).2
  have a1 : g1 ∈ blk r.la ∨ g1 = w.heap.size + 2 := by
    rcases at1 with e | e
    · exact .inl (mem_blk.2 e.symm)
    · exact .inr e
  have a2 : g2 ∈ blk r.na ∨ g2 = W3.heap.size + 1 := by
    rcases at2 with e | e
    · exact .inl (mem_blk.2 e.symm)
    · exact .inr e
  have s3 : (W3.setCell ⟨r.b, offOf p + 1, none⟩ (.slice (some ⟨g1, 0, none⟩) (r.lead.length + 1) cap1)).heap.size = W3.heap.size := by simp
  have size6 : W3.heap.size + 1 ≤ W6.heap.size := by have := gr2.size; simp at this; omega
  have lt1 : g1 < W3.heap.size := (own1.lt g1 rfl).2
  have lt2 : g2 < W6.heap.size := (own2.lt g2 rfl).2
  -- old blocks in W6
  have k6 : ∀ k, k < W3.heap.size → k ≠ r.b → k ∉ blk r.na → W6.heap[k]? = W3.heap[k]? := fun k hk hne hn => by
    rw [gr2.block k (by simp; omega) (fun e => hn (mem_blk.2 e.symm)), hOld _ _ _ (by rw [s3]; exact hk), heap_setCell_other _ _ _ _ hne]
  have b6 : ∀ o, W6.cell? ⟨r.b, o, none⟩ = (W3.setCell ⟨r.b, offOf p + 1, none⟩ (.slice (some ⟨g1, 0, none⟩) (r.lead.length + 1) cap1)).cell? ⟨r.b, o, none⟩ := fun o =>
    cell_of (by rw [gr2.block r.b (by simp; omega) (fun e => hap.bn (mem_blk.2 e.symm)), hOld _ _ _ (by rw [s3]; omega)]) o
  have f6 : ∀ o, W6.frozen? ⟨r.b, o, none⟩ = false := fun o => by
    rw [frozen_of (w := W3.setCell ⟨r.b, offOf p + 1, none⟩ (.slice (some ⟨g1, 0, none⟩) (r.lead.length + 1) cap1)) (by rw [gr2.block r.b (by simp; omega) (fun e => hap.bn (mem_blk.2 e.symm)), hOld _ _ _ (by rw [s3]; omega)]) o, World.frozen?_setCell]
    exact fz3 o
  -- the cells of r's block, at the end
  have c7o : ∀ o, o ≠ offOf p + 1 → o ≠ offOf p + 2 → (W6.setCell ⟨r.b, offOf p + 2, none⟩ (.slice (some ⟨g2, 0, none⟩) (r.kids.length + 1) cap2)).cell? ⟨r.b, o, none⟩ = w.cell? ⟨r.b, o, none⟩ := fun o h1 h2 => by
    rw [cell_set_ne _ _ _ _ _ (Ne.symm h2), b6, cell_set_ne _ _ _ _ _ (Ne.symm h1), cell3]
  have c7a : (W6.setCell ⟨r.b, offOf p + 2, none⟩ (.slice (some ⟨g2, 0, none⟩) (r.kids.length + 1) cap2)).cell? ⟨r.b, offOf p + 1, none⟩ = some (.slice (some ⟨g1, 0, none⟩) (r.lead.length + 1) cap1) := by
    rw [cell_set_ne _ _ _ _ _ (by omega), b6]
    exact cell_set_eq ((cell3 _).trans hN.lead)
  have c7b : (W6.setCell ⟨r.b, offOf p + 2, none⟩ (.slice (some ⟨g2, 0, none⟩) (r.kids.length + 1) cap2)).cell? ⟨r.b, offOf p + 2, none⟩ = some (.slice (some ⟨g2, 0, none⟩) (r.kids.length + 1) cap2) :=
    cell_set_eq (u := .slice r.na r.kids.length r.nc) (by rw [b6, cell_set_ne _ _ _ _ _ (by omega), cell3]; exact hN.next)
  have h7 : ∀ k, k ≠ r.b → (W6.setCell ⟨r.b, offOf p + 2, none⟩ (.slice (some ⟨g2, 0, none⟩) (r.kids.length + 1) cap2)).heap[k]? = W6.heap[k]? := fun k hk => heap_setCell_other _ _ _ _ hk
  have s7 : (W6.setCell ⟨r.b, offOf p + 2, none⟩ (.slice (some ⟨g2, 0, none⟩) (r.kids.length + 1) cap2)).heap.size = W6.heap.size := by simp
  have g1b : g1 ≠ r.b := by
    rcases a1 with m | e
    · intro e; exact hap.bl (e ▸ m)
    · omega
  have g2b : g2 ≠ r.b := by
    rcases a2 with m | e
    · intro e; exact hap.bn (e ▸ m)
    · omega
  have g1n : g1 ∉ blk r.na := by
    rcases a1 with m | e
    · exact hap.ln g1 m
    · intro m; have := ltna g1 m; omega
  have g12 : g1 ≠ g2 := by
    rcases a2 with m | e
    · intro e; exact g1n (e ▸ m)
    · omega
  have o7 : (W6.setCell ⟨r.b, offOf p + 2, none⟩ (.slice (some ⟨g2, 0, none⟩) (r.kids.length + 1) cap2)).os = w.os := gr2.os.trans os3
  have t7 : (W6.setCell ⟨r.b, offOf p + 2, none⟩ (.slice (some ⟨g2, 0, none⟩) (r.kids.length + 1) cap2)).tape = w.tape := gr2.tape.trans tp3
  have u7 : (W6.setCell ⟨r.b, offOf p + 2, none⟩ (.slice (some ⟨g2, 0, none⟩) (r.kids.length + 1) cap2)).output = w.output := gr2.output.trans ou3
  have z7 : ∀ o, (W6.setCell ⟨r.b, offOf p + 2, none⟩ (.slice (some ⟨g2, 0, none⟩) (r.kids.length + 1) cap2)).frozen? ⟨r.b, o, none⟩ = false := fun o => by rw [World.frozen?_setCell]; exact f6 o
  generalize W6.setCell ⟨r.b, offOf p + 2, none⟩ (.slice (some ⟨g2, 0, none⟩) (r.kids.length + 1) cap2) = W7 at *
  have hx : T (some c :: p) = none := by
    have := hI.edge p r (some c) hp
    rw [show r.edge (some c) = none from lookup_none hc] at this
    simpa using this
  let r' : Node := { r with lead := r.lead ++ [c], la := some ⟨g1, 0, none⟩, lc := cap1, kids := r.kids ++ [w.heap.size], na := some ⟨g2, 0, none⟩, nc := cap2 }
  have k7 : ∀ k, k < w.heap.size → k ∉ r.blocks → W7.heap[k]? = w.heap[k]? := fun k hk hn => by
    have h1 : k ≠ r.b := fun e => hn (mem_blocks.2 (.inl e))
    have h2 : k ∉ blk r.la := fun m => hn (mem_blocks.2 (.inr (.inl m)))
    have h3 : k ∉ blk r.na := fun m => hn (mem_blocks.2 (.inr (.inr (.inl m))))
    rw [h7 k h1, k6 k (by omega) h1 h3, k3 k hk h2]
  have bl1 : blk (some (⟨g1, 0, none⟩ : Addr)) = [g1] := rfl
  have bl2 : blk (some (⟨g2, 0, none⟩ : Addr)) = [g2] := rfl
  have hok : NodeOk W7 p r' :=
    { val := (c7o _ (by omega) (by omega)).trans hN.val
      lead := by show W7.cell? _ = some (.slice _ (r.lead ++ [c]).length _); rw [List.length_append]; exact c7a
      leadRow := by
        show W7.ownsRow 0 5 1 (.slice _ (r.lead ++ [c]).length _) (r.lead ++ [c]).length ((r.lead ++ [c]).map bv)
        rw [List.length_append, List.map_append]
        exact ownsRow_of_block own1 fun k e => by
          obtain rfl : g1 = k := Option.some.inj e
          rw [h7 g1 g1b, k6 g1 lt1 g1b g1n]
      next := by show W7.cell? _ = some (.slice _ (r.kids ++ [w.heap.size]).length _); rw [List.length_append]; exact c7b
      nextRow := by
        show W7.ownsRow 0 (kt p) 1 (.slice _ (r.kids ++ [w.heap.size]).length _) (r.kids ++ [w.heap.size]).length ((r.kids ++ [w.heap.size]).map pv)
        rw [List.length_append, List.map_append]
        exact ownsRow_of_block own2 fun k e => by
          obtain rfl : g2 = k := Option.some.inj e
          exact h7 g2 g2b
      len := by show (r.kids ++ [w.heap.size]).length = (r.lead ++ [c]).length; simp [hN.len]
      nodup := by
        show (r.lead ++ [c]).Nodup
        rw [List.nodup_append]
        exact ⟨hN.nodup, by simp, fun a ha b hb e => by simp at hb; subst hb; subst e; exact hc ha⟩
      fz := z7
      mid := fun e => by
        obtain ⟨⟨s, hs⟩, hn⟩ := hN.mid e
        exact ⟨⟨s, (c7o 0 (by omega) (by omega)).trans hs⟩, (c7o 4 (by omega) (by omega)).trans hn⟩
      noMid := hN.noMid
      node := fun k e => by
        obtain ⟨cs, t, hc⟩ := hN.node k e
        have m : k ∈ r.pn.toList := by rw [show r.pn = some k from e]; simp
        have h1 : k ≠ r.b := fun e2 => hap.bp (e2 ▸ m)
        refine ⟨cs, t, ?_⟩
        rw [h7 k h1, k6 k (by have := ltpn k m; omega) h1 (fun m2 => hap.np k m2 m), k3 k (ltpn k m) (fun m2 => hap.lp k m2 m)]
        exact hc }
  have hleaf : NodeOk W7 (some c :: p) (leaf w.heap.size) := by
    have hh : W7.heap[w.heap.size]? = some (.cells #[.pointer none, .slice none 0 0, .slice none 0 0] t0) := by
      rw [h7 _ (by omega), k6 _ (by omega) (by omega) (fun m => by have := ltna _ m; omega)]
      exact leaf3
    exact leaf_ok hh rfl rfl rfl (fun e => by simp [offOf] at e)
  have hnd : r'.blocks.Nodup := by
    rw [apart_iff]
    refine ⟨?_, ?_, hap.bp, ?_, ?_, ?_⟩
    · show r.b ∉ blk (some (⟨g1, 0, none⟩ : Addr)); rw [bl1]; simpa using g1b.symm
    · show r.b ∉ blk (some (⟨g2, 0, none⟩ : Addr)); rw [bl2]; simpa using g2b.symm
    · show ∀ k, k ∈ blk (some (⟨g1, 0, none⟩ : Addr)) → k ∉ blk (some (⟨g2, 0, none⟩ : Addr)); rw [bl1, bl2]; simpa using g12
    · show ∀ k, k ∈ blk (some (⟨g1, 0, none⟩ : Addr)) → k ∉ r.pn.toList
      rw [bl1]; intro k m; obtain rfl := List.mem_singleton.1 m
      rcases a1 with m | e
      · exact hap.lp k m
      · intro m; have := ltpn k m; omega
    · show ∀ k, k ∈ blk (some (⟨g2, 0, none⟩ : Addr)) → k ∉ r.pn.toList
      rw [bl2]; intro k m; obtain rfl := List.mem_singleton.1 m
      rcases a2 with m | e
      · exact hap.np k m
      · intro m; have := ltpn k m; omega
  have hmem' : ∀ k, k ∈ r'.blocks → k = r.b ∨ k = g1 ∨ k = g2 ∨ k ∈ r.pn.toList := fun k m => by
    rcases mem_blocks.1 m with e | e | e | e
    · exact .inl e
    · exact .inr (.inl (List.mem_singleton.1 (bl1 ▸ e)))
    · exact .inr (.inr (.inl (List.mem_singleton.1 (bl2 ▸ e))))
    · exact .inr (.inr (.inr e))
  have hfresh : ∀ k, k ∈ r'.blocks → k ∈ r.blocks ∨ (w.heap.size ≤ k ∧ k < W7.heap.size) := fun k m => by
    rcases hmem' k m with e | e | e | e
    · exact .inl (mem_blocks.2 (.inl e))
    · rcases a1 with m | e1
      · exact .inl (mem_blocks.2 (.inr (.inl (e ▸ m))))
      · exact .inr (by omega)
    · rcases a2 with m | e1
      · exact .inl (mem_blocks.2 (.inr (.inr (.inl (e ▸ m)))))
      · exact .inr (by omega)
    · exact .inl (mem_blocks.2 (.inr (.inr (.inr e))))
  have hnb : w.heap.size ∉ r'.blocks := fun m => by
    rcases hmem' _ m with e | e | e | e
    · omega
    · rcases a1 with m | e1
      · have := ltla g1 m; omega
      · omega
    · rcases a2 with m | e1
      · have := ltna g2 m; omega
      · omega
    · have := ltpn _ e; omega
  have hg := hI.grow (r' := r') (x := some c) (nb := w.heap.size) hp hx (w' := W7) (by omega) hB (Nat.le_refl _) (by omega) rfl (edge_snoc r r' c w.heap.size hN.len hc rfl rfl rfl) hok hleaf hnd hnb hfresh k7
  refine ⟨_, hg.1, ⟨o7, t7, u7, by omega, fun k hk hn => k7 k hk fun m => hn ⟨p, r, hp, m⟩, hg.2, ?_⟩, by simp⟩
  intro q s hq
  have f1 : q ≠ some c :: p := fun e => by rw [e, hx] at hq; cases hq
  by_cases e : q = p
  · subst e
    rw [hp] at hq
    obtain rfl := Option.some.inj hq
    exact ⟨r', by simp, rfl, fun _ h => h, fun _ h => h⟩
  · exact ⟨s, by simp [f1, e, hq], rfl, fun _ h => h, fun _ h => h⟩

/-- A cell of r's block is written and a block laid: 't.val = new(V)', 'm.node = &patternNode{}'. -/
theorem set_alloc {w : World} {g B : Nat} {T : Tri} {p : Path} {r : Node} {o : Nat} {u v : Value} {O : Obj} (hI : Inv w g B T) (hp : T p = some r) (ho : w.cell? ⟨r.b, o, none⟩ = some u) :
    (∀ k, k < w.heap.size → k ≠ r.b → ((w.setCell ⟨r.b, o, none⟩ v).alloc O).heap[k]? = w.heap[k]?) ∧ ((w.setCell ⟨r.b, o, none⟩ v).alloc O).heap[w.heap.size]? = some O ∧
    ((w.setCell ⟨r.b, o, none⟩ v).alloc O).cell? ⟨r.b, o, none⟩ = some v ∧ (∀ o', o ≠ o' → ((w.setCell ⟨r.b, o, none⟩ v).alloc O).cell? ⟨r.b, o', none⟩ = w.cell? ⟨r.b, o', none⟩) ∧
    (∀ o', ((w.setCell ⟨r.b, o, none⟩ v).alloc O).frozen? ⟨r.b, o', none⟩ = false) ∧ ((w.setCell ⟨r.b, o, none⟩ v).alloc O).heap.size = w.heap.size + 1 := by
  have hbs := (hI.lo p r r.b hp (mem_blocks.2 (.inl rfl))).2
  have s1 : (w.setCell ⟨r.b, o, none⟩ v).heap.size = w.heap.size := by simp
  have hb : ((w.setCell ⟨r.b, o, none⟩ v).alloc O).heap[r.b]? = (w.setCell ⟨r.b, o, none⟩ v).heap[r.b]? := hOld _ _ _ (by rw [s1]; exact hbs)
  refine ⟨fun k hk hne => ?_, ?_, ?_, fun o' h => ?_, fun o' => ?_, by simp⟩
  · rw [hOld _ _ _ (by rw [s1]; exact hk), heap_setCell_other _ _ _ _ hne]
  · have := hNew (w.setCell ⟨r.b, o, none⟩ v) O
    rw [s1] at this; exact this
  · rw [cell_of hb]; exact cell_set_eq ho
  · rw [cell_of hb]; exact cell_set_ne _ _ _ _ _ h
  · rw [frozen_of hb, World.frozen?_setCell]; exact (hI.ok p r hp).fz o'

theorem NodeOk.keep {w w' : World} {p : Path} {r : Node} (h : NodeOk w p r) (hr : ∀ k, k ∈ blk r.la ∨ k ∈ blk r.na → w'.heap[k]? = w.heap[k]?) :
    w'.ownsRow 0 5 1 (.slice r.la r.lead.length r.lc) r.lead.length (r.lead.map bv) ∧ w'.ownsRow 0 (kt p) 1 (.slice r.na r.kids.length r.nc) r.kids.length (r.kids.map pv) :=
  ⟨ownsRow_of_block h.leadRow fun k e => hr k (.inl (mem_blk.2 (by rw [ownBlock_slice] at e; exact e))), ownsRow_of_block h.nextRow fun k e => hr k (.inr (mem_blk.2 (by rw [ownBlock_slice] at e; exact e)))⟩

/-- 't.val = new(V)'. -/
theorem val_added {w : World} {g B : Nat} {T : Tri} {p : Path} {r : Node} {cs : Array Value} {t0 : TypeId} (hI : Inv w g B T) (hB : B ≤ w.heap.size) (hp : T p = some r) (hv : r.val = none)
    (h0 : cs[offOf (none :: p)]? = some (.pointer none)) (h1 : cs[offOf (none :: p) + 1]? = some (.slice none 0 0)) (h2 : cs[offOf (none :: p) + 2]? = some (.slice none 0 0))
    (hm : offOf (none :: p) = 1 → (∃ s, cs[0]? = some (.string s)) ∧ cs[4]? = some (.pointer none)) :
    ∃ T' r', Inv ((w.setCell ⟨r.b, offOf p, none⟩ (pv w.heap.size)).alloc (.cells cs t0)) g B T' ∧ Fr w ((w.setCell ⟨r.b, offOf p, none⟩ (pv w.heap.size)).alloc (.cells cs t0)) T T' ∧
      T' p = some r' ∧ r'.b = r.b ∧ r'.val = some w.heap.size ∧ T' (none :: p) = some (leaf w.heap.size) := by
  have hN := hI.ok p r hp
  have hap := (apart_iff r).1 (hI.self p r hp)
  have hbs := (hI.lo p r r.b hp (mem_blocks.2 (.inl rfl))).2
  obtain ⟨k1, nw, c1, c2, z1, s1⟩ := set_alloc (v := pv w.heap.size) (O := .cells cs t0) hI hp hN.val
  have o7 : ((w.setCell ⟨r.b, offOf p, none⟩ (pv w.heap.size)).alloc (.cells cs t0)).os = w.os := rfl
  have t7 : ((w.setCell ⟨r.b, offOf p, none⟩ (pv w.heap.size)).alloc (.cells cs t0)).tape = w.tape := rfl
  have u7 : ((w.setCell ⟨r.b, offOf p, none⟩ (pv w.heap.size)).alloc (.cells cs t0)).output = w.output := rfl
  generalize (w.setCell ⟨r.b, offOf p, none⟩ (pv w.heap.size)).alloc (.cells cs t0) = W at *
  have hx : T (none :: p) = none := by
    have := hI.edge p r none hp
    rw [show r.edge none = none from hv] at this
    simpa using this
  let r' : Node := { r with val := some w.heap.size }
  have hbl : r'.blocks = r.blocks := rfl
  have hrow := hN.keep (w' := W) fun k hk => by
    rcases hk with m | m
    · exact k1 k (hI.lo p r k hp (mem_blocks.2 (.inr (.inl m)))).2 fun e => hap.bl (e ▸ m)
    · exact k1 k (hI.lo p r k hp (mem_blocks.2 (.inr (.inr (.inl m))))).2 fun e => hap.bn (e ▸ m)
  have hok : NodeOk W p r' :=
    { val := c1
      lead := (c2 _ (by omega)).trans hN.lead
      leadRow := hrow.1
      next := (c2 _ (by omega)).trans hN.next
      nextRow := hrow.2
      len := hN.len
      nodup := hN.nodup
      fz := z1
      mid := fun e => by
        obtain ⟨⟨s, hs⟩, hn⟩ := hN.mid e
        exact ⟨⟨s, (c2 0 (by omega)).trans hs⟩, (c2 4 (by omega)).trans hn⟩
      noMid := hN.noMid
      node := fun k e => by
        obtain ⟨cs, t, hc⟩ := hN.node k e
        have m : k ∈ r.pn.toList := by rw [show r.pn = some k from e]; simp
        exact ⟨cs, t, (k1 k (hI.lo p r k hp (mem_blocks.2 (.inr (.inr (.inr m))))).2 (fun e2 => hap.bp (e2 ▸ m))).trans hc⟩ }
  have k7 : ∀ k, k < w.heap.size → k ∉ r.blocks → W.heap[k]? = w.heap[k]? := fun k hk hn => k1 k hk fun e => hn (mem_blocks.2 (.inl e))
  have hg := hI.grow (r' := r') (x := none) (nb := w.heap.size) hp hx (w' := W) (by omega) hB (Nat.le_refl _) (by omega) rfl (edge_val r r' w.heap.size rfl rfl rfl) hok (leaf_ok nw h0 h1 h2 hm) (hbl ▸ hI.self p r hp)
    (fun m => by have := (hI.lo p r _ hp m).2; omega) (fun k m => .inl m) k7
  refine ⟨_, r', hg.1, ⟨o7, t7, u7, by omega, fun k hk hn => k7 k hk fun m => hn ⟨p, r, hp, m⟩, hg.2, ?_⟩, by simp, rfl, rfl, by simp⟩
  intro q s hq
  have f1 : q ≠ none :: p := fun e => by rw [e, hx] at hq; cases hq
  by_cases e : q = p
  · subst e
    rw [hp] at hq
    obtain rfl := Option.some.inj hq
    exact ⟨r', by simp, rfl, fun k h => (by rw [hv] at h; cases h), fun _ h => h⟩
  · exact ⟨s, by simp [f1, e, hq], rfl, fun _ h => h, fun _ h => h⟩

/-- 'm.node = &patternNode{}'. -/
theorem node_set {w : World} {g B : Nat} {T : Tri} {p : Path} {r : Node} {O : Obj} {cs0 : Array Value} {t0 : TypeId} (hO : O = .cells cs0 t0) (hI : Inv w g B T) (hB : B ≤ w.heap.size) (hp : T p = some r) (ho : offOf p = 1) (hv : r.pn = none) :
    ∃ T' r', Inv ((w.setCell ⟨r.b, 4, none⟩ (pv w.heap.size)).alloc O) g B T' ∧ Fr w ((w.setCell ⟨r.b, 4, none⟩ (pv w.heap.size)).alloc O) T T' ∧ T' p = some r' ∧ r'.b = r.b ∧ r'.pn = some w.heap.size := by
  have hN := hI.ok p r hp
  have hap := (apart_iff r).1 (hI.self p r hp)
  have hbs := (hI.lo p r r.b hp (mem_blocks.2 (.inl rfl))).2
  obtain ⟨⟨s0, hs0⟩, hn4⟩ := hN.mid ho
  obtain ⟨k1, nw, c1, c2, z1, s1⟩ := set_alloc (v := pv w.heap.size) (O := O) hI hp hn4
  have o7 : ((w.setCell ⟨r.b, 4, none⟩ (pv w.heap.size)).alloc O).os = w.os := rfl
  have t7 : ((w.setCell ⟨r.b, 4, none⟩ (pv w.heap.size)).alloc O).tape = w.tape := rfl
  have u7 : ((w.setCell ⟨r.b, 4, none⟩ (pv w.heap.size)).alloc O).output = w.output := rfl
  generalize (w.setCell ⟨r.b, 4, none⟩ (pv w.heap.size)).alloc O = W at *
  let r' : Node := { r with pn := some w.heap.size }
  have hrow := hN.keep (w' := W) fun k hk => by
    rcases hk with m | m
    · exact k1 k (hI.lo p r k hp (mem_blocks.2 (.inr (.inl m)))).2 fun e => hap.bl (e ▸ m)
    · exact k1 k (hI.lo p r k hp (mem_blocks.2 (.inr (.inr (.inl m))))).2 fun e => hap.bn (e ▸ m)
  have hok : NodeOk W p r' :=
    { val := (c2 _ (by omega)).trans hN.val
      lead := (c2 _ (by omega)).trans hN.lead
      leadRow := hrow.1
      next := (c2 _ (by omega)).trans hN.next
      nextRow := hrow.2
      len := hN.len
      nodup := hN.nodup
      fz := z1
      mid := fun _ => ⟨⟨s0, (c2 0 (by omega)).trans hs0⟩, c1⟩
      noMid := fun e => by omega
      node := fun k e => by
        obtain rfl : w.heap.size = k := Option.some.inj e
        exact ⟨cs0, t0, by rw [nw, hO]⟩ }
  have k7 : ∀ k, k < w.heap.size → k ∉ r.blocks → W.heap[k]? = w.heap[k]? := fun k hk hn => k1 k hk fun e => hn (mem_blocks.2 (.inl e))
  have hpl : ∀ k, k ∈ r'.pn.toList ↔ k = w.heap.size := fun k => by show k ∈ (some w.heap.size).toList ↔ _; simp
  have hnd : r'.blocks.Nodup := by
    rw [apart_iff]
    refine ⟨hap.bl, hap.bn, fun m => ?_, hap.ln, fun k m1 m2 => ?_, fun k m1 m2 => ?_⟩
    · have := (hpl _).1 m; change r.b = _ at this; omega
    · have e := (hpl _).1 m2; have := (hI.lo p r k hp (mem_blocks.2 (.inr (.inl m1)))).2; omega
    · have e := (hpl _).1 m2; have := (hI.lo p r k hp (mem_blocks.2 (.inr (.inr (.inl m1))))).2; omega
  have hg := hI.replace (r' := r') hp (w' := W) (by omega) hB rfl (fun x => by cases x <;> rfl) hok hnd (fun k m => by
    rcases mem_blocks.1 m with e | e | e | e
    · exact .inl (mem_blocks.2 (.inl e))
    · exact .inl (mem_blocks.2 (.inr (.inl e)))
    · exact .inl (mem_blocks.2 (.inr (.inr (.inl e))))
    · have := (hpl k).1 e; exact .inr (by omega)) k7
  refine ⟨_, r', hg.1, ⟨o7, t7, u7, by omega, fun k hk hn => k7 k hk fun m => hn ⟨p, r, hp, m⟩, hg.2, ?_⟩, by simp, rfl, rfl⟩
  intro q s hq
  by_cases e : q = p
  · subst e
    rw [hp] at hq
    obtain rfl := Option.some.inj hq
    exact ⟨r', by simp, rfl, fun _ h => h, fun k h => (by rw [hv] at h; cases h)⟩
  · exact ⟨s, by simp [e, hq], rfl, fun _ h => h, fun _ h => h⟩

/-- 'm.middle = middle'. -/
theorem mid_set {w : World} {g B : Nat} {T : Tri} {p : Path} {r : Node} {s : ByteArray} (hI : Inv w g B T) (hp : T p = some r) (ho : offOf p = 1) :
    Inv (w.setCell ⟨r.b, 0, none⟩ (.string s)) g B T ∧ Fr w (w.setCell ⟨r.b, 0, none⟩ (.string s)) T T := by
  have hN := hI.ok p r hp
  have hap := (apart_iff r).1 (hI.self p r hp)
  obtain ⟨⟨s0, hs0⟩, hn4⟩ := hN.mid ho
  have k1 : ∀ k, k ≠ r.b → (w.setCell ⟨r.b, 0, none⟩ (.string s)).heap[k]? = w.heap[k]? := fun k hk => heap_setCell_other _ _ _ _ hk
  have c1 : (w.setCell ⟨r.b, 0, none⟩ (.string s)).cell? ⟨r.b, 0, none⟩ = some (.string s) := cell_set_eq hs0
  have c2 : ∀ o, 0 ≠ o → (w.setCell ⟨r.b, 0, none⟩ (.string s)).cell? ⟨r.b, o, none⟩ = w.cell? ⟨r.b, o, none⟩ := fun o h => cell_set_ne _ _ _ _ _ h
  have z1 : ∀ o, (w.setCell ⟨r.b, 0, none⟩ (.string s)).frozen? ⟨r.b, o, none⟩ = false := fun o => by rw [World.frozen?_setCell]; exact hN.fz o
  have s1 : (w.setCell ⟨r.b, 0, none⟩ (.string s)).heap.size = w.heap.size := by simp
  have o7 : (w.setCell ⟨r.b, 0, none⟩ (.string s)).os = w.os := rfl
  have t7 : (w.setCell ⟨r.b, 0, none⟩ (.string s)).tape = w.tape := rfl
  have u7 : (w.setCell ⟨r.b, 0, none⟩ (.string s)).output = w.output := rfl
  generalize w.setCell ⟨r.b, 0, none⟩ (.string s) = W at *
  have hrow := hN.keep (w' := W) fun k hk => by
    rcases hk with m | m
    · exact k1 k fun e => hap.bl (e ▸ m)
    · exact k1 k fun e => hap.bn (e ▸ m)
  refine ⟨{ hI with ok := ?_, lo := fun q r2 k e m => by have := hI.lo q r2 k e m; omega }, ⟨o7, t7, u7, by omega, fun k _ hn => k1 k fun e => hn ⟨p, r, hp, mem_blocks.2 (.inl e)⟩, fun _ h => .inl h, fun _ r h => ⟨r, h, rfl, fun _ h => h, fun _ h => h⟩⟩⟩
  intro q r2 hq
  by_cases e : q = p
  · subst e
    rw [hp] at hq
    obtain rfl := Option.some.inj hq
    exact
      { val := (c2 _ (by omega)).trans hN.val
        lead := (c2 _ (by omega)).trans hN.lead
        leadRow := hrow.1
        next := (c2 _ (by omega)).trans hN.next
        nextRow := hrow.2
        len := hN.len
        nodup := hN.nodup
        fz := z1
        mid := fun _ => ⟨⟨s, c1⟩, (c2 4 (by omega)).trans hn4⟩
        noMid := fun e => by omega
        node := fun k e => by
          obtain ⟨cs, t, hc⟩ := hN.node k e
          exact ⟨cs, t, (k1 k (fun e2 => hap.bp (e2 ▸ (by rw [e]; simp : k ∈ r.pn.toList)))).trans hc⟩ }
  · exact (hI.ok q r2 hq).frame fun k m => k1 k fun e2 => hI.apart q p r2 r hq hp e k m (mem_blocks.2 (.inl e2))

/-- A set just made. -/
theorem new_set (w : World) (t : TypeId) : Inv (w.alloc (.cells #[.pointer none, .slice none 0 0, .slice none 0 0] t)) w.heap.size w.heap.size (fun q => if q = [] then some (leaf w.heap.size) else none) := by
  have e0 : ∀ (x : Option UInt8) (q : Path), ¬ (x :: q = []) := fun x q e => by cases e
  have one : ∀ (q : Path) (r : Node), (if q = [] then some (leaf w.heap.size) else none) = some r → q = [] ∧ r = leaf w.heap.size := fun q r h => by
    by_cases e : q = []
    · simp only [e, if_true, Option.some.injEq] at h; exact ⟨e, h.symm⟩
    · simp [e] at h
  constructor
  · simp [leaf]
  · intro q r x h
    obtain ⟨rfl, rfl⟩ := one q r h
    simp only [e0, if_false]
    cases x <;> rfl
  · intro q x _; simp only [e0, if_false]
  · intro q r h
    obtain ⟨rfl, rfl⟩ := one q r h
    exact leaf_ok (hNew _ _) rfl rfl rfl (fun e => by simp [offOf] at e)
  · intro q1 q2 r s h1 h2 hne
    exact absurd ((one q1 r h1).1.trans (one q2 s h2).1.symm) hne
  · intro q r h
    obtain ⟨rfl, rfl⟩ := one q r h
    show [w.heap.size].Nodup
    simp
  · intro q r k h m
    obtain ⟨rfl, rfl⟩ := one q r h
    have : k ∈ [w.heap.size] := m
    have := List.mem_singleton.1 this
    simp; omega
end Go.Proofs.Qxb6606410aDoor
