/-
  The set of globs in memory: one big tree of tries, each trie under the path that leads to it. No Go text here.
-/
import Derived.WalkKit
namespace Go.Proofs.Qxb6606410aDoor
open Go.RowKit

/-- A path into the set, the last step first: 'some c': a byte's step; 'none': from a trie into its value. -/
abbrev Path := List (Option UInt8)
/-- No value's step yet: a trie of the prefixes. -/
def top (p : Path) : Bool := p.all Option.isSome
/-- Where in its block the trie lies: 1 in a globMiddles (behind 'middle'), else 0. -/
def offOf : Path → Nat
  | none :: p => if top p then 0 else 1
  | _ => 0
/-- The type of the pointers to the next tries. -/
def kt (p : Path) : TypeId := if top p then 60 else 64

/-- One trie in memory. -/
structure Node where
  b : Nat
  val : Option Nat
  lead : List UInt8
  la : Option Addr
  lc : Nat
  kids : List Nat
  na : Option Addr
  nc : Nat
  pn : Option Nat

def ptr (o : Option Nat) : Value := .pointer (o.map fun k => ⟨k, 0, none⟩)
def bv (c : UInt8) : Value := .int .u8 (c.toNat : Int)
def pv (k : Nat) : Value := .pointer (some ⟨k, 0, none⟩)
def blk (a : Option Addr) : List Nat := (a.map (·.block)).toList

def Node.edge (r : Node) : Option UInt8 → Option Nat
  | some c => (r.lead.zip r.kids).lookup c
  | none => r.val

def Node.blocks (r : Node) : List Nat := r.b :: (blk r.la ++ blk r.na ++ r.pn.toList)

/-- A trie just made. -/
def leaf (b : Nat) : Node := { b := b, val := none, lead := [], la := none, lc := 0, kids := [], na := none, nc := 0, pn := none }

/-- The trie r lies in memory as told, at the path p. -/
structure NodeOk (w : World) (p : Path) (r : Node) : Prop where
  val : w.cell? ⟨r.b, offOf p, none⟩ = some (ptr r.val)
  lead : w.cell? ⟨r.b, offOf p + 1, none⟩ = some (.slice r.la r.lead.length r.lc)
  leadRow : w.ownsRow 0 5 1 (.slice r.la r.lead.length r.lc) r.lead.length (r.lead.map bv)
  next : w.cell? ⟨r.b, offOf p + 2, none⟩ = some (.slice r.na r.kids.length r.nc)
  nextRow : w.ownsRow 0 (kt p) 1 (.slice r.na r.kids.length r.nc) r.kids.length (r.kids.map pv)
  len : r.kids.length = r.lead.length
  nodup : r.lead.Nodup
  fz : ∀ o, w.frozen? ⟨r.b, o, none⟩ = false
  mid : offOf p = 1 → (∃ s, w.cell? ⟨r.b, 0, none⟩ = some (.string s)) ∧ w.cell? ⟨r.b, 4, none⟩ = some (ptr r.pn)
  noMid : offOf p = 0 → r.pn = none
  node : ∀ k, r.pn = some k → ∃ cs t, w.heap[k]? = some (.cells cs t)

abbrev Tri := Path → Option Node

/-- The set whose block is g lies in memory as T tells, its blocks from B on. -/
structure Inv (w : World) (g B : Nat) (T : Tri) : Prop where
  root : (T []).map (·.b) = some g
  edge : ∀ p r x, T p = some r → (T (x :: p)).map (·.b) = r.edge x
  par : ∀ p x, T p = none → T (x :: p) = none
  ok : ∀ p r, T p = some r → NodeOk w p r
  apart : ∀ p q r s, T p = some r → T q = some s → p ≠ q → ∀ k, k ∈ r.blocks → k ∉ s.blocks
  self : ∀ p r, T p = some r → r.blocks.Nodup
  lo : ∀ p r k, T p = some r → k ∈ r.blocks → B ≤ k ∧ k < w.heap.size

def Own (T : Tri) (k : Nat) : Prop := ∃ p r, T p = some r ∧ k ∈ r.blocks

/-- From w, T to w', T': nothing else has turned; what was there is there. -/
structure Fr (w w' : World) (T T' : Tri) : Prop where
  os : w'.os = w.os
  tape : w'.tape = w.tape
  output : w'.output = w.output
  size : w.heap.size ≤ w'.heap.size
  block : ∀ k, k < w.heap.size → ¬ Own T k → w'.heap[k]? = w.heap[k]?
  own : ∀ k, Own T' k → Own T k ∨ w.heap.size ≤ k
  ext : ∀ p r, T p = some r → ∃ r', T' p = some r' ∧ r'.b = r.b ∧ (∀ k, r.val = some k → r'.val = some k) ∧ (∀ k, r.pn = some k → r'.pn = some k)

theorem Fr.refl (w : World) (T : Tri) : Fr w w T T :=
  ⟨rfl, rfl, rfl, Nat.le_refl _, fun _ _ _ => rfl, fun _ h => .inl h, fun _ r h => ⟨r, h, rfl, fun _ h => h, fun _ h => h⟩⟩

theorem Fr.trans {w w1 w2 : World} {T T1 T2 : Tri} (h : Fr w w1 T T1) (k : Fr w1 w2 T1 T2) : Fr w w2 T T2 where
  os := k.os.trans h.os
  tape := k.tape.trans h.tape
  output := k.output.trans h.output
  size := Nat.le_trans h.size k.size
  block := fun i hi hn => by
    have hn1 : ¬ Own T1 i := fun ho => by
      rcases h.own i ho with h1 | h1
      · exact hn h1
      · omega
    exact (k.block i (Nat.lt_of_lt_of_le hi h.size) hn1).trans (h.block i hi hn)
  own := fun i ho => by
    rcases k.own i ho with h1 | h1
    · exact h.own i h1
    · exact .inr (Nat.le_trans h.size h1)
  ext := fun p r hp => by
    obtain ⟨r1, e1, b1, v1, n1⟩ := h.ext p r hp
    obtain ⟨r2, e2, b2, v2, n2⟩ := k.ext p r1 e1
    exact ⟨r2, e2, b2.trans b1, fun k hk => v2 k (v1 k hk), fun k hk => n2 k (n1 k hk)⟩

theorem ownsRow_of_block {w w' : World} {base : Nat} {e : TypeId} {size : Nat} {v : Value} {n : Nat} {xs : List Value} (h : w.ownsRow base e size v n xs)
    (hk : ∀ k, v.ownBlock = some k → w'.heap[k]? = w.heap[k]?) : w'.ownsRow base e size v n xs := by
  refine ⟨h.1, ?_⟩
  rcases h.2 with hn | ⟨g, cap, cur, rfl, hb, hg, rest⟩
  · exact .inl hn
  · refine .inr ⟨g, cap, cur, rfl, hb, ?_, rest⟩
    rw [hk g rfl]
    exact hg

theorem ownBlock_slice (a : Option Addr) (n c : Nat) : (Value.slice a n c).ownBlock = a.map (·.block) := by cases a <;> rfl

theorem mem_blk {a : Option Addr} {k : Nat} : k ∈ blk a ↔ a.map (·.block) = some k := by
  unfold blk
  rw [Option.mem_toList]

theorem NodeOk.frame {w w' : World} {p : Path} {r : Node} (h : NodeOk w p r) (hk : ∀ k, k ∈ r.blocks → w'.heap[k]? = w.heap[k]?) : NodeOk w' p r := by
  have hb : w'.heap[r.b]? = w.heap[r.b]? := hk r.b (by simp [Node.blocks])
  have hc : ∀ o, w'.cell? ⟨r.b, o, none⟩ = w.cell? ⟨r.b, o, none⟩ := fun o => World.cell?_of_block hb
  exact
    { val := (hc _).trans h.val
      lead := (hc _).trans h.lead
      leadRow := ownsRow_of_block h.leadRow fun k e => hk k (by rw [ownBlock_slice] at e; have := mem_blk.2 e; simp [Node.blocks, this])
      next := (hc _).trans h.next
      nextRow := ownsRow_of_block h.nextRow fun k e => hk k (by rw [ownBlock_slice] at e; have := mem_blk.2 e; simp [Node.blocks, this])
      len := h.len
      nodup := h.nodup
      fz := fun o => (World.frozen?_of_block hb).trans (h.fz o)
      mid := fun e => by obtain ⟨⟨s, hs⟩, hn⟩ := h.mid e; exact ⟨⟨s, (hc _).trans hs⟩, (hc _).trans hn⟩
      noMid := h.noMid
      node := fun k e => by
        obtain ⟨cs, t, hc⟩ := h.node k e
        exact ⟨cs, t, (hk k (by simp [Node.blocks, e])).trans hc⟩ }

/-- New memory alone: the set lies as it lay. -/
theorem Inv.same {w w' : World} {g B : Nat} {T : Tri} (h : Inv w g B T) (hs : w.heap.size ≤ w'.heap.size) (hk : ∀ k, Own T k → w'.heap[k]? = w.heap[k]?) : Inv w' g B T :=
  { h with
    ok := fun p r e => (h.ok p r e).frame fun k m => hk k ⟨p, r, e, m⟩
    lo := fun p r k e m => ⟨(h.lo p r k e m).1, Nat.lt_of_lt_of_le (h.lo p r k e m).2 hs⟩ }

theorem Inv.below {w w' : World} {g B : Nat} {T : Tri} (h : Inv w g B T) (hb : Below w.heap.size w w') : Inv w' g B T :=
  h.same hb.size fun k ⟨p, r, e, m⟩ => hb.block k (h.lo p r k e m).2

theorem Fr.below {w w' : World} (T : Tri) (hb : Below w.heap.size w w') : Fr w w' T T :=
  ⟨hb.os, hb.tape, hb.output, hb.size, fun k hk _ => hb.block k hk, fun _ h => .inl h, fun _ r h => ⟨r, h, rfl, fun _ h => h, fun _ h => h⟩⟩

/-- What the caller holds below B stands. -/
theorem Fr.to_below {w w' : World} {g B : Nat} {T T' : Tri} (h : Fr w w' T T') (hI : Inv w g B T) (hB : B ≤ w.heap.size) : Below B w w' :=
  ⟨h.os, h.tape, h.output, h.size, fun k hk => h.block k (by omega) fun ⟨p, r, e, m⟩ => by have := (hI.lo p r k e m).1; omega⟩

/-- The node at p is replaced by one with the same edges. -/
theorem Inv.replace {w w' : World} {g B : Nat} {T : Tri} (h : Inv w g B T) {p : Path} {r r' : Node} (hp : T p = some r) (hs : w.heap.size ≤ w'.heap.size) (hB : B ≤ w.heap.size)
    (hb : r'.b = r.b) (he : ∀ x, r'.edge x = r.edge x) (hok : NodeOk w' p r') (hnd : r'.blocks.Nodup)
    (hfresh : ∀ k, k ∈ r'.blocks → k ∈ r.blocks ∨ (w.heap.size ≤ k ∧ k < w'.heap.size))
    (hk : ∀ k, k < w.heap.size → k ∉ r.blocks → w'.heap[k]? = w.heap[k]?) :
    Inv w' g B (fun q => if q = p then some r' else T q) ∧ (∀ k, Own (fun q => if q = p then some r' else T q) k → Own T k ∨ w.heap.size ≤ k) := by
  have hother : ∀ q s, T q = some s → q ≠ p → ∀ k, k ∈ s.blocks → k ∉ r'.blocks := fun q s hq hqp k hks hkr => by
    rcases hfresh k hkr with h1 | h1
    · exact h.apart q p s r hq hp hqp k hks h1
    · have := (h.lo q s k hq hks).2; omega
  refine ⟨?_, ?_⟩
  · constructor
    · by_cases e : ([] : Path) = p
      · subst e; simp only [if_true, Option.map_some, hb]; have := h.root; rw [hp] at this; simpa using this
      · simp only [e, if_false]; exact h.root
    · intro q s x hq
      have hchild : ((fun q => if q = p then some r' else T q) (x :: q)).map (·.b) = (T (x :: q)).map (·.b) := by
        by_cases e : x :: q = p
        · simp only [e, if_true, hp, Option.map_some, hb]
        · simp only [e, if_false]
      rw [hchild]
      by_cases e : q = p
      · simp only [e, if_true, Option.some.injEq] at hq; subst hq; subst e; rw [he]; exact h.edge q r x hp
      · simp only [e, if_false] at hq; exact h.edge q s x hq
    · intro q x hq
      by_cases e : q = p
      · simp [e] at hq
      · simp only [e, if_false] at hq
        have := h.par q x hq
        by_cases e2 : x :: q = p
        · rw [← e2] at hp; rw [hp] at this; cases this
        · simp only [e2, if_false]; exact this
    · intro q s hq
      by_cases e : q = p
      · simp only [e, if_true, Option.some.injEq] at hq; subst hq; subst e; exact hok
      · simp only [e, if_false] at hq
        exact (h.ok q s hq).frame fun k m => hk k (h.lo q s k hq m).2 (h.apart q p s r hq hp e k m)
    · intro q1 q2 s1 s2 h1 h2 hne k m1 m2
      by_cases e1 : q1 = p
      · simp only [e1, if_true, Option.some.injEq] at h1; subst h1; subst e1
        have e2 : q2 ≠ q1 := fun e => hne e.symm
        simp only [e2, if_false] at h2
        exact hother q2 s2 h2 e2 k m2 m1
      · simp only [e1, if_false] at h1
        by_cases e2 : q2 = p
        · simp only [e2, if_true, Option.some.injEq] at h2; subst h2
          exact hother q1 s1 h1 e1 k m1 m2
        · simp only [e2, if_false] at h2
          exact h.apart q1 q2 s1 s2 h1 h2 hne k m1 m2
    · intro q s hq
      by_cases e : q = p
      · simp only [e, if_true, Option.some.injEq] at hq; subst hq; exact hnd
      · simp only [e, if_false] at hq; exact h.self q s hq
    · intro q s k hq m
      by_cases e : q = p
      · simp only [e, if_true, Option.some.injEq] at hq; subst hq
        rcases hfresh k m with h1 | h1
        · have := h.lo p r k hp h1; omega
        · omega
      · simp only [e, if_false] at hq; have := h.lo q s k hq m; omega
  · rintro k ⟨q, s, hq, m⟩
    by_cases e : q = p
    · simp only [e, if_true, Option.some.injEq] at hq; subst hq
      rcases hfresh k m with h1 | h1
      · exact .inl ⟨p, r, hp, h1⟩
      · exact .inr h1.1
    · simp only [e, if_false] at hq; exact .inl ⟨q, s, hq, m⟩

/-- A new trie under x: its father r becomes r'. -/
theorem Inv.grow {w w' : World} {g B : Nat} {T : Tri} (h : Inv w g B T) {p : Path} {r r' : Node} {x : Option UInt8} {nb : Nat} (hp : T p = some r) (hx : T (x :: p) = none)
    (hs : w.heap.size ≤ w'.heap.size) (hB : B ≤ w.heap.size) (hnb : w.heap.size ≤ nb) (hnb' : nb < w'.heap.size)
    (hb : r'.b = r.b) (he : ∀ y, r'.edge y = if y = x then some nb else r.edge y) (hok : NodeOk w' p r') (hleaf : NodeOk w' (x :: p) (leaf nb)) (hnd : r'.blocks.Nodup) (hnbr : nb ∉ r'.blocks)
    (hfresh : ∀ k, k ∈ r'.blocks → k ∈ r.blocks ∨ (w.heap.size ≤ k ∧ k < w'.heap.size))
    (hk : ∀ k, k < w.heap.size → k ∉ r.blocks → w'.heap[k]? = w.heap[k]?) :
    Inv w' g B (fun q => if q = x :: p then some (leaf nb) else if q = p then some r' else T q) ∧
      (∀ k, Own (fun q => if q = x :: p then some (leaf nb) else if q = p then some r' else T q) k → Own T k ∨ w.heap.size ≤ k) := by
  have hlb : (leaf nb).blocks = [nb] := rfl
  have hle : ∀ y, (leaf nb).edge y = none := fun y => by cases y <;> rfl
  have hxp : p ≠ x :: p := fun e => by have := congrArg List.length e; simp at this
  have hother : ∀ q s, T q = some s → q ≠ p → ∀ k, k ∈ s.blocks → k ∉ r'.blocks := fun q s hq hqp k hks hkr => by
    rcases hfresh k hkr with h1 | h1
    · exact h.apart q p s r hq hp hqp k hks h1
    · have := (h.lo q s k hq hks).2; omega
  have hnbo : ∀ q s, T q = some s → nb ∉ s.blocks := fun q s hq m => by have := (h.lo q s nb hq m).2; omega
  have ne_of : ∀ q s, T q = some s → q ≠ x :: p := fun q s hq e => by rw [e, hx] at hq; cases hq
  refine ⟨?_, ?_⟩
  · constructor
    · have e0 : ([] : Path) ≠ x :: p := by simp
      simp only [e0, if_false]
      by_cases e : ([] : Path) = p
      · subst e; simp only [if_true, Option.map_some, hb]; have := h.root; rw [hp] at this; simpa using this
      · simp only [e, if_false]; exact h.root
    · intro q s y hq
      by_cases e1 : q = x :: p
      · subst e1
        simp only [if_true, Option.some.injEq] at hq; subst hq
        have f1 : ¬ (y :: x :: p = x :: p) := fun e => by have := congrArg List.length e; simp at this
        have f2 : ¬ (y :: x :: p = p) := fun e => by have := congrArg List.length e; simp at this; omega
        simp only [f1, f2, if_false, hle, h.par _ y hx, Option.map_none]
      · simp only [e1, if_false] at hq
        by_cases e : q = p
        · simp only [e, if_true, Option.some.injEq] at hq; subst hq; subst e
          rw [he]
          by_cases ey : y = x
          · subst ey; simp [leaf]
          · have f1 : ¬ (y :: q = x :: q) := fun e => ey (List.cons.inj e).1
            have f2 : ¬ (y :: q = q) := fun e => by have := congrArg List.length e; simp at this
            simp only [f1, f2, ey, if_false]; exact h.edge q r y hp
        · simp only [e, if_false] at hq
          have f1 : ¬ (y :: q = x :: p) := fun e2 => e (List.cons.inj e2).2
          simp only [f1, if_false]
          by_cases f2 : y :: q = p
          · have := h.edge q s y hq
            rw [f2, hp] at this
            simp only [f2, if_true, Option.map_some, hb]; simpa using this
          · simp only [f2, if_false]; exact h.edge q s y hq
    · intro q y hq
      by_cases e1 : q = x :: p
      · simp [e1] at hq
      · simp only [e1, if_false] at hq
        by_cases e : q = p
        · simp [e] at hq
        · simp only [e, if_false] at hq
          have hn := h.par q y hq
          have f1 : ¬ (y :: q = x :: p) := fun e2 => e (List.cons.inj e2).2
          have f2 : ¬ (y :: q = p) := fun e2 => by rw [e2, hp] at hn; cases hn
          simp only [f1, f2, if_false]; exact hn
    · intro q s hq
      by_cases e1 : q = x :: p
      · simp only [e1, if_true, Option.some.injEq] at hq; subst hq; subst e1; exact hleaf
      · simp only [e1, if_false] at hq
        by_cases e : q = p
        · simp only [e, if_true, Option.some.injEq] at hq; subst hq; subst e; exact hok
        · simp only [e, if_false] at hq
          exact (h.ok q s hq).frame fun k m => hk k (h.lo q s k hq m).2 (h.apart q p s r hq hp e k m)
    · have key : ∀ q1 q2 s1 s2, (if q1 = p then some r' else T q1) = some s1 → (if q2 = p then some r' else T q2) = some s2 → q1 ≠ q2 → ∀ k, k ∈ s1.blocks → k ∉ s2.blocks := by
        intro q1 q2 s1 s2 h1 h2 hne k m1 m2
        by_cases e1 : q1 = p
        · simp only [e1, if_true, Option.some.injEq] at h1; subst h1; subst e1
          have e2 : q2 ≠ q1 := fun e => hne e.symm
          simp only [e2, if_false] at h2
          exact hother q2 s2 h2 e2 k m2 m1
        · simp only [e1, if_false] at h1
          by_cases e2 : q2 = p
          · simp only [e2, if_true, Option.some.injEq] at h2; subst h2
            exact hother q1 s1 h1 e1 k m1 m2
          · simp only [e2, if_false] at h2
            exact h.apart q1 q2 s1 s2 h1 h2 hne k m1 m2
      have nbk : ∀ q s, (if q = p then some r' else T q) = some s → nb ∉ s.blocks := by
        intro q s hq
        by_cases e : q = p
        · simp only [e, if_true, Option.some.injEq] at hq; subst hq; exact hnbr
        · simp only [e, if_false] at hq; exact hnbo q s hq
      intro q1 q2 s1 s2 h1 h2 hne k m1 m2
      by_cases e1 : q1 = x :: p
      · simp only [e1, if_true, Option.some.injEq] at h1; subst h1; subst e1
        have e2 : ¬ (q2 = x :: p) := fun e => hne e.symm
        simp only [e2, if_false] at h2
        rw [hlb] at m1
        obtain rfl := List.mem_singleton.1 m1
        exact nbk q2 s2 h2 m2
      · simp only [e1, if_false] at h1
        by_cases e2 : q2 = x :: p
        · simp only [e2, if_true, Option.some.injEq] at h2; subst h2
          rw [hlb] at m2
          obtain rfl := List.mem_singleton.1 m2
          exact nbk q1 s1 h1 m1
        · simp only [e2, if_false] at h2
          exact key q1 q2 s1 s2 h1 h2 hne k m1 m2
    · intro q s hq
      by_cases e1 : q = x :: p
      · simp only [e1, if_true, Option.some.injEq] at hq; subst hq; rw [hlb]; simp
      · simp only [e1, if_false] at hq
        by_cases e : q = p
        · simp only [e, if_true, Option.some.injEq] at hq; subst hq; exact hnd
        · simp only [e, if_false] at hq; exact h.self q s hq
    · intro q s k hq m
      by_cases e1 : q = x :: p
      · simp only [e1, if_true, Option.some.injEq] at hq; subst hq
        rw [hlb] at m
        obtain rfl := List.mem_singleton.1 m
        omega
      · simp only [e1, if_false] at hq
        by_cases e : q = p
        · simp only [e, if_true, Option.some.injEq] at hq; subst hq
          rcases hfresh k m with h1 | h1
          · have := h.lo p r k hp h1; omega
          · omega
        · simp only [e, if_false] at hq; have := h.lo q s k hq m; omega
  · rintro k ⟨q, s, hq, m⟩
    by_cases e1 : q = x :: p
    · simp only [e1, if_true, Option.some.injEq] at hq; subst hq
      rw [hlb] at m
      obtain rfl := List.mem_singleton.1 m
      exact .inr hnb
    · simp only [e1, if_false] at hq
      by_cases e : q = p
      · simp only [e, if_true, Option.some.injEq] at hq; subst hq
        rcases hfresh k m with h1 | h1
        · exact .inl ⟨p, r, hp, h1⟩
        · exact .inr h1.1
      · simp only [e, if_false] at hq; exact .inl ⟨q, s, hq, m⟩
end Go.Proofs.Qxb6606410aDoor
