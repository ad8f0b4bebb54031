/-
  Walks: zzNatOf (16), zzNatMul (23).
-/
import Derived.Test.Qxb6615058aDoorW9
import Derived.Test.Qxb6615058aDoorN16
namespace Go.Proofs.Qxb6615058aDoor
open Go.RowKit

def uv (a : Nat) : Value := .int .u32 (a : Int)
theorem uv_one (l : List Nat) : ∀ u ∈ l.map uv, u.oneCell' = true := fun u hu => by
  obtain ⟨b, _, rfl⟩ := List.mem_map.1 hu
  rfl

/-- Limbs in block g. -/
def NatAt (W : World) (g : Nat) (l : List Nat) : Prop := g < W.heap.size ∧ ∀ (t : Nat) (h : t < l.length), W.cell? ⟨g, t, none⟩ = some (uv l[t])
theorem NatAt.below {W W' : World} {g B : Nat} {l : List Nat} (h : NatAt W g l) (hg : g < B) (hb : Below B W W') : NatAt W' g l := ⟨Nat.lt_of_lt_of_le h.1 hb.size, fun t ht => (hb.cell hg).trans (h.2 t ht)⟩

/-- What a function on limbs gives: v in a new block. -/
def NatRes (w w' : World) (v : Nat) (e : Ending) : Prop := ∃ g l cap, e = .returned (.slice (some ⟨g, 0, none⟩) l.length cap) ∧ natV l = v ∧ Norm l ∧ NatAt w' g l ∧ Below w.heap.size w w'

theorem natAt_new (w : World) (l : List Nat) : NatAt (w.alloc (.cells (l.map uv).toArray 47)) w.heap.size l := by
  refine ⟨by simp, fun t ht => ?_⟩
  rw [World.cell?_alloc_mark]
  simp [ht]

set_option maxRecDepth 100000 in
theorem natOf_any (v : Nat) (w : World) (hv : v < 18446744073709551616) : Calls Tryd.prog 16 #[.int .u64 v] w fun e w' => NatRes w w' v e := by
  by_cases h0 : v = 0
  · subst h0
    go_enter Tryd.func16, Tryd.ntmps16
    go_wp2_with fail
    go_ret
    exact ⟨w.heap.size, [], 0, rfl, rfl, ⟨by simp, by simp⟩, natAt_new w [], (Below.refl _ w).alloc (Nat.le_refl _) _⟩
  · have x0 : ((v : Int) == 0) = false := by rw [beq_eq_false_iff_ne]; omega
    by_cases h1 : v < 4294967296
    · have x1 : (v : Int) / 4294967296 = 0 := by omega
      clear h0
      go_enter Tryd.func16, Tryd.ntmps16
      go_wp2_with fail
      go_ret
      exact ⟨w.heap.size, [v], 1, rfl, by simp [natV], ⟨by simpa using h1, by simp; intro e; subst e; simp at x0⟩, natAt_new w [v], (Below.refl _ w).alloc (Nat.le_refl _) _⟩
    · obtain ⟨q, hq⟩ : ∃ q, q = v / 4294967296 := ⟨_, rfl⟩
      obtain ⟨r, hr⟩ : ∃ r, r = v % 4294967296 := ⟨_, rfl⟩
      have x1 : (v : Int) / 4294967296 = (q : Int) := by omega
      have x2 : ((q : Int) == 0) = false := by rw [beq_eq_false_iff_ne]; omega
      have x3 : IntKind.u32.wrap (v : Int) = (r : Int) := by rw [IntKind.wrap_u32]; omega
      have x3' : (v : Int) % 4294967296 = (r : Int) := by omega
      have hqb : q < 4294967296 := by omega
      have HV : Hid (natV [r, q] = v) := by rw [Hid]; simp [natV]; omega
      have HN : Hid (Norm [r, q]) := ⟨by intro a ha; simp at ha; omega, by simp; omega⟩
      clear h0 h1 hq hr
      go_enter Tryd.func16, Tryd.ntmps16
      go_wp2_with fail
      go_ret
      exact ⟨w.heap.size, [r, q], 2, rfl, HV.out, HN.out, natAt_new w [r, q], (Below.refl _ w).alloc (Nat.le_refl _) _⟩

theorem Tryd.info47' : (Tryd.prog.info? 47).map (fun i => (i.zero, i.size, i.bytes)) = some (some (.int .u32 0), 1, 4) := by kernel_rfl

/-- The limbs that are being built. -/
structure Row32 (w W : World) (cap : Nat) (l : List Nat) (c : Nat) : Prop where
  len : l.length = c
  own : W.ownsRow w.heap.size 47 1 (.slice (some ⟨w.heap.size, 0, none⟩) c cap) c (l.map uv)
  bl : Below w.heap.size w W
  sz : w.heap.size < W.heap.size

theorem Row32.add {w W W' : World} {cap c : Nat} {l : List Nat} {o : Obj} (h : Row32 w W cap l c) (a : Nat) (ho : W'.ownsRow w.heap.size 47 1 (.slice (some ⟨w.heap.size, 0, none⟩) (c + 1) cap) (c + 1) (l.map uv ++ [a].map uv)) (hg : (W.alloc o).grownBy W' (some w.heap.size)) : Row32 w W' cap (l ++ [a]) (c + 1) := by
  have hs : (W.alloc o).heap.size = W.heap.size + 1 := by simp
  refine ⟨by rw [List.length_append, h.len]; rfl, by rw [List.map_append]; exact ho, ⟨hg.os.trans h.bl.os, hg.tape.trans h.bl.tape, hg.output.trans h.bl.output, ?_, fun k hk => ?_⟩, ?_⟩
  · have := hg.size; have := h.bl.size; omega
  · have h1 := h.bl.size
    rw [hg.block k (by omega) (by intro e; have := Option.some.inj e; omega), ← h.bl.block k hk]
    exact heap_alloc_old W o (by omega)
  · have := hg.size; have := h.sz; omega

theorem Row32.natAt {w W : World} {cap c : Nat} {l : List Nat} (h : Row32 w W cap l c) : NatAt W w.heap.size l := by
  refine ⟨h.sz, fun t ht => ?_⟩
  have e := h.own.cells (g := w.heap.size) rfl t (uv l[t]) (by rw [List.getElem?_map, List.getElem?_eq_getElem ht]; rfl)
  rw [Addr.add_lit, Nat.zero_add] at e
  exact e

/-- What a function on limbs gives, limb by limb. -/
def LimbRes (w w' : World) (l : List Nat) (e : Ending) : Prop := ∃ g cap, e = .returned (.slice (some ⟨g, 0, none⟩) l.length cap) ∧ NatAt w' g l ∧ Below w.heap.size w w'
theorem limbRes_mk {w w' : World} {l m : List Nat} {g cap n : Nat} (e : m = l) (hl : l.length = n) (h : NatAt w' g l) (hb : Below w.heap.size w w') : LimbRes w w' m (.returned (.slice (some ⟨g, 0, none⟩) n cap)) := by
  subst e hl
  exact ⟨g, cap, rfl, h, hb⟩

set_option maxRecDepth 100000 in
set_option maxHeartbeats 2000000 in
theorem natMul_any (g cap k : Nat) (l : List Nat) (w : World) (hn : Norm l) (h : NatAt w g l) (hl : l.length ≤ 1000) (hk : k < 4294967296) (hk1 : 1 ≤ k) :
    Calls Tryd.prog 23 #[.slice (some ⟨g, 0, none⟩) l.length cap, .int .u32 k] w fun e w' => LimbRes w w' (mulL l k 0) e := by
  obtain ⟨i5, hi5, hz5, hy5, hb5⟩ := info_parts Tryd.info47'
  have HI : Hid (Tryd.prog.info? 47 = some i5 ∧ i5.zero = some (.int .u32 0) ∧ i5.size = 1 ∧ i5.bytes = 4) := ⟨hi5, hz5, hy5, hb5⟩
  clear hi5 hz5 hy5 hb5
  obtain ⟨n, hn0⟩ : ∃ n, n = l.length := ⟨_, rfl⟩
  rw [← hn0]
  have HN0 : Hid _ := hn0
  have HH : Hid (NatAt w g l) := h
  have HL : Hid (Norm l) := hn
  have hnb : n ≤ 1000 := by omega
  obtain ⟨c, hc⟩ : ∃ c, c = n + 1 := ⟨_, rfl⟩
  have x0 : (n : Int) + 1 = (c : Int) := by omega
  have hcn : n < c ∧ c ≤ 1001 := by omega
  clear h hn hn0 hc hl
  go_enter Tryd.func23, Tryd.ntmps23
  go_wp2_with (refine wpList_make_own _ rfl _ _ 40 rfl w.heap.size 47 i5 (.int .u32 0) 1 Tryd.underlying40 HI.out.1 HI.out.2.1 HI.out.2.2.1 .i64 .i64 (c : Int) c rfl rfl rfl (by rw [HI.out.2.2.2]; omega) (by unfold maxLen; omega) (Nat.le_refl _) ?_)
  intro w1 own1 gr1
  have hsz : w.heap.size < w1.heap.size := by
    rcases own1.2 with ⟨e, _⟩ | ⟨g, _, _, e, _, h4, _⟩
    · cases e
    · cases e
      exact (Array.getElem?_eq_some_iff.1 h4).1
  have HR0 : Hid (Row32 w w1 c [] 0) := ⟨rfl, own1, ⟨gr1.os, gr1.tape, gr1.output, gr1.size, fun k hk => gr1.block k hk (by simp)⟩, hsz⟩
  clear own1 gr1 hsz
  go_wp2_with fail
  go_loopw [5, 6, 7] (fun ov cv iv W => ∃ j : Nat, iv = .int .i64 j ∧ j ≤ n ∧ ov = .slice (some ⟨w.heap.size, 0, none⟩) j c ∧ cv = .int .u64 ((mulAt k (l.take j) 0).2 : Nat) ∧ Row32 w W c (mulAt k (l.take j) 0).1 j) (fun _ _ iv _ => n - (intOf iv).toNat)
  case atStart => exact ⟨0, rfl, Nat.zero_le _, rfl, rfl, HR0.out⟩
  case round =>
    obtain ⟨j, rfl, hj, rfl, rfl, hrow⟩ := hrel
    have HR : Hid (Row32 w wr c (mulAt k (l.take j) 0).1 j) := hrow
    clear hrow HR0
    have hcr := (mulAt_carry k hk (l.take j) 0 (fun a ha => HL.out.1 a (List.mem_of_mem_take ha)) (by decide)).1
    by_cases hlt : j < n
    · have hjl : j < l.length := by rw [← HN0.out]; exact hlt
      have HS : Hid (mulAt k (l.take (j + 1)) 0 = ((mulAt k (l.take j) 0).1 ++ [(l[j] * k + (mulAt k (l.take j) 0).2) % 4294967296], (l[j] * k + (mulAt k (l.take j) 0).2) / 4294967296)) := by
        rw [Hid, List.take_succ_eq_append_getElem hjl, mulAt_snoc]
      have hcell : wr.cell? ⟨g, j, none⟩ = some (.int .u32 (l[j] : Nat)) := by
        exact (HR.out.bl.cell HH.out.1).trans (HH.out.2 j hjl)
      have hal := HL.out.1 l[j] (List.getElem_mem hjl)
      generalize (mulAt k (l.take j) 0).2 = cr at *
      generalize (mulAt k (l.take j) 0).1 = ol at *
      generalize l[j] = a at *
      have hov := carry_lt hal hk hcr
      obtain ⟨P, hP⟩ : ∃ P, P = a * k := ⟨_, rfl⟩
      obtain ⟨T, hT⟩ : ∃ T, T = P + cr := ⟨_, rfl⟩
      obtain ⟨r, hr⟩ : ∃ r, r = T % 4294967296 := ⟨_, rfl⟩
      obtain ⟨q, hq⟩ : ∃ q, q = T / 4294967296 := ⟨_, rfl⟩
      rw [← hP, ← hT] at hov
      rw [← hP, ← hT, ← hr, ← hq] at HS
      have y1 : (a : Int) * (k : Int) = (P : Int) := by rw [hP]; exact (Int.natCast_mul a k).symm
      have y2 : (P : Int) + (cr : Int) = (T : Int) := by omega
      have y3 : IntKind.u32.wrap (T : Int) = (r : Int) := by rw [IntKind.wrap_u32]; omega
      have y3' : (T : Int) % 4294967296 = (r : Int) := by omega
      have y4 : (T : Int) / 4294967296 = (q : Int) := by omega
      have hPb : P < 18446744073709551616 := by omega
      have hTb : T < 18446744073709551616 := hov.1
      have x1 : (j : Int) < (n : Int) := by omega
      have hrb : r < 4294967296 := by omega
      clear hP hT hr hq hov
      go_wp2_with (at_builtin; refine wpList_append_fits _ rfl (.tmp 29) (.tmp 32) 40 rfl w.heap.size 47 i5 1 Tryd.underlying40 HI.out.1 HI.out.2.2.1 w.heap.size j c _ rfl (HR.out.own.alloc _) ⟨wr.heap.size, 0, none⟩ 1 1 ([r].map uv) rfl rfl (cell_new wr ([r].map uv) 47) (uv_one _) (by omega) ?_)
      intro w3 own3 gr3
      have HR3 : Hid (Row32 w w3 c (ol ++ [r]) (j + 1)) := HR.out.add r own3 gr3
      clear own3 gr3 HR
      go_wp2_with fail
      go_roundw
      case rel =>
        refine ⟨j + 1, by go_num, by omega, rfl, ?_, ?_⟩
        · rw [HS.out]
        · rw [HS.out]; exact HR3.out
      case measure => simp [intOf]; omega
    · have hjn : j = n := by omega
      subst hjn
      have htk : l.take j = l := List.take_of_length_le (by rw [← HN0.out]; exact Nat.le_refl _)
      rw [htk] at HR hcr ⊢
      have HM : Hid _ := mulL_eq k l 0
      generalize (mulAt k l 0).2 = cr at *
      generalize (mulAt k l 0).1 = ol at *
      have x1 : ¬ (j : Int) < (j : Int) := by omega
      by_cases hz : cr = 0
      · subst hz
        have HE : Hid (mulL l k 0 = ol) := by
          have h := HM.out
          rw [if_pos rfl, List.append_nil] at h
          exact h
        go_wp2_with fail
        go_ret
        exact limbRes_mk HE.out HR.out.len HR.out.natAt HR.out.bl
      · have HE : Hid (mulL l k 0 = ol ++ [cr]) := by
          have h := HM.out
          rw [if_neg hz] at h
          exact h
        have y1 : ((cr : Int) != 0) = true := by rw [bne_iff_ne]; omega
        have y2 : ((cr : Int) == 0) = false := by rw [beq_eq_false_iff_ne]; omega
        clear hz HM
        go_wp2_with (at_builtin; refine wpList_append_fits _ rfl (.tmp 38) (.tmp 41) 40 rfl w.heap.size 47 i5 1 Tryd.underlying40 HI.out.1 HI.out.2.2.1 w.heap.size j c _ rfl (HR.out.own.alloc _) ⟨wr.heap.size, 0, none⟩ 1 1 ([cr].map uv) rfl rfl (cell_new wr ([cr].map uv) 47) (uv_one _) (by omega) ?_)
        intro w3 own3 gr3
        have HR3 : Hid (Row32 w w3 c (ol ++ [cr]) (j + 1)) := HR.out.add cr own3 gr3
        clear own3 gr3 HR
        go_wp2_with fail
        go_ret
        exact limbRes_mk HE.out HR3.out.len HR3.out.natAt HR3.out.bl
end Go.Proofs.Qxb6615058aDoor
