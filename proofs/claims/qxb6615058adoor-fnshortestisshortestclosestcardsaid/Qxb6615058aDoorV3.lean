/-
  Walk: zzParseE (7).
-/
import Derived.Test.Qxb6615058aDoorV1
import Derived.WalkMore
import Derived.BigQuiet
import Derived.Deep.QuietTactic
namespace Go.Proofs.Qxb6615058aDoor
open Go.RowKit

theorem ret_quad {a a2 d d2 : Bool} {b b2 : ByteArray} {c c2 : Int} (h1 : a = a2) (h2 : b = b2) (h3 : c = c2) (h4 : d = d2) : Ending.returned (.tuple #[.bool a, .string b, .int .i64 c, .bool d]) = .returned (.tuple #[.bool a2, .string b2, .int .i64 c2, .bool d2]) := by rw [h1, h2, h3, h4]
theorem results_tmp4 {fn : Func} {t u v z : Tmp} (h : fn.results = #[.tmp t, .tmp u, .tmp v, .tmp z]) (tmps : Array Value) (P : Program) (w : World) :
    (results fn tmps).run P w = .ok (.tuple #[tmps.getD t undef, tmps.getD u undef, tmps.getD v undef, tmps.getD z undef]) w := by
  simp [results, h]

theorem valD_snoc' (l : List Nat) (a : Nat) : valD (l ++ [a]) = 10 * valD l + a := by
  induction l with
  | nil => simp [valD]
  | cons b x ih =>
    simp only [List.cons_append, valD, ih, List.length_append, List.length_cons, List.length_nil, Nat.pow_succ]
    generalize 10 ^ x.length = X
    rw [show b * (X * 10) = 10 * (b * X) by rw [← Nat.mul_assoc, Nat.mul_comm]]
    omega

/-- The buffer of zzParseE: 40 bytes, the first ones written. -/
structure Buf (w W : World) (l : List UInt8) : Prop where
  bl : Below w.heap.size w W
  len : l.length ≤ 40
  cell : ∀ t, t < 40 → W.cell? ⟨w.heap.size, t, none⟩ = some (.int .u8 ((l.getD t 0).toNat : Int))
  fz : ∀ t, W.frozen? ⟨w.heap.size, t, none⟩ = false

theorem take_one (ds : List Nat) (h : 0 < ds.length) : (ds.take 1).map dB = [dB ds[0]] := by
  match ds, h with
  | a :: x, _ => rfl

theorem Buf.first {w : World} (b : UInt8) : Buf w (w.alloc (.cells #[.int .u8 (b.toNat : Int), .int .u8 0, .int .u8 0, .int .u8 0, .int .u8 0, .int .u8 0, .int .u8 0, .int .u8 0, .int .u8 0, .int .u8 0, .int .u8 0, .int .u8 0, .int .u8 0, .int .u8 0, .int .u8 0, .int .u8 0, .int .u8 0, .int .u8 0, .int .u8 0, .int .u8 0, .int .u8 0, .int .u8 0, .int .u8 0, .int .u8 0, .int .u8 0, .int .u8 0, .int .u8 0, .int .u8 0, .int .u8 0, .int .u8 0, .int .u8 0, .int .u8 0, .int .u8 0, .int .u8 0, .int .u8 0, .int .u8 0, .int .u8 0, .int .u8 0, .int .u8 0, .int .u8 0] 37)) [b] := by
  refine ⟨(Below.refl _ w).alloc (Nat.le_refl _) _, by simp, ?_, fun t => by go_simp⟩
  intro t ht
  rw [World.cell?_alloc_mark]
  match t, ht with
  | 0, _ => rfl
  | 1, _ => rfl
  | 2, _ => rfl
  | 3, _ => rfl
  | 4, _ => rfl
  | 5, _ => rfl
  | 6, _ => rfl
  | 7, _ => rfl
  | 8, _ => rfl
  | 9, _ => rfl
  | 10, _ => rfl
  | 11, _ => rfl
  | 12, _ => rfl
  | 13, _ => rfl
  | 14, _ => rfl
  | 15, _ => rfl
  | 16, _ => rfl
  | 17, _ => rfl
  | 18, _ => rfl
  | 19, _ => rfl
  | 20, _ => rfl
  | 21, _ => rfl
  | 22, _ => rfl
  | 23, _ => rfl
  | 24, _ => rfl
  | 25, _ => rfl
  | 26, _ => rfl
  | 27, _ => rfl
  | 28, _ => rfl
  | 29, _ => rfl
  | 30, _ => rfl
  | 31, _ => rfl
  | 32, _ => rfl
  | 33, _ => rfl
  | 34, _ => rfl
  | 35, _ => rfl
  | 36, _ => rfl
  | 37, _ => rfl
  | 38, _ => rfl
  | 39, _ => rfl
  | t + 40, h => exact absurd h (by omega)

theorem Buf.push {w W : World} {l : List UInt8} (h : Buf w W l) (hl : l.length < 40) (b : UInt8) {n : Int} (hn : n = (b.toNat : Int)) : Buf w (W.setCell ⟨w.heap.size, l.length, none⟩ (.int .u8 n)) (l ++ [b]) := by
  subst hn
  refine ⟨h.bl.setCell (p := ⟨w.heap.size, l.length, none⟩) (Nat.le_refl _) _, by simp; omega, ?_, fun t => by rw [World.frozen?_setCell]; exact h.fz t⟩
  intro t ht
  by_cases e : t = l.length
  · subst e
    rw [World.cell?_setCell_same _ _ _ (h.cell _ ht)]
    simp
  · rw [World.cell?_setCell_other _ _ _ _ (by intro e2; exact e (congrArg Addr.off e2).symm)]
    rw [h.cell t ht]
    congr 4
    rw [List.getD_eq_getElem?_getD, List.getD_eq_getElem?_getD, List.getElem?_append]
    by_cases hlt : t < l.length
    · rw [if_pos hlt]
    · rw [if_neg hlt, List.getElem?_eq_none (by omega), List.getElem?_eq_none (by simp; omega)]

set_option maxRecDepth 100000 in
set_option maxHeartbeats 2000000 in
theorem parse1_002 (s : ByteArray) (a : Nat) (es : List Nat) (w : World) (hsz : s.size = 5) (hes : es.length = 2) (hed : ∀ d ∈ es, d < 10) (ha : a < 10)
    (gP : (s[0]'(by omega)).toNat = 48 + a) (gE : (s[1]'(by omega)).toNat = 101) (gS : (s[2]'(by omega)).toNat = 43) (gR : s.extract 3 5 = dstr es) :
    Calls Tryd.prog 7 #[.string s] w fun e w' => e = .returned (.tuple #[.bool false, .string (dstr [a]), .int .i64 (((valD es : Nat) : Int)), .bool true]) ∧ Below w.heap.size w w' := by
  have q0 : (((s[0]'(by omega)).toNat : Int) == 45) = false := by rw [beq_eq_false_iff_ne]; omega
  have qP : isD (s[0]'(by omega)).toNat = true := by rw [isD]; simp; omega
  have qP1 : (((s[1]'(by omega)).toNat : Int) == 46) = false := by rw [beq_eq_false_iff_ne]; omega
  have qE : (((s[1]'(by omega)).toNat : Int) != 101) = false := by rw [bne_eq_false_iff_eq]; omega
  have qS1 : (((s[2]'(by omega)).toNat : Int) != 43) = false := by rw [bne_eq_false_iff_eq]; omega
  have qS2 : (((s[2]'(by omega)).toNat : Int) != 45) = true := by rw [bne_iff_ne]; omega
  have qS3 : (((s[2]'(by omega)).toNat : Int) == 45) = false := by rw [beq_eq_false_iff_ne]; omega
  have HP : Hid ((s[0]'(by omega)).toNat = 48 + a) := gP
  have hr := dstr_size es
  rw [hes] at hr
  have HD : Hid (∀ (i : Nat) (h : i < (dstr es).size) (hi : i < es.length), ((dstr es)[i]'h).toNat = 48 + es[i]) := fun i h hi => dstr_get es i h hi hed
  clear gP gE gS 
  go_enter Tryd.func7, Tryd.ntmps7
  go_wp2_with fail
  refine (digit_any _ _).mono ?_
  rintro e w1 ⟨rfl, rfl⟩
  rw [qP]
  go_wp2_with fail
  generalize hW : w1.alloc _ = W
  have HC : Hid (∀ j (hj : j < [dB a].length), W.cell? ((⟨w1.heap.size, 0, none⟩ : Addr).add j) = some (.int .u8 (([dB a][j]).toNat : Int))) := by
    intro j hj
    have hj0 : j = 0 := by simp at hj; omega
    subst hj0
    show W.cell? ⟨w1.heap.size, 0 + 0, none⟩ = some (.int .u8 ((dB a).toNat : Int))
    rw [← hW, dB_nat ha, ← HP.out]
    clear hW
    go_simp
  have HB : Hid (Below w1.heap.size w1 W) := by rw [Hid, ← hW]; exact (Below.refl _ w1).alloc (Nat.le_refl _) _
  have hcv : ∀ n, (convert 38 9 (.slice (some ⟨w1.heap.size, 0, none⟩) 1 40)).run Tryd.prog (W.drewN n) = .ok (.string (dstr [a])) (W.drewN n) := fun n => run_convert_bytes_back (P := Tryd.prog) (W.drewN n) 38 9 5 ⟨w1.heap.size, 0, none⟩ 40 [dB a] Tryd.underlying38 Tryd.underlying5 Tryd.underlying9 HC.out
  clear hW HC HP
  go_loop [13, 14] (fun vv jv => ∃ j : Nat, jv = .int .i64 j ∧ j ≤ es.length ∧ vv = .int .i64 (valD (es.take j) : Nat)) (fun _ jv => es.length - (intOf jv).toNat)
  case atStart => exact ⟨0, rfl, Nat.zero_le _, rfl⟩
  case round =>
    obtain ⟨j, rfl, hj, rfl⟩ := hrel
    by_cases hlt : j < es.length
    · have hl2 : j < 2 := by omega
      have hjr : j < (dstr es).size := by omega
      have x1 : (j : Int) < 2 := by omega
      have dj := HD.out j hjr hlt
      have dl := hed es[j] (List.getElem_mem hlt)
      have qj : isD ((dstr es)[j]'hjr).toNat = true := by rw [isD]; simp; omega
      have HV : Hid (valD (es.take (j + 1)) = 10 * valD (es.take j) + es[j]) := by
        rw [Hid, List.take_succ_eq_append_getElem hlt, valD_snoc']
      have hvb : valD (es.take j) < 1000 := by
        have h1 := valD_lt (es.take j) (fun d hd => hed d (List.mem_of_mem_take hd))
        rw [List.length_take] at h1
        have h2 : 10 ^ min j es.length ≤ 10 ^ 3 := Nat.pow_le_pow_right (by decide) (by omega)
        omega
      have HJ : Hid (((dstr es)[j]'hjr).toNat = 48 + es[j]) := dj
      have b1 : ((dstr es)[j]'hjr).toNat ≤ 57 := by omega
      have b2 : 48 ≤ ((dstr es)[j]'hjr).toNat := by omega
      generalize valD (es.take j) = vj at *
      clear dj dl
      go_wp2_with fail
      refine (digit_any _ _).mono ?_
      rintro e w2 ⟨rfl, rfl⟩
      rw [qj]
      go_wp2_with fail
      go_round
      case rel => exact ⟨j + 1, by go_num, by omega, by rw [HV.out]; have := HJ.out; go_num⟩
      case measure => simp [intOf]; omega
    · have hjL : j = 2 := by omega
      subst hjL
      have ht : es.take 2 = es := List.take_of_length_le (by omega)
      rw [ht]
      have hvb : valD es < 1000 := by
        have h1 := valD_lt es hed
        rw [hes] at h1
        have h2 : 10 ^ 2 ≤ 10 ^ 3 := by decide
        omega
      obtain ⟨vj, hvj⟩ : ∃ v, v = valD es := ⟨_, rfl⟩
      have HVJ : Hid _ := hvj
      rw [← hvj] at hvb ⊢
      clear hvj
      go_wp2_with fail
      go_quiet (fail)
      go_wp2_with fail
      (try simp only [Exit.inBlock, Exit.then])
      refine bodyPost_ret (results_tmp4 rfl _ _ _) rfl ?_
      exact ⟨ret_quad rfl rfl (by rw [HVJ.out]) rfl, ⟨HB.out.os, HB.out.tape, HB.out.output, HB.out.size, HB.out.block⟩⟩
set_option maxRecDepth 100000 in
set_option maxHeartbeats 2000000 in
theorem parse2_002 (s : ByteArray) (ds : List Nat) (pe : Nat) (es : List Nat) (w : World) (hk1 : 2 ≤ ds.length) (HPE : Hid (pe = 0 + 1 + ds.length)) (hpl : 0 + 3 ≤ pe) (hs1 : pe + 2 < s.size) (hs2 : s.size ≤ 40) (hdd : ∀ d ∈ ds, d < 10) (hes : es.length = 2) (hed : ∀ d ∈ es, d < 10)
    (gP : (s[0]'(by omega)).toNat = 48 + ds[0]) (gD : (s[1]'(by omega)).toNat = 46) (HT : Hid (∀ (t : Nat) (_ : 1 ≤ t) (h2 : t < ds.length) (h : 0 + 1 + t < s.size), (s[0 + 1 + t]'h).toNat = 48 + ds[t])) (gE : (s[pe]'(by omega)).toNat = 101) (gS : (s[pe + 1]'(by omega)).toNat = 43) (gR : s.extract (pe + 2) s.size = dstr es) :
    Calls Tryd.prog 7 #[.string s] w fun e w' => e = .returned (.tuple #[.bool false, .string (dstr ds), .int .i64 (((valD es : Nat) : Int)), .bool true]) ∧ Below w.heap.size w w' := by
  have hd0 := hdd ds[0] (List.getElem_mem (by omega))
  have b0 : 0 < s.size := by omega
  have b1 : 1 < s.size := by omega
  have b2 : 2 < s.size := by omega
  have bE : pe < s.size := by omega
  have bS : pe + 1 < s.size := by omega
  have ne : ¬ s.size = 0 := by omega
  have ne2 : ¬ s = ByteArray.empty := fun e => by rw [e] at b0; exact absurd b0 (by decide)
  have c0 : (s.size : Int) ≤ 40 := by omega
  have c1 : (0 : Int) < (s.size : Int) := by omega
  have c2 : (1 : Int) < (s.size : Int) := by omega
  have c3 : (2 : Int) < (s.size : Int) := by omega
  have e0 : decide ((40 : Int) < (s.size : Int)) = false := by simp; omega
  have e1 : decide ((s.size : Int) ≤ 0) = false := by simp; omega
  have e2 : decide ((s.size : Int) ≤ 1) = false := by simp; omega
  have e3 : decide ((0 : Int) < (s.size : Int)) = true := by simp; omega
  have e4 : decide ((1 : Int) < (s.size : Int)) = true := by simp; omega
  have e5 : decide ((2 : Int) < (s.size : Int)) = true := by simp; omega
  have q0 : (((s[0]'b0).toNat : Int) == 45) = false := by rw [beq_eq_false_iff_ne]; omega
  have qP : isD (s[0]'(by omega)).toNat = true := by rw [isD]; simp; omega
  have qD : (((s[1]'(by omega)).toNat : Int) == 46) = true := by rw [beq_iff_eq]; omega
  have HE : Hid (isD (s[pe]'bE).toNat = false) := by rw [Hid, isD]; simp; omega
  have qE : (((s[pe]'bE).toNat : Int) != 101) = false := by rw [bne_eq_false_iff_eq]; omega
  have qS1 : (((s[pe + 1]'bS).toNat : Int) != 43) = false := by rw [bne_eq_false_iff_eq]; omega
  have qS2 : (((s[pe + 1]'bS).toNat : Int) != 45) = true := by rw [bne_iff_ne]; omega
  have qS3 : (((s[pe + 1]'bS).toNat : Int) == 45) = false := by rw [beq_eq_false_iff_ne]; omega
  have HP : Hid ((s[0]'(by omega)).toNat = 48 + ds[0]) := gP
  have hpu : pe ≤ 38 := by omega
  have hr := dstr_size es
  rw [hes] at hr
  have HD : Hid (∀ (i : Nat) (h : i < (dstr es).size) (hi : i < es.length), ((dstr es)[i]'h).toNat = 48 + es[i]) := fun i h hi => dstr_get es i h hi hed
  clear gP gE gS gD 
  go_enter Tryd.func7, Tryd.ntmps7
  go_wp2_with fail
  refine (digit_any _ _).mono ?_
  rintro e w1 ⟨rfl, rfl⟩
  rw [qP]
  go_wp2_with fail
  generalize hW : w1.alloc _ = W0
  have HBUF : Hid (Buf w1 W0 [dB ds[0]]) := by
    rw [Hid, ← hW, HP.out, ← dB_nat hd0]
    exact Buf.first (dB ds[0])
  clear hW HP
  go_loopw [7, 9] (fun iv nv W => ∃ t : Nat, iv = .int .i64 ((0 + 1 + t : Nat) : Int) ∧ nv = .int .i64 t ∧ 1 ≤ t ∧ t ≤ ds.length ∧ Buf w1 W ((ds.take t).map dB)) (fun _ nv _ => ds.length - (intOf nv).toNat)
  case atStart => exact ⟨1, by go_num, by go_num, by omega, by omega, by rw [take_one ds (by omega)]; exact HBUF.out⟩
  case round =>
    obtain ⟨t, rfl, rfl, ht1, ht2, hbuf⟩ := hrel
    have HB2 : Hid _ := hbuf
    clear HBUF hbuf
    obtain ⟨i, hi0⟩ : ∃ i, i = 0 + 1 + t := ⟨_, rfl⟩
    rw [← hi0]
    by_cases hlt : t < ds.length
    · have hi : i < s.size := by have := HPE.out; omega
      have hg : (s[i]'hi).toNat = 48 + ds[t] := by subst hi0; exact HT.out t ht1 hlt hi
      have hdt := hdd ds[t] (List.getElem_mem hlt)
      have qt : isD (s[i]'hi).toNat = true := by rw [isD]; simp; omega
      have x1 : (i : Int) < (s.size : Int) := by omega
      have hib : i ≤ 40 := by omega
      have htb : t < 40 := by omega
      have ct := HB2.out.cell t (by omega)
      have ft := HB2.out.fz t
      have HG : Hid ((((s[i]'hi).toNat : Nat) : Int) = ((dB ds[t]).toNat : Int)) := by rw [Hid, dB_nat hdt]; omega
      have HI : Hid _ := hi0
      have HLN : Hid (((ds.take t).map dB).length = t) := by rw [Hid, List.length_map, List.length_take]; omega
      have HTK : Hid ((ds.take (t + 1)).map dB = (ds.take t).map dB ++ [dB ds[t]]) := by rw [Hid, List.take_succ_eq_append_getElem hlt, List.map_append]; rfl
      clear hg hi0 hdt
      go_wp2_with fail
      refine (digit_any _ _).mono ?_
      rintro e w2 ⟨rfl, rfl⟩
      rw [qt]
      go_wp2_with fail
      go_roundw
      case rel =>
        refine ⟨t + 1, by have := HI.out; go_num, by go_num, by omega, by omega, ?_⟩
        rw [HTK.out]
        have h := HB2.out.push (by rw [HLN.out]; omega) (dB ds[t]) HG.out
        rw [HLN.out] at h
        exact h
      case measure => simp [intOf]; omega
    · have hip : i = pe := by have := HPE.out; omega
      subst hip
      have htk : (ds.take t).map dB = ds.map dB := by rw [List.take_of_length_le (by omega)]
      rw [htk] at HB2
      have htl : t = ds.length := by omega
      have htb : t ≤ 40 := by omega
      have f1 : (t : Int) ≤ 40 := by omega
      have f2 : (0 : Int) ≤ (t : Int) := by omega
      have f3 : ¬ (40 : Int) < (t : Int) := by omega
      have f4 : ¬ 40 < t := by omega
      have f5 : (0 : Int) ≤ (t : Int) ∧ (t : Int) ≤ 40 := by omega
      have x1 : (i : Int) < (s.size : Int) := by omega
      have x2 : (i : Int) + 1 < (s.size : Int) := by omega
      have x3 : ((i : Int) == 2) = false := by rw [beq_eq_false_iff_ne]; omega
      have x4 : ¬ (i : Int) = 2 := by omega
      have x5 : ¬ (s.size : Int) ≤ (i : Int) := by omega
      have x6 : ¬ (s.size : Int) ≤ (i : Int) + 1 := by omega
      have e6 : decide ((s.size : Int) ≤ (i : Int)) = false := by simp; omega
      have e7 : decide ((s.size : Int) ≤ (i : Int) + 1) = false := by simp; omega
      have e8 : decide (s.size ≤ i) = false := by simp; omega
      have e9 : decide ((i : Int) < (s.size : Int)) = true := by simp; omega
      have x7 : (i : Int) + 2 ≤ (s.size : Int) := by omega
      have HTL : Hid _ := htl
      clear hi0 htl htk hlt HPE HT
      go_wp2_with fail
      refine (digit_any _ _).mono ?_
      rintro e w2 ⟨rfl, rfl⟩
      rw [HE.out]
      go_wp2_with fail
      have HB : Hid (Below w1.heap.size w1 w2) := HB2.out.bl
      have hcv : ∀ n, (convert 38 9 (.slice (some ⟨w1.heap.size, 0, none⟩) t 40)).run Tryd.prog (w2.drewN n) = .ok (.string (dstr ds)) (w2.drewN n) := fun n => by
        have h := run_convert_bytes_back (P := Tryd.prog) (w2.drewN n) 38 9 5 ⟨w1.heap.size, 0, none⟩ 40 (ds.map dB) Tryd.underlying38 Tryd.underlying5 Tryd.underlying9 (fun j hj => by
          have hj2 : j < 40 := by rw [List.length_map, ← HTL.out] at hj; omega
          have hc := HB2.out.cell j hj2
          rw [List.getD_eq_getElem?_getD, List.getElem?_eq_getElem hj, Option.getD_some] at hc
          rw [Addr.add_lit, Nat.zero_add]
          exact hc)
        rw [List.length_map, ← HTL.out] at h
        exact h
      clear HB2 HTL
      have gR2 : s.extract (i + 1 + 1) s.size = dstr es := gR
      rw [gR2]
      clear gR2 gR
      go_loop [13, 14] (fun vv jv => ∃ j : Nat, jv = .int .i64 j ∧ j ≤ es.length ∧ vv = .int .i64 (valD (es.take j) : Nat)) (fun _ jv => es.length - (intOf jv).toNat)
      case atStart => exact ⟨0, rfl, Nat.zero_le _, rfl⟩
      case round =>
        obtain ⟨j, rfl, hj, rfl⟩ := hrel
        by_cases hlt : j < es.length
        · have hl2 : j < 2 := by omega
          have hjr : j < (dstr es).size := by omega
          have x1 : (j : Int) < 2 := by omega
          have dj := HD.out j hjr hlt
          have dl := hed es[j] (List.getElem_mem hlt)
          have qj : isD ((dstr es)[j]'hjr).toNat = true := by rw [isD]; simp; omega
          have HV : Hid (valD (es.take (j + 1)) = 10 * valD (es.take j) + es[j]) := by
            rw [Hid, List.take_succ_eq_append_getElem hlt, valD_snoc']
          have hvb : valD (es.take j) < 1000 := by
            have h1 := valD_lt (es.take j) (fun d hd => hed d (List.mem_of_mem_take hd))
            rw [List.length_take] at h1
            have h2 : 10 ^ min j es.length ≤ 10 ^ 3 := Nat.pow_le_pow_right (by decide) (by omega)
            omega
          have HJ : Hid (((dstr es)[j]'hjr).toNat = 48 + es[j]) := dj
          have b1 : ((dstr es)[j]'hjr).toNat ≤ 57 := by omega
          have b2 : 48 ≤ ((dstr es)[j]'hjr).toNat := by omega
          generalize valD (es.take j) = vj at *
          clear dj dl
          go_wp2_with fail
          refine (digit_any _ _).mono ?_
          rintro e w3 ⟨rfl, rfl⟩
          rw [qj]
          go_wp2_with fail
          go_round
          case rel => exact ⟨j + 1, by go_num, by omega, by rw [HV.out]; have := HJ.out; go_num⟩
          case measure => simp [intOf]; omega
        · have hjL : j = 2 := by omega
          subst hjL
          have ht : es.take 2 = es := List.take_of_length_le (by omega)
          rw [ht]
          have hvb : valD es < 1000 := by
            have h1 := valD_lt es hed
            rw [hes] at h1
            have h2 : 10 ^ 2 ≤ 10 ^ 3 := by decide
            omega
          obtain ⟨vj, hvj⟩ : ∃ v, v = valD es := ⟨_, rfl⟩
          have HVJ : Hid _ := hvj
          rw [← hvj] at hvb ⊢
          clear hvj
          go_wp2_with fail
          go_quiet (fail)
          go_wp2_with fail
          (try simp only [Exit.inBlock, Exit.then])
          refine bodyPost_ret (results_tmp4 rfl _ _ _) rfl ?_
          exact ⟨ret_quad rfl rfl (by rw [HVJ.out]) rfl, ⟨HB.out.os, HB.out.tape, HB.out.output, HB.out.size, HB.out.block⟩⟩
set_option maxRecDepth 100000 in
set_option maxHeartbeats 2000000 in
theorem parse1_003 (s : ByteArray) (a : Nat) (es : List Nat) (w : World) (hsz : s.size = 6) (hes : es.length = 3) (hed : ∀ d ∈ es, d < 10) (ha : a < 10) (h3 : es[0]? ≠ some 0)
    (gP : (s[0]'(by omega)).toNat = 48 + a) (gE : (s[1]'(by omega)).toNat = 101) (gS : (s[2]'(by omega)).toNat = 43) (gR : s.extract 3 6 = dstr es) :
    Calls Tryd.prog 7 #[.string s] w fun e w' => e = .returned (.tuple #[.bool false, .string (dstr [a]), .int .i64 (((valD es : Nat) : Int)), .bool true]) ∧ Below w.heap.size w w' := by
  have q0 : (((s[0]'(by omega)).toNat : Int) == 45) = false := by rw [beq_eq_false_iff_ne]; omega
  have qP : isD (s[0]'(by omega)).toNat = true := by rw [isD]; simp; omega
  have qP1 : (((s[1]'(by omega)).toNat : Int) == 46) = false := by rw [beq_eq_false_iff_ne]; omega
  have qE : (((s[1]'(by omega)).toNat : Int) != 101) = false := by rw [bne_eq_false_iff_eq]; omega
  have qS1 : (((s[2]'(by omega)).toNat : Int) != 43) = false := by rw [bne_eq_false_iff_eq]; omega
  have qS2 : (((s[2]'(by omega)).toNat : Int) != 45) = true := by rw [bne_iff_ne]; omega
  have qS3 : (((s[2]'(by omega)).toNat : Int) == 45) = false := by rw [beq_eq_false_iff_ne]; omega
  have HP : Hid ((s[0]'(by omega)).toNat = 48 + a) := gP
  have hr := dstr_size es
  rw [hes] at hr
  have HD : Hid (∀ (i : Nat) (h : i < (dstr es).size) (hi : i < es.length), ((dstr es)[i]'h).toNat = 48 + es[i]) := fun i h hi => dstr_get es i h hi hed
  have hr0 : 0 < (dstr es).size := by omega
  have z0 : (((dstr es)[0]'hr0).toNat : Int) ≠ 48 := by
    rw [dstr_get es 0 _ (by omega) hed]
    rw [List.getElem?_eq_getElem (by omega : 0 < es.length)] at h3
    simp at h3
    omega
  have z1 : ((((dstr es)[0]'hr0).toNat : Int) == 48) = false := by rw [beq_eq_false_iff_ne]; exact z0
  clear gP gE gS h3 
  go_enter Tryd.func7, Tryd.ntmps7
  go_wp2_with fail
  refine (digit_any _ _).mono ?_
  rintro e w1 ⟨rfl, rfl⟩
  rw [qP]
  go_wp2_with fail
  generalize hW : w1.alloc _ = W
  have HC : Hid (∀ j (hj : j < [dB a].length), W.cell? ((⟨w1.heap.size, 0, none⟩ : Addr).add j) = some (.int .u8 (([dB a][j]).toNat : Int))) := by
    intro j hj
    have hj0 : j = 0 := by simp at hj; omega
    subst hj0
    show W.cell? ⟨w1.heap.size, 0 + 0, none⟩ = some (.int .u8 ((dB a).toNat : Int))
    rw [← hW, dB_nat ha, ← HP.out]
    clear hW
    go_simp
  have HB : Hid (Below w1.heap.size w1 W) := by rw [Hid, ← hW]; exact (Below.refl _ w1).alloc (Nat.le_refl _) _
  have hcv : ∀ n, (convert 38 9 (.slice (some ⟨w1.heap.size, 0, none⟩) 1 40)).run Tryd.prog (W.drewN n) = .ok (.string (dstr [a])) (W.drewN n) := fun n => run_convert_bytes_back (P := Tryd.prog) (W.drewN n) 38 9 5 ⟨w1.heap.size, 0, none⟩ 40 [dB a] Tryd.underlying38 Tryd.underlying5 Tryd.underlying9 HC.out
  clear hW HC HP
  go_loop [13, 14] (fun vv jv => ∃ j : Nat, jv = .int .i64 j ∧ j ≤ es.length ∧ vv = .int .i64 (valD (es.take j) : Nat)) (fun _ jv => es.length - (intOf jv).toNat)
  case atStart => exact ⟨0, rfl, Nat.zero_le _, rfl⟩
  case round =>
    obtain ⟨j, rfl, hj, rfl⟩ := hrel
    by_cases hlt : j < es.length
    · have hl2 : j < 3 := by omega
      have hjr : j < (dstr es).size := by omega
      have x1 : (j : Int) < 3 := by omega
      have dj := HD.out j hjr hlt
      have dl := hed es[j] (List.getElem_mem hlt)
      have qj : isD ((dstr es)[j]'hjr).toNat = true := by rw [isD]; simp; omega
      have HV : Hid (valD (es.take (j + 1)) = 10 * valD (es.take j) + es[j]) := by
        rw [Hid, List.take_succ_eq_append_getElem hlt, valD_snoc']
      have hvb : valD (es.take j) < 1000 := by
        have h1 := valD_lt (es.take j) (fun d hd => hed d (List.mem_of_mem_take hd))
        rw [List.length_take] at h1
        have h2 : 10 ^ min j es.length ≤ 10 ^ 3 := Nat.pow_le_pow_right (by decide) (by omega)
        omega
      have HJ : Hid (((dstr es)[j]'hjr).toNat = 48 + es[j]) := dj
      have b1 : ((dstr es)[j]'hjr).toNat ≤ 57 := by omega
      have b2 : 48 ≤ ((dstr es)[j]'hjr).toNat := by omega
      generalize valD (es.take j) = vj at *
      clear dj dl
      go_wp2_with fail
      refine (digit_any _ _).mono ?_
      rintro e w2 ⟨rfl, rfl⟩
      rw [qj]
      go_wp2_with fail
      go_round
      case rel => exact ⟨j + 1, by go_num, by omega, by rw [HV.out]; have := HJ.out; go_num⟩
      case measure => simp [intOf]; omega
    · have hjL : j = 3 := by omega
      subst hjL
      have ht : es.take 3 = es := List.take_of_length_le (by omega)
      rw [ht]
      have hvb : valD es < 1000 := by
        have h1 := valD_lt es hed
        rw [hes] at h1
        have h2 : 10 ^ 3 ≤ 10 ^ 3 := by decide
        omega
      obtain ⟨vj, hvj⟩ : ∃ v, v = valD es := ⟨_, rfl⟩
      have HVJ : Hid _ := hvj
      rw [← hvj] at hvb ⊢
      clear hvj
      go_wp2_with fail
      go_quiet (fail)
      go_wp2_with fail
      (try simp only [Exit.inBlock, Exit.then])
      refine bodyPost_ret (results_tmp4 rfl _ _ _) rfl ?_
      exact ⟨ret_quad rfl rfl (by rw [HVJ.out]) rfl, ⟨HB.out.os, HB.out.tape, HB.out.output, HB.out.size, HB.out.block⟩⟩
set_option maxRecDepth 100000 in
set_option maxHeartbeats 2000000 in
theorem parse2_003 (s : ByteArray) (ds : List Nat) (pe : Nat) (es : List Nat) (w : World) (hk1 : 2 ≤ ds.length) (HPE : Hid (pe = 0 + 1 + ds.length)) (hpl : 0 + 3 ≤ pe) (hs1 : pe + 2 < s.size) (hs2 : s.size ≤ 40) (hdd : ∀ d ∈ ds, d < 10) (hes : es.length = 3) (hed : ∀ d ∈ es, d < 10) (h3 : es[0]? ≠ some 0)
    (gP : (s[0]'(by omega)).toNat = 48 + ds[0]) (gD : (s[1]'(by omega)).toNat = 46) (HT : Hid (∀ (t : Nat) (_ : 1 ≤ t) (h2 : t < ds.length) (h : 0 + 1 + t < s.size), (s[0 + 1 + t]'h).toNat = 48 + ds[t])) (gE : (s[pe]'(by omega)).toNat = 101) (gS : (s[pe + 1]'(by omega)).toNat = 43) (gR : s.extract (pe + 2) s.size = dstr es) :
    Calls Tryd.prog 7 #[.string s] w fun e w' => e = .returned (.tuple #[.bool false, .string (dstr ds), .int .i64 (((valD es : Nat) : Int)), .bool true]) ∧ Below w.heap.size w w' := by
  have hd0 := hdd ds[0] (List.getElem_mem (by omega))
  have b0 : 0 < s.size := by omega
  have b1 : 1 < s.size := by omega
  have b2 : 2 < s.size := by omega
  have bE : pe < s.size := by omega
  have bS : pe + 1 < s.size := by omega
  have ne : ¬ s.size = 0 := by omega
  have ne2 : ¬ s = ByteArray.empty := fun e => by rw [e] at b0; exact absurd b0 (by decide)
  have c0 : (s.size : Int) ≤ 40 := by omega
  have c1 : (0 : Int) < (s.size : Int) := by omega
  have c2 : (1 : Int) < (s.size : Int) := by omega
  have c3 : (2 : Int) < (s.size : Int) := by omega
  have e0 : decide ((40 : Int) < (s.size : Int)) = false := by simp; omega
  have e1 : decide ((s.size : Int) ≤ 0) = false := by simp; omega
  have e2 : decide ((s.size : Int) ≤ 1) = false := by simp; omega
  have e3 : decide ((0 : Int) < (s.size : Int)) = true := by simp; omega
  have e4 : decide ((1 : Int) < (s.size : Int)) = true := by simp; omega
  have e5 : decide ((2 : Int) < (s.size : Int)) = true := by simp; omega
  have q0 : (((s[0]'b0).toNat : Int) == 45) = false := by rw [beq_eq_false_iff_ne]; omega
  have qP : isD (s[0]'(by omega)).toNat = true := by rw [isD]; simp; omega
  have qD : (((s[1]'(by omega)).toNat : Int) == 46) = true := by rw [beq_iff_eq]; omega
  have HE : Hid (isD (s[pe]'bE).toNat = false) := by rw [Hid, isD]; simp; omega
  have qE : (((s[pe]'bE).toNat : Int) != 101) = false := by rw [bne_eq_false_iff_eq]; omega
  have qS1 : (((s[pe + 1]'bS).toNat : Int) != 43) = false := by rw [bne_eq_false_iff_eq]; omega
  have qS2 : (((s[pe + 1]'bS).toNat : Int) != 45) = true := by rw [bne_iff_ne]; omega
  have qS3 : (((s[pe + 1]'bS).toNat : Int) == 45) = false := by rw [beq_eq_false_iff_ne]; omega
  have HP : Hid ((s[0]'(by omega)).toNat = 48 + ds[0]) := gP
  have hpu : pe ≤ 38 := by omega
  have hr := dstr_size es
  rw [hes] at hr
  have HD : Hid (∀ (i : Nat) (h : i < (dstr es).size) (hi : i < es.length), ((dstr es)[i]'h).toNat = 48 + es[i]) := fun i h hi => dstr_get es i h hi hed
  have hr0 : 0 < (dstr es).size := by omega
  have z0 : (((dstr es)[0]'hr0).toNat : Int) ≠ 48 := by
    rw [dstr_get es 0 _ (by omega) hed]
    rw [List.getElem?_eq_getElem (by omega : 0 < es.length)] at h3
    simp at h3
    omega
  have z1 : ((((dstr es)[0]'hr0).toNat : Int) == 48) = false := by rw [beq_eq_false_iff_ne]; exact z0
  clear gP gE gS gD h3 
  go_enter Tryd.func7, Tryd.ntmps7
  go_wp2_with fail
  refine (digit_any _ _).mono ?_
  rintro e w1 ⟨rfl, rfl⟩
  rw [qP]
  go_wp2_with fail
  generalize hW : w1.alloc _ = W0
  have HBUF : Hid (Buf w1 W0 [dB ds[0]]) := by
    rw [Hid, ← hW, HP.out, ← dB_nat hd0]
    exact Buf.first (dB ds[0])
  clear hW HP
  go_loopw [7, 9] (fun iv nv W => ∃ t : Nat, iv = .int .i64 ((0 + 1 + t : Nat) : Int) ∧ nv = .int .i64 t ∧ 1 ≤ t ∧ t ≤ ds.length ∧ Buf w1 W ((ds.take t).map dB)) (fun _ nv _ => ds.length - (intOf nv).toNat)
  case atStart => exact ⟨1, by go_num, by go_num, by omega, by omega, by rw [take_one ds (by omega)]; exact HBUF.out⟩
  case round =>
    obtain ⟨t, rfl, rfl, ht1, ht2, hbuf⟩ := hrel
    have HB2 : Hid _ := hbuf
    clear HBUF hbuf
    obtain ⟨i, hi0⟩ : ∃ i, i = 0 + 1 + t := ⟨_, rfl⟩
    rw [← hi0]
    by_cases hlt : t < ds.length
    · have hi : i < s.size := by have := HPE.out; omega
      have hg : (s[i]'hi).toNat = 48 + ds[t] := by subst hi0; exact HT.out t ht1 hlt hi
      have hdt := hdd ds[t] (List.getElem_mem hlt)
      have qt : isD (s[i]'hi).toNat = true := by rw [isD]; simp; omega
      have x1 : (i : Int) < (s.size : Int) := by omega
      have hib : i ≤ 40 := by omega
      have htb : t < 40 := by omega
      have ct := HB2.out.cell t (by omega)
      have ft := HB2.out.fz t
      have HG : Hid ((((s[i]'hi).toNat : Nat) : Int) = ((dB ds[t]).toNat : Int)) := by rw [Hid, dB_nat hdt]; omega
      have HI : Hid _ := hi0
      have HLN : Hid (((ds.take t).map dB).length = t) := by rw [Hid, List.length_map, List.length_take]; omega
      have HTK : Hid ((ds.take (t + 1)).map dB = (ds.take t).map dB ++ [dB ds[t]]) := by rw [Hid, List.take_succ_eq_append_getElem hlt, List.map_append]; rfl
      clear hg hi0 hdt
      go_wp2_with fail
      refine (digit_any _ _).mono ?_
      rintro e w2 ⟨rfl, rfl⟩
      rw [qt]
      go_wp2_with fail
      go_roundw
      case rel =>
        refine ⟨t + 1, by have := HI.out; go_num, by go_num, by omega, by omega, ?_⟩
        rw [HTK.out]
        have h := HB2.out.push (by rw [HLN.out]; omega) (dB ds[t]) HG.out
        rw [HLN.out] at h
        exact h
      case measure => simp [intOf]; omega
    · have hip : i = pe := by have := HPE.out; omega
      subst hip
      have htk : (ds.take t).map dB = ds.map dB := by rw [List.take_of_length_le (by omega)]
      rw [htk] at HB2
      have htl : t = ds.length := by omega
      have htb : t ≤ 40 := by omega
      have f1 : (t : Int) ≤ 40 := by omega
      have f2 : (0 : Int) ≤ (t : Int) := by omega
      have f3 : ¬ (40 : Int) < (t : Int) := by omega
      have f4 : ¬ 40 < t := by omega
      have f5 : (0 : Int) ≤ (t : Int) ∧ (t : Int) ≤ 40 := by omega
      have x1 : (i : Int) < (s.size : Int) := by omega
      have x2 : (i : Int) + 1 < (s.size : Int) := by omega
      have x3 : ((i : Int) == 2) = false := by rw [beq_eq_false_iff_ne]; omega
      have x4 : ¬ (i : Int) = 2 := by omega
      have x5 : ¬ (s.size : Int) ≤ (i : Int) := by omega
      have x6 : ¬ (s.size : Int) ≤ (i : Int) + 1 := by omega
      have e6 : decide ((s.size : Int) ≤ (i : Int)) = false := by simp; omega
      have e7 : decide ((s.size : Int) ≤ (i : Int) + 1) = false := by simp; omega
      have e8 : decide (s.size ≤ i) = false := by simp; omega
      have e9 : decide ((i : Int) < (s.size : Int)) = true := by simp; omega
      have x7 : (i : Int) + 2 ≤ (s.size : Int) := by omega
      have HTL : Hid _ := htl
      clear hi0 htl htk hlt HPE HT
      go_wp2_with fail
      refine (digit_any _ _).mono ?_
      rintro e w2 ⟨rfl, rfl⟩
      rw [HE.out]
      go_wp2_with fail
      have HB : Hid (Below w1.heap.size w1 w2) := HB2.out.bl
      have hcv : ∀ n, (convert 38 9 (.slice (some ⟨w1.heap.size, 0, none⟩) t 40)).run Tryd.prog (w2.drewN n) = .ok (.string (dstr ds)) (w2.drewN n) := fun n => by
        have h := run_convert_bytes_back (P := Tryd.prog) (w2.drewN n) 38 9 5 ⟨w1.heap.size, 0, none⟩ 40 (ds.map dB) Tryd.underlying38 Tryd.underlying5 Tryd.underlying9 (fun j hj => by
          have hj2 : j < 40 := by rw [List.length_map, ← HTL.out] at hj; omega
          have hc := HB2.out.cell j hj2
          rw [List.getD_eq_getElem?_getD, List.getElem?_eq_getElem hj, Option.getD_some] at hc
          rw [Addr.add_lit, Nat.zero_add]
          exact hc)
        rw [List.length_map, ← HTL.out] at h
        exact h
      clear HB2 HTL
      have gR2 : s.extract (i + 1 + 1) s.size = dstr es := gR
      rw [gR2]
      clear gR2 gR
      go_loop [13, 14] (fun vv jv => ∃ j : Nat, jv = .int .i64 j ∧ j ≤ es.length ∧ vv = .int .i64 (valD (es.take j) : Nat)) (fun _ jv => es.length - (intOf jv).toNat)
      case atStart => exact ⟨0, rfl, Nat.zero_le _, rfl⟩
      case round =>
        obtain ⟨j, rfl, hj, rfl⟩ := hrel
        by_cases hlt : j < es.length
        · have hl2 : j < 3 := by omega
          have hjr : j < (dstr es).size := by omega
          have x1 : (j : Int) < 3 := by omega
          have dj := HD.out j hjr hlt
          have dl := hed es[j] (List.getElem_mem hlt)
          have qj : isD ((dstr es)[j]'hjr).toNat = true := by rw [isD]; simp; omega
          have HV : Hid (valD (es.take (j + 1)) = 10 * valD (es.take j) + es[j]) := by
            rw [Hid, List.take_succ_eq_append_getElem hlt, valD_snoc']
          have hvb : valD (es.take j) < 1000 := by
            have h1 := valD_lt (es.take j) (fun d hd => hed d (List.mem_of_mem_take hd))
            rw [List.length_take] at h1
            have h2 : 10 ^ min j es.length ≤ 10 ^ 3 := Nat.pow_le_pow_right (by decide) (by omega)
            omega
          have HJ : Hid (((dstr es)[j]'hjr).toNat = 48 + es[j]) := dj
          have b1 : ((dstr es)[j]'hjr).toNat ≤ 57 := by omega
          have b2 : 48 ≤ ((dstr es)[j]'hjr).toNat := by omega
          generalize valD (es.take j) = vj at *
          clear dj dl
          go_wp2_with fail
          refine (digit_any _ _).mono ?_
          rintro e w3 ⟨rfl, rfl⟩
          rw [qj]
          go_wp2_with fail
          go_round
          case rel => exact ⟨j + 1, by go_num, by omega, by rw [HV.out]; have := HJ.out; go_num⟩
          case measure => simp [intOf]; omega
        · have hjL : j = 3 := by omega
          subst hjL
          have ht : es.take 3 = es := List.take_of_length_le (by omega)
          rw [ht]
          have hvb : valD es < 1000 := by
            have h1 := valD_lt es hed
            rw [hes] at h1
            have h2 : 10 ^ 3 ≤ 10 ^ 3 := by decide
            omega
          obtain ⟨vj, hvj⟩ : ∃ v, v = valD es := ⟨_, rfl⟩
          have HVJ : Hid _ := hvj
          rw [← hvj] at hvb ⊢
          clear hvj
          go_wp2_with fail
          go_quiet (fail)
          go_wp2_with fail
          (try simp only [Exit.inBlock, Exit.then])
          refine bodyPost_ret (results_tmp4 rfl _ _ _) rfl ?_
          exact ⟨ret_quad rfl rfl (by rw [HVJ.out]) rfl, ⟨HB.out.os, HB.out.tape, HB.out.output, HB.out.size, HB.out.block⟩⟩
set_option maxRecDepth 100000 in
set_option maxHeartbeats 2000000 in
theorem parse1_012 (s : ByteArray) (a : Nat) (es : List Nat) (w : World) (hsz : s.size = 5) (hes : es.length = 2) (hed : ∀ d ∈ es, d < 10) (hv : valD es ≠ 0) (ha : a < 10)
    (gP : (s[0]'(by omega)).toNat = 48 + a) (gE : (s[1]'(by omega)).toNat = 101) (gS : (s[2]'(by omega)).toNat = 45) (gR : s.extract 3 5 = dstr es) :
    Calls Tryd.prog 7 #[.string s] w fun e w' => e = .returned (.tuple #[.bool false, .string (dstr [a]), .int .i64 (-((valD es : Nat) : Int)), .bool true]) ∧ Below w.heap.size w w' := by
  have q0 : (((s[0]'(by omega)).toNat : Int) == 45) = false := by rw [beq_eq_false_iff_ne]; omega
  have qP : isD (s[0]'(by omega)).toNat = true := by rw [isD]; simp; omega
  have qP1 : (((s[1]'(by omega)).toNat : Int) == 46) = false := by rw [beq_eq_false_iff_ne]; omega
  have qE : (((s[1]'(by omega)).toNat : Int) != 101) = false := by rw [bne_eq_false_iff_eq]; omega
  have qS1 : (((s[2]'(by omega)).toNat : Int) != 43) = true := by rw [bne_iff_ne]; omega
  have qS2 : (((s[2]'(by omega)).toNat : Int) != 45) = false := by rw [bne_eq_false_iff_eq]; omega
  have qS3 : (((s[2]'(by omega)).toNat : Int) == 45) = true := by rw [beq_iff_eq]; omega
  have HP : Hid ((s[0]'(by omega)).toNat = 48 + a) := gP
  have hr := dstr_size es
  rw [hes] at hr
  have HD : Hid (∀ (i : Nat) (h : i < (dstr es).size) (hi : i < es.length), ((dstr es)[i]'h).toNat = 48 + es[i]) := fun i h hi => dstr_get es i h hi hed
  clear gP gE gS 
  go_enter Tryd.func7, Tryd.ntmps7
  go_wp2_with fail
  refine (digit_any _ _).mono ?_
  rintro e w1 ⟨rfl, rfl⟩
  rw [qP]
  go_wp2_with fail
  generalize hW : w1.alloc _ = W
  have HC : Hid (∀ j (hj : j < [dB a].length), W.cell? ((⟨w1.heap.size, 0, none⟩ : Addr).add j) = some (.int .u8 (([dB a][j]).toNat : Int))) := by
    intro j hj
    have hj0 : j = 0 := by simp at hj; omega
    subst hj0
    show W.cell? ⟨w1.heap.size, 0 + 0, none⟩ = some (.int .u8 ((dB a).toNat : Int))
    rw [← hW, dB_nat ha, ← HP.out]
    clear hW
    go_simp
  have HB : Hid (Below w1.heap.size w1 W) := by rw [Hid, ← hW]; exact (Below.refl _ w1).alloc (Nat.le_refl _) _
  have hcv : ∀ n, (convert 38 9 (.slice (some ⟨w1.heap.size, 0, none⟩) 1 40)).run Tryd.prog (W.drewN n) = .ok (.string (dstr [a])) (W.drewN n) := fun n => run_convert_bytes_back (P := Tryd.prog) (W.drewN n) 38 9 5 ⟨w1.heap.size, 0, none⟩ 40 [dB a] Tryd.underlying38 Tryd.underlying5 Tryd.underlying9 HC.out
  clear hW HC HP
  go_loop [13, 14] (fun vv jv => ∃ j : Nat, jv = .int .i64 j ∧ j ≤ es.length ∧ vv = .int .i64 (valD (es.take j) : Nat)) (fun _ jv => es.length - (intOf jv).toNat)
  case atStart => exact ⟨0, rfl, Nat.zero_le _, rfl⟩
  case round =>
    obtain ⟨j, rfl, hj, rfl⟩ := hrel
    by_cases hlt : j < es.length
    · have hl2 : j < 2 := by omega
      have hjr : j < (dstr es).size := by omega
      have x1 : (j : Int) < 2 := by omega
      have dj := HD.out j hjr hlt
      have dl := hed es[j] (List.getElem_mem hlt)
      have qj : isD ((dstr es)[j]'hjr).toNat = true := by rw [isD]; simp; omega
      have HV : Hid (valD (es.take (j + 1)) = 10 * valD (es.take j) + es[j]) := by
        rw [Hid, List.take_succ_eq_append_getElem hlt, valD_snoc']
      have hvb : valD (es.take j) < 1000 := by
        have h1 := valD_lt (es.take j) (fun d hd => hed d (List.mem_of_mem_take hd))
        rw [List.length_take] at h1
        have h2 : 10 ^ min j es.length ≤ 10 ^ 3 := Nat.pow_le_pow_right (by decide) (by omega)
        omega
      have HJ : Hid (((dstr es)[j]'hjr).toNat = 48 + es[j]) := dj
      have b1 : ((dstr es)[j]'hjr).toNat ≤ 57 := by omega
      have b2 : 48 ≤ ((dstr es)[j]'hjr).toNat := by omega
      generalize valD (es.take j) = vj at *
      clear dj dl
      go_wp2_with fail
      refine (digit_any _ _).mono ?_
      rintro e w2 ⟨rfl, rfl⟩
      rw [qj]
      go_wp2_with fail
      go_round
      case rel => exact ⟨j + 1, by go_num, by omega, by rw [HV.out]; have := HJ.out; go_num⟩
      case measure => simp [intOf]; omega
    · have hjL : j = 2 := by omega
      subst hjL
      have ht : es.take 2 = es := List.take_of_length_le (by omega)
      rw [ht]
      have hvb : valD es < 1000 := by
        have h1 := valD_lt es hed
        rw [hes] at h1
        have h2 : 10 ^ 2 ≤ 10 ^ 3 := by decide
        omega
      obtain ⟨vj, hvj⟩ : ∃ v, v = valD es := ⟨_, rfl⟩
      have HVJ : Hid _ := hvj
      rw [← hvj] at hvb ⊢
      rw [← hvj] at hv
      clear hvj
      go_wp2_with fail
      go_quiet (fail)
      go_wp2_with fail
      (try simp only [Exit.inBlock, Exit.then])
      refine bodyPost_ret (results_tmp4 rfl _ _ _) rfl ?_
      exact ⟨ret_quad rfl rfl (by rw [HVJ.out]) rfl, ⟨HB.out.os, HB.out.tape, HB.out.output, HB.out.size, HB.out.block⟩⟩
set_option maxRecDepth 100000 in
set_option maxHeartbeats 2000000 in
theorem parse2_012 (s : ByteArray) (ds : List Nat) (pe : Nat) (es : List Nat) (w : World) (hk1 : 2 ≤ ds.length) (HPE : Hid (pe = 0 + 1 + ds.length)) (hpl : 0 + 3 ≤ pe) (hs1 : pe + 2 < s.size) (hs2 : s.size ≤ 40) (hdd : ∀ d ∈ ds, d < 10) (hes : es.length = 2) (hed : ∀ d ∈ es, d < 10) (hv : valD es ≠ 0)
    (gP : (s[0]'(by omega)).toNat = 48 + ds[0]) (gD : (s[1]'(by omega)).toNat = 46) (HT : Hid (∀ (t : Nat) (_ : 1 ≤ t) (h2 : t < ds.length) (h : 0 + 1 + t < s.size), (s[0 + 1 + t]'h).toNat = 48 + ds[t])) (gE : (s[pe]'(by omega)).toNat = 101) (gS : (s[pe + 1]'(by omega)).toNat = 45) (gR : s.extract (pe + 2) s.size = dstr es) :
    Calls Tryd.prog 7 #[.string s] w fun e w' => e = .returned (.tuple #[.bool false, .string (dstr ds), .int .i64 (-((valD es : Nat) : Int)), .bool true]) ∧ Below w.heap.size w w' := by
  have hd0 := hdd ds[0] (List.getElem_mem (by omega))
  have b0 : 0 < s.size := by omega
  have b1 : 1 < s.size := by omega
  have b2 : 2 < s.size := by omega
  have bE : pe < s.size := by omega
  have bS : pe + 1 < s.size := by omega
  have ne : ¬ s.size = 0 := by omega
  have ne2 : ¬ s = ByteArray.empty := fun e => by rw [e] at b0; exact absurd b0 (by decide)
  have c0 : (s.size : Int) ≤ 40 := by omega
  have c1 : (0 : Int) < (s.size : Int) := by omega
  have c2 : (1 : Int) < (s.size : Int) := by omega
  have c3 : (2 : Int) < (s.size : Int) := by omega
  have e0 : decide ((40 : Int) < (s.size : Int)) = false := by simp; omega
  have e1 : decide ((s.size : Int) ≤ 0) = false := by simp; omega
  have e2 : decide ((s.size : Int) ≤ 1) = false := by simp; omega
  have e3 : decide ((0 : Int) < (s.size : Int)) = true := by simp; omega
  have e4 : decide ((1 : Int) < (s.size : Int)) = true := by simp; omega
  have e5 : decide ((2 : Int) < (s.size : Int)) = true := by simp; omega
  have q0 : (((s[0]'b0).toNat : Int) == 45) = false := by rw [beq_eq_false_iff_ne]; omega
  have qP : isD (s[0]'(by omega)).toNat = true := by rw [isD]; simp; omega
  have qD : (((s[1]'(by omega)).toNat : Int) == 46) = true := by rw [beq_iff_eq]; omega
  have HE : Hid (isD (s[pe]'bE).toNat = false) := by rw [Hid, isD]; simp; omega
  have qE : (((s[pe]'bE).toNat : Int) != 101) = false := by rw [bne_eq_false_iff_eq]; omega
  have qS1 : (((s[pe + 1]'bS).toNat : Int) != 43) = true := by rw [bne_iff_ne]; omega
  have qS2 : (((s[pe + 1]'bS).toNat : Int) != 45) = false := by rw [bne_eq_false_iff_eq]; omega
  have qS3 : (((s[pe + 1]'bS).toNat : Int) == 45) = true := by rw [beq_iff_eq]; omega
  have HP : Hid ((s[0]'(by omega)).toNat = 48 + ds[0]) := gP
  have hpu : pe ≤ 38 := by omega
  have hr := dstr_size es
  rw [hes] at hr
  have HD : Hid (∀ (i : Nat) (h : i < (dstr es).size) (hi : i < es.length), ((dstr es)[i]'h).toNat = 48 + es[i]) := fun i h hi => dstr_get es i h hi hed
  clear gP gE gS gD 
  go_enter Tryd.func7, Tryd.ntmps7
  go_wp2_with fail
  refine (digit_any _ _).mono ?_
  rintro e w1 ⟨rfl, rfl⟩
  rw [qP]
  go_wp2_with fail
  generalize hW : w1.alloc _ = W0
  have HBUF : Hid (Buf w1 W0 [dB ds[0]]) := by
    rw [Hid, ← hW, HP.out, ← dB_nat hd0]
    exact Buf.first (dB ds[0])
  clear hW HP
  go_loopw [7, 9] (fun iv nv W => ∃ t : Nat, iv = .int .i64 ((0 + 1 + t : Nat) : Int) ∧ nv = .int .i64 t ∧ 1 ≤ t ∧ t ≤ ds.length ∧ Buf w1 W ((ds.take t).map dB)) (fun _ nv _ => ds.length - (intOf nv).toNat)
  case atStart => exact ⟨1, by go_num, by go_num, by omega, by omega, by rw [take_one ds (by omega)]; exact HBUF.out⟩
  case round =>
    obtain ⟨t, rfl, rfl, ht1, ht2, hbuf⟩ := hrel
    have HB2 : Hid _ := hbuf
    clear HBUF hbuf
    obtain ⟨i, hi0⟩ : ∃ i, i = 0 + 1 + t := ⟨_, rfl⟩
    rw [← hi0]
    by_cases hlt : t < ds.length
    · have hi : i < s.size := by have := HPE.out; omega
      have hg : (s[i]'hi).toNat = 48 + ds[t] := by subst hi0; exact HT.out t ht1 hlt hi
      have hdt := hdd ds[t] (List.getElem_mem hlt)
      have qt : isD (s[i]'hi).toNat = true := by rw [isD]; simp; omega
      have x1 : (i : Int) < (s.size : Int) := by omega
      have hib : i ≤ 40 := by omega
      have htb : t < 40 := by omega
      have ct := HB2.out.cell t (by omega)
      have ft := HB2.out.fz t
      have HG : Hid ((((s[i]'hi).toNat : Nat) : Int) = ((dB ds[t]).toNat : Int)) := by rw [Hid, dB_nat hdt]; omega
      have HI : Hid _ := hi0
      have HLN : Hid (((ds.take t).map dB).length = t) := by rw [Hid, List.length_map, List.length_take]; omega
      have HTK : Hid ((ds.take (t + 1)).map dB = (ds.take t).map dB ++ [dB ds[t]]) := by rw [Hid, List.take_succ_eq_append_getElem hlt, List.map_append]; rfl
      clear hg hi0 hdt
      go_wp2_with fail
      refine (digit_any _ _).mono ?_
      rintro e w2 ⟨rfl, rfl⟩
      rw [qt]
      go_wp2_with fail
      go_roundw
      case rel =>
        refine ⟨t + 1, by have := HI.out; go_num, by go_num, by omega, by omega, ?_⟩
        rw [HTK.out]
        have h := HB2.out.push (by rw [HLN.out]; omega) (dB ds[t]) HG.out
        rw [HLN.out] at h
        exact h
      case measure => simp [intOf]; omega
    · have hip : i = pe := by have := HPE.out; omega
      subst hip
      have htk : (ds.take t).map dB = ds.map dB := by rw [List.take_of_length_le (by omega)]
      rw [htk] at HB2
      have htl : t = ds.length := by omega
      have htb : t ≤ 40 := by omega
      have f1 : (t : Int) ≤ 40 := by omega
      have f2 : (0 : Int) ≤ (t : Int) := by omega
      have f3 : ¬ (40 : Int) < (t : Int) := by omega
      have f4 : ¬ 40 < t := by omega
      have f5 : (0 : Int) ≤ (t : Int) ∧ (t : Int) ≤ 40 := by omega
      have x1 : (i : Int) < (s.size : Int) := by omega
      have x2 : (i : Int) + 1 < (s.size : Int) := by omega
      have x3 : ((i : Int) == 2) = false := by rw [beq_eq_false_iff_ne]; omega
      have x4 : ¬ (i : Int) = 2 := by omega
      have x5 : ¬ (s.size : Int) ≤ (i : Int) := by omega
      have x6 : ¬ (s.size : Int) ≤ (i : Int) + 1 := by omega
      have e6 : decide ((s.size : Int) ≤ (i : Int)) = false := by simp; omega
      have e7 : decide ((s.size : Int) ≤ (i : Int) + 1) = false := by simp; omega
      have e8 : decide (s.size ≤ i) = false := by simp; omega
      have e9 : decide ((i : Int) < (s.size : Int)) = true := by simp; omega
      have x7 : (i : Int) + 2 ≤ (s.size : Int) := by omega
      have HTL : Hid _ := htl
      clear hi0 htl htk hlt HPE HT
      go_wp2_with fail
      refine (digit_any _ _).mono ?_
      rintro e w2 ⟨rfl, rfl⟩
      rw [HE.out]
      go_wp2_with fail
      have HB : Hid (Below w1.heap.size w1 w2) := HB2.out.bl
      have hcv : ∀ n, (convert 38 9 (.slice (some ⟨w1.heap.size, 0, none⟩) t 40)).run Tryd.prog (w2.drewN n) = .ok (.string (dstr ds)) (w2.drewN n) := fun n => by
        have h := run_convert_bytes_back (P := Tryd.prog) (w2.drewN n) 38 9 5 ⟨w1.heap.size, 0, none⟩ 40 (ds.map dB) Tryd.underlying38 Tryd.underlying5 Tryd.underlying9 (fun j hj => by
          have hj2 : j < 40 := by rw [List.length_map, ← HTL.out] at hj; omega
          have hc := HB2.out.cell j hj2
          rw [List.getD_eq_getElem?_getD, List.getElem?_eq_getElem hj, Option.getD_some] at hc
          rw [Addr.add_lit, Nat.zero_add]
          exact hc)
        rw [List.length_map, ← HTL.out] at h
        exact h
      clear HB2 HTL
      have gR2 : s.extract (i + 1 + 1) s.size = dstr es := gR
      rw [gR2]
      clear gR2 gR
      go_loop [13, 14] (fun vv jv => ∃ j : Nat, jv = .int .i64 j ∧ j ≤ es.length ∧ vv = .int .i64 (valD (es.take j) : Nat)) (fun _ jv => es.length - (intOf jv).toNat)
      case atStart => exact ⟨0, rfl, Nat.zero_le _, rfl⟩
      case round =>
        obtain ⟨j, rfl, hj, rfl⟩ := hrel
        by_cases hlt : j < es.length
        · have hl2 : j < 2 := by omega
          have hjr : j < (dstr es).size := by omega
          have x1 : (j : Int) < 2 := by omega
          have dj := HD.out j hjr hlt
          have dl := hed es[j] (List.getElem_mem hlt)
          have qj : isD ((dstr es)[j]'hjr).toNat = true := by rw [isD]; simp; omega
          have HV : Hid (valD (es.take (j + 1)) = 10 * valD (es.take j) + es[j]) := by
            rw [Hid, List.take_succ_eq_append_getElem hlt, valD_snoc']
          have hvb : valD (es.take j) < 1000 := by
            have h1 := valD_lt (es.take j) (fun d hd => hed d (List.mem_of_mem_take hd))
            rw [List.length_take] at h1
            have h2 : 10 ^ min j es.length ≤ 10 ^ 3 := Nat.pow_le_pow_right (by decide) (by omega)
            omega
          have HJ : Hid (((dstr es)[j]'hjr).toNat = 48 + es[j]) := dj
          have b1 : ((dstr es)[j]'hjr).toNat ≤ 57 := by omega
          have b2 : 48 ≤ ((dstr es)[j]'hjr).toNat := by omega
          generalize valD (es.take j) = vj at *
          clear dj dl
          go_wp2_with fail
          refine (digit_any _ _).mono ?_
          rintro e w3 ⟨rfl, rfl⟩
          rw [qj]
          go_wp2_with fail
          go_round
          case rel => exact ⟨j + 1, by go_num, by omega, by rw [HV.out]; have := HJ.out; go_num⟩
          case measure => simp [intOf]; omega
        · have hjL : j = 2 := by omega
          subst hjL
          have ht : es.take 2 = es := List.take_of_length_le (by omega)
          rw [ht]
          have hvb : valD es < 1000 := by
            have h1 := valD_lt es hed
            rw [hes] at h1
            have h2 : 10 ^ 2 ≤ 10 ^ 3 := by decide
            omega
          obtain ⟨vj, hvj⟩ : ∃ v, v = valD es := ⟨_, rfl⟩
          have HVJ : Hid _ := hvj
          rw [← hvj] at hvb ⊢
          rw [← hvj] at hv
          clear hvj
          go_wp2_with fail
          go_quiet (fail)
          go_wp2_with fail
          (try simp only [Exit.inBlock, Exit.then])
          refine bodyPost_ret (results_tmp4 rfl _ _ _) rfl ?_
          exact ⟨ret_quad rfl rfl (by rw [HVJ.out]) rfl, ⟨HB.out.os, HB.out.tape, HB.out.output, HB.out.size, HB.out.block⟩⟩
set_option maxRecDepth 100000 in
set_option maxHeartbeats 2000000 in
theorem parse1_013 (s : ByteArray) (a : Nat) (es : List Nat) (w : World) (hsz : s.size = 6) (hes : es.length = 3) (hed : ∀ d ∈ es, d < 10) (hv : valD es ≠ 0) (ha : a < 10) (h3 : es[0]? ≠ some 0)
    (gP : (s[0]'(by omega)).toNat = 48 + a) (gE : (s[1]'(by omega)).toNat = 101) (gS : (s[2]'(by omega)).toNat = 45) (gR : s.extract 3 6 = dstr es) :
    Calls Tryd.prog 7 #[.string s] w fun e w' => e = .returned (.tuple #[.bool false, .string (dstr [a]), .int .i64 (-((valD es : Nat) : Int)), .bool true]) ∧ Below w.heap.size w w' := by
  have q0 : (((s[0]'(by omega)).toNat : Int) == 45) = false := by rw [beq_eq_false_iff_ne]; omega
  have qP : isD (s[0]'(by omega)).toNat = true := by rw [isD]; simp; omega
  have qP1 : (((s[1]'(by omega)).toNat : Int) == 46) = false := by rw [beq_eq_false_iff_ne]; omega
  have qE : (((s[1]'(by omega)).toNat : Int) != 101) = false := by rw [bne_eq_false_iff_eq]; omega
  have qS1 : (((s[2]'(by omega)).toNat : Int) != 43) = true := by rw [bne_iff_ne]; omega
  have qS2 : (((s[2]'(by omega)).toNat : Int) != 45) = false := by rw [bne_eq_false_iff_eq]; omega
  have qS3 : (((s[2]'(by omega)).toNat : Int) == 45) = true := by rw [beq_iff_eq]; omega
  have HP : Hid ((s[0]'(by omega)).toNat = 48 + a) := gP
  have hr := dstr_size es
  rw [hes] at hr
  have HD : Hid (∀ (i : Nat) (h : i < (dstr es).size) (hi : i < es.length), ((dstr es)[i]'h).toNat = 48 + es[i]) := fun i h hi => dstr_get es i h hi hed
  have hr0 : 0 < (dstr es).size := by omega
  have z0 : (((dstr es)[0]'hr0).toNat : Int) ≠ 48 := by
    rw [dstr_get es 0 _ (by omega) hed]
    rw [List.getElem?_eq_getElem (by omega : 0 < es.length)] at h3
    simp at h3
    omega
  have z1 : ((((dstr es)[0]'hr0).toNat : Int) == 48) = false := by rw [beq_eq_false_iff_ne]; exact z0
  clear gP gE gS h3 
  go_enter Tryd.func7, Tryd.ntmps7
  go_wp2_with fail
  refine (digit_any _ _).mono ?_
  rintro e w1 ⟨rfl, rfl⟩
  rw [qP]
  go_wp2_with fail
  generalize hW : w1.alloc _ = W
  have HC : Hid (∀ j (hj : j < [dB a].length), W.cell? ((⟨w1.heap.size, 0, none⟩ : Addr).add j) = some (.int .u8 (([dB a][j]).toNat : Int))) := by
    intro j hj
    have hj0 : j = 0 := by simp at hj; omega
    subst hj0
    show W.cell? ⟨w1.heap.size, 0 + 0, none⟩ = some (.int .u8 ((dB a).toNat : Int))
    rw [← hW, dB_nat ha, ← HP.out]
    clear hW
    go_simp
  have HB : Hid (Below w1.heap.size w1 W) := by rw [Hid, ← hW]; exact (Below.refl _ w1).alloc (Nat.le_refl _) _
  have hcv : ∀ n, (convert 38 9 (.slice (some ⟨w1.heap.size, 0, none⟩) 1 40)).run Tryd.prog (W.drewN n) = .ok (.string (dstr [a])) (W.drewN n) := fun n => run_convert_bytes_back (P := Tryd.prog) (W.drewN n) 38 9 5 ⟨w1.heap.size, 0, none⟩ 40 [dB a] Tryd.underlying38 Tryd.underlying5 Tryd.underlying9 HC.out
  clear hW HC HP
  go_loop [13, 14] (fun vv jv => ∃ j : Nat, jv = .int .i64 j ∧ j ≤ es.length ∧ vv = .int .i64 (valD (es.take j) : Nat)) (fun _ jv => es.length - (intOf jv).toNat)
  case atStart => exact ⟨0, rfl, Nat.zero_le _, rfl⟩
  case round =>
    obtain ⟨j, rfl, hj, rfl⟩ := hrel
    by_cases hlt : j < es.length
    · have hl2 : j < 3 := by omega
      have hjr : j < (dstr es).size := by omega
      have x1 : (j : Int) < 3 := by omega
      have dj := HD.out j hjr hlt
      have dl := hed es[j] (List.getElem_mem hlt)
      have qj : isD ((dstr es)[j]'hjr).toNat = true := by rw [isD]; simp; omega
      have HV : Hid (valD (es.take (j + 1)) = 10 * valD (es.take j) + es[j]) := by
        rw [Hid, List.take_succ_eq_append_getElem hlt, valD_snoc']
      have hvb : valD (es.take j) < 1000 := by
        have h1 := valD_lt (es.take j) (fun d hd => hed d (List.mem_of_mem_take hd))
        rw [List.length_take] at h1
        have h2 : 10 ^ min j es.length ≤ 10 ^ 3 := Nat.pow_le_pow_right (by decide) (by omega)
        omega
      have HJ : Hid (((dstr es)[j]'hjr).toNat = 48 + es[j]) := dj
      have b1 : ((dstr es)[j]'hjr).toNat ≤ 57 := by omega
      have b2 : 48 ≤ ((dstr es)[j]'hjr).toNat := by omega
      generalize valD (es.take j) = vj at *
      clear dj dl
      go_wp2_with fail
      refine (digit_any _ _).mono ?_
      rintro e w2 ⟨rfl, rfl⟩
      rw [qj]
      go_wp2_with fail
      go_round
      case rel => exact ⟨j + 1, by go_num, by omega, by rw [HV.out]; have := HJ.out; go_num⟩
      case measure => simp [intOf]; omega
    · have hjL : j = 3 := by omega
      subst hjL
      have ht : es.take 3 = es := List.take_of_length_le (by omega)
      rw [ht]
      have hvb : valD es < 1000 := by
        have h1 := valD_lt es hed
        rw [hes] at h1
        have h2 : 10 ^ 3 ≤ 10 ^ 3 := by decide
        omega
      obtain ⟨vj, hvj⟩ : ∃ v, v = valD es := ⟨_, rfl⟩
      have HVJ : Hid _ := hvj
      rw [← hvj] at hvb ⊢
      rw [← hvj] at hv
      clear hvj
      go_wp2_with fail
      go_quiet (fail)
      go_wp2_with fail
      (try simp only [Exit.inBlock, Exit.then])
      refine bodyPost_ret (results_tmp4 rfl _ _ _) rfl ?_
      exact ⟨ret_quad rfl rfl (by rw [HVJ.out]) rfl, ⟨HB.out.os, HB.out.tape, HB.out.output, HB.out.size, HB.out.block⟩⟩
set_option maxRecDepth 100000 in
set_option maxHeartbeats 2000000 in
theorem parse2_013 (s : ByteArray) (ds : List Nat) (pe : Nat) (es : List Nat) (w : World) (hk1 : 2 ≤ ds.length) (HPE : Hid (pe = 0 + 1 + ds.length)) (hpl : 0 + 3 ≤ pe) (hs1 : pe + 2 < s.size) (hs2 : s.size ≤ 40) (hdd : ∀ d ∈ ds, d < 10) (hes : es.length = 3) (hed : ∀ d ∈ es, d < 10) (hv : valD es ≠ 0) (h3 : es[0]? ≠ some 0)
    (gP : (s[0]'(by omega)).toNat = 48 + ds[0]) (gD : (s[1]'(by omega)).toNat = 46) (HT : Hid (∀ (t : Nat) (_ : 1 ≤ t) (h2 : t < ds.length) (h : 0 + 1 + t < s.size), (s[0 + 1 + t]'h).toNat = 48 + ds[t])) (gE : (s[pe]'(by omega)).toNat = 101) (gS : (s[pe + 1]'(by omega)).toNat = 45) (gR : s.extract (pe + 2) s.size = dstr es) :
    Calls Tryd.prog 7 #[.string s] w fun e w' => e = .returned (.tuple #[.bool false, .string (dstr ds), .int .i64 (-((valD es : Nat) : Int)), .bool true]) ∧ Below w.heap.size w w' := by
  have hd0 := hdd ds[0] (List.getElem_mem (by omega))
  have b0 : 0 < s.size := by omega
  have b1 : 1 < s.size := by omega
  have b2 : 2 < s.size := by omega
  have bE : pe < s.size := by omega
  have bS : pe + 1 < s.size := by omega
  have ne : ¬ s.size = 0 := by omega
  have ne2 : ¬ s = ByteArray.empty := fun e => by rw [e] at b0; exact absurd b0 (by decide)
  have c0 : (s.size : Int) ≤ 40 := by omega
  have c1 : (0 : Int) < (s.size : Int) := by omega
  have c2 : (1 : Int) < (s.size : Int) := by omega
  have c3 : (2 : Int) < (s.size : Int) := by omega
  have e0 : decide ((40 : Int) < (s.size : Int)) = false := by simp; omega
  have e1 : decide ((s.size : Int) ≤ 0) = false := by simp; omega
  have e2 : decide ((s.size : Int) ≤ 1) = false := by simp; omega
  have e3 : decide ((0 : Int) < (s.size : Int)) = true := by simp; omega
  have e4 : decide ((1 : Int) < (s.size : Int)) = true := by simp; omega
  have e5 : decide ((2 : Int) < (s.size : Int)) = true := by simp; omega
  have q0 : (((s[0]'b0).toNat : Int) == 45) = false := by rw [beq_eq_false_iff_ne]; omega
  have qP : isD (s[0]'(by omega)).toNat = true := by rw [isD]; simp; omega
  have qD : (((s[1]'(by omega)).toNat : Int) == 46) = true := by rw [beq_iff_eq]; omega
  have HE : Hid (isD (s[pe]'bE).toNat = false) := by rw [Hid, isD]; simp; omega
  have qE : (((s[pe]'bE).toNat : Int) != 101) = false := by rw [bne_eq_false_iff_eq]; omega
  have qS1 : (((s[pe + 1]'bS).toNat : Int) != 43) = true := by rw [bne_iff_ne]; omega
  have qS2 : (((s[pe + 1]'bS).toNat : Int) != 45) = false := by rw [bne_eq_false_iff_eq]; omega
  have qS3 : (((s[pe + 1]'bS).toNat : Int) == 45) = true := by rw [beq_iff_eq]; omega
  have HP : Hid ((s[0]'(by omega)).toNat = 48 + ds[0]) := gP
  have hpu : pe ≤ 38 := by omega
  have hr := dstr_size es
  rw [hes] at hr
  have HD : Hid (∀ (i : Nat) (h : i < (dstr es).size) (hi : i < es.length), ((dstr es)[i]'h).toNat = 48 + es[i]) := fun i h hi => dstr_get es i h hi hed
  have hr0 : 0 < (dstr es).size := by omega
  have z0 : (((dstr es)[0]'hr0).toNat : Int) ≠ 48 := by
    rw [dstr_get es 0 _ (by omega) hed]
    rw [List.getElem?_eq_getElem (by omega : 0 < es.length)] at h3
    simp at h3
    omega
  have z1 : ((((dstr es)[0]'hr0).toNat : Int) == 48) = false := by rw [beq_eq_false_iff_ne]; exact z0
  clear gP gE gS gD h3 
  go_enter Tryd.func7, Tryd.ntmps7
  go_wp2_with fail
  refine (digit_any _ _).mono ?_
  rintro e w1 ⟨rfl, rfl⟩
  rw [qP]
  go_wp2_with fail
  generalize hW : w1.alloc _ = W0
  have HBUF : Hid (Buf w1 W0 [dB ds[0]]) := by
    rw [Hid, ← hW, HP.out, ← dB_nat hd0]
    exact Buf.first (dB ds[0])
  clear hW HP
  go_loopw [7, 9] (fun iv nv W => ∃ t : Nat, iv = .int .i64 ((0 + 1 + t : Nat) : Int) ∧ nv = .int .i64 t ∧ 1 ≤ t ∧ t ≤ ds.length ∧ Buf w1 W ((ds.take t).map dB)) (fun _ nv _ => ds.length - (intOf nv).toNat)
  case atStart => exact ⟨1, by go_num, by go_num, by omega, by omega, by rw [take_one ds (by omega)]; exact HBUF.out⟩
  case round =>
    obtain ⟨t, rfl, rfl, ht1, ht2, hbuf⟩ := hrel
    have HB2 : Hid _ := hbuf
    clear HBUF hbuf
    obtain ⟨i, hi0⟩ : ∃ i, i = 0 + 1 + t := ⟨_, rfl⟩
    rw [← hi0]
    by_cases hlt : t < ds.length
    · have hi : i < s.size := by have := HPE.out; omega
      have hg : (s[i]'hi).toNat = 48 + ds[t] := by subst hi0; exact HT.out t ht1 hlt hi
      have hdt := hdd ds[t] (List.getElem_mem hlt)
      have qt : isD (s[i]'hi).toNat = true := by rw [isD]; simp; omega
      have x1 : (i : Int) < (s.size : Int) := by omega
      have hib : i ≤ 40 := by omega
      have htb : t < 40 := by omega
      have ct := HB2.out.cell t (by omega)
      have ft := HB2.out.fz t
      have HG : Hid ((((s[i]'hi).toNat : Nat) : Int) = ((dB ds[t]).toNat : Int)) := by rw [Hid, dB_nat hdt]; omega
      have HI : Hid _ := hi0
      have HLN : Hid (((ds.take t).map dB).length = t) := by rw [Hid, List.length_map, List.length_take]; omega
      have HTK : Hid ((ds.take (t + 1)).map dB = (ds.take t).map dB ++ [dB ds[t]]) := by rw [Hid, List.take_succ_eq_append_getElem hlt, List.map_append]; rfl
      clear hg hi0 hdt
      go_wp2_with fail
      refine (digit_any _ _).mono ?_
      rintro e w2 ⟨rfl, rfl⟩
      rw [qt]
      go_wp2_with fail
      go_roundw
      case rel =>
        refine ⟨t + 1, by have := HI.out; go_num, by go_num, by omega, by omega, ?_⟩
        rw [HTK.out]
        have h := HB2.out.push (by rw [HLN.out]; omega) (dB ds[t]) HG.out
        rw [HLN.out] at h
        exact h
      case measure => simp [intOf]; omega
    · have hip : i = pe := by have := HPE.out; omega
      subst hip
      have htk : (ds.take t).map dB = ds.map dB := by rw [List.take_of_length_le (by omega)]
      rw [htk] at HB2
      have htl : t = ds.length := by omega
      have htb : t ≤ 40 := by omega
      have f1 : (t : Int) ≤ 40 := by omega
      have f2 : (0 : Int) ≤ (t : Int) := by omega
      have f3 : ¬ (40 : Int) < (t : Int) := by omega
      have f4 : ¬ 40 < t := by omega
      have f5 : (0 : Int) ≤ (t : Int) ∧ (t : Int) ≤ 40 := by omega
      have x1 : (i : Int) < (s.size : Int) := by omega
      have x2 : (i : Int) + 1 < (s.size : Int) := by omega
      have x3 : ((i : Int) == 2) = false := by rw [beq_eq_false_iff_ne]; omega
      have x4 : ¬ (i : Int) = 2 := by omega
      have x5 : ¬ (s.size : Int) ≤ (i : Int) := by omega
      have x6 : ¬ (s.size : Int) ≤ (i : Int) + 1 := by omega
      have e6 : decide ((s.size : Int) ≤ (i : Int)) = false := by simp; omega
      have e7 : decide ((s.size : Int) ≤ (i : Int) + 1) = false := by simp; omega
      have e8 : decide (s.size ≤ i) = false := by simp; omega
      have e9 : decide ((i : Int) < (s.size : Int)) = true := by simp; omega
      have x7 : (i : Int) + 2 ≤ (s.size : Int) := by omega
      have HTL : Hid _ := htl
      clear hi0 htl htk hlt HPE HT
      go_wp2_with fail
      refine (digit_any _ _).mono ?_
      rintro e w2 ⟨rfl, rfl⟩
      rw [HE.out]
      go_wp2_with fail
      have HB : Hid (Below w1.heap.size w1 w2) := HB2.out.bl
      have hcv : ∀ n, (convert 38 9 (.slice (some ⟨w1.heap.size, 0, none⟩) t 40)).run Tryd.prog (w2.drewN n) = .ok (.string (dstr ds)) (w2.drewN n) := fun n => by
        have h := run_convert_bytes_back (P := Tryd.prog) (w2.drewN n) 38 9 5 ⟨w1.heap.size, 0, none⟩ 40 (ds.map dB) Tryd.underlying38 Tryd.underlying5 Tryd.underlying9 (fun j hj => by
          have hj2 : j < 40 := by rw [List.length_map, ← HTL.out] at hj; omega
          have hc := HB2.out.cell j hj2
          rw [List.getD_eq_getElem?_getD, List.getElem?_eq_getElem hj, Option.getD_some] at hc
          rw [Addr.add_lit, Nat.zero_add]
          exact hc)
        rw [List.length_map, ← HTL.out] at h
        exact h
      clear HB2 HTL
      have gR2 : s.extract (i + 1 + 1) s.size = dstr es := gR
      rw [gR2]
      clear gR2 gR
      go_loop [13, 14] (fun vv jv => ∃ j : Nat, jv = .int .i64 j ∧ j ≤ es.length ∧ vv = .int .i64 (valD (es.take j) : Nat)) (fun _ jv => es.length - (intOf jv).toNat)
      case atStart => exact ⟨0, rfl, Nat.zero_le _, rfl⟩
      case round =>
        obtain ⟨j, rfl, hj, rfl⟩ := hrel
        by_cases hlt : j < es.length
        · have hl2 : j < 3 := by omega
          have hjr : j < (dstr es).size := by omega
          have x1 : (j : Int) < 3 := by omega
          have dj := HD.out j hjr hlt
          have dl := hed es[j] (List.getElem_mem hlt)
          have qj : isD ((dstr es)[j]'hjr).toNat = true := by rw [isD]; simp; omega
          have HV : Hid (valD (es.take (j + 1)) = 10 * valD (es.take j) + es[j]) := by
            rw [Hid, List.take_succ_eq_append_getElem hlt, valD_snoc']
          have hvb : valD (es.take j) < 1000 := by
            have h1 := valD_lt (es.take j) (fun d hd => hed d (List.mem_of_mem_take hd))
            rw [List.length_take] at h1
            have h2 : 10 ^ min j es.length ≤ 10 ^ 3 := Nat.pow_le_pow_right (by decide) (by omega)
            omega
          have HJ : Hid (((dstr es)[j]'hjr).toNat = 48 + es[j]) := dj
          have b1 : ((dstr es)[j]'hjr).toNat ≤ 57 := by omega
          have b2 : 48 ≤ ((dstr es)[j]'hjr).toNat := by omega
          generalize valD (es.take j) = vj at *
          clear dj dl
          go_wp2_with fail
          refine (digit_any _ _).mono ?_
          rintro e w3 ⟨rfl, rfl⟩
          rw [qj]
          go_wp2_with fail
          go_round
          case rel => exact ⟨j + 1, by go_num, by omega, by rw [HV.out]; have := HJ.out; go_num⟩
          case measure => simp [intOf]; omega
        · have hjL : j = 3 := by omega
          subst hjL
          have ht : es.take 3 = es := List.take_of_length_le (by omega)
          rw [ht]
          have hvb : valD es < 1000 := by
            have h1 := valD_lt es hed
            rw [hes] at h1
            have h2 : 10 ^ 3 ≤ 10 ^ 3 := by decide
            omega
          obtain ⟨vj, hvj⟩ : ∃ v, v = valD es := ⟨_, rfl⟩
          have HVJ : Hid _ := hvj
          rw [← hvj] at hvb ⊢
          rw [← hvj] at hv
          clear hvj
          go_wp2_with fail
          go_quiet (fail)
          go_wp2_with fail
          (try simp only [Exit.inBlock, Exit.then])
          refine bodyPost_ret (results_tmp4 rfl _ _ _) rfl ?_
          exact ⟨ret_quad rfl rfl (by rw [HVJ.out]) rfl, ⟨HB.out.os, HB.out.tape, HB.out.output, HB.out.size, HB.out.block⟩⟩
set_option maxRecDepth 100000 in
set_option maxHeartbeats 2000000 in
theorem parse1_102 (s : ByteArray) (a : Nat) (es : List Nat) (w : World) (hsz : s.size = 6) (hes : es.length = 2) (hed : ∀ d ∈ es, d < 10) (ha : a < 10)
    (g0 : (s[0]'(by omega)).toNat = 45) (gP : (s[1]'(by omega)).toNat = 48 + a) (gE : (s[2]'(by omega)).toNat = 101) (gS : (s[3]'(by omega)).toNat = 43) (gR : s.extract 4 6 = dstr es) :
    Calls Tryd.prog 7 #[.string s] w fun e w' => e = .returned (.tuple #[.bool true, .string (dstr [a]), .int .i64 (((valD es : Nat) : Int)), .bool true]) ∧ Below w.heap.size w w' := by
  have q0 : (((s[0]'(by omega)).toNat : Int) == 45) = true := by rw [beq_iff_eq]; omega
  have qP : isD (s[1]'(by omega)).toNat = true := by rw [isD]; simp; omega
  have qP1 : (((s[2]'(by omega)).toNat : Int) == 46) = false := by rw [beq_eq_false_iff_ne]; omega
  have qE : (((s[2]'(by omega)).toNat : Int) != 101) = false := by rw [bne_eq_false_iff_eq]; omega
  have qS1 : (((s[3]'(by omega)).toNat : Int) != 43) = false := by rw [bne_eq_false_iff_eq]; omega
  have qS2 : (((s[3]'(by omega)).toNat : Int) != 45) = true := by rw [bne_iff_ne]; omega
  have qS3 : (((s[3]'(by omega)).toNat : Int) == 45) = false := by rw [beq_eq_false_iff_ne]; omega
  have HP : Hid ((s[1]'(by omega)).toNat = 48 + a) := gP
  have hr := dstr_size es
  rw [hes] at hr
  have HD : Hid (∀ (i : Nat) (h : i < (dstr es).size) (hi : i < es.length), ((dstr es)[i]'h).toNat = 48 + es[i]) := fun i h hi => dstr_get es i h hi hed
  clear gP gE gS g0 
  go_enter Tryd.func7, Tryd.ntmps7
  go_wp2_with fail
  refine (digit_any _ _).mono ?_
  rintro e w1 ⟨rfl, rfl⟩
  rw [qP]
  go_wp2_with fail
  generalize hW : w1.alloc _ = W
  have HC : Hid (∀ j (hj : j < [dB a].length), W.cell? ((⟨w1.heap.size, 0, none⟩ : Addr).add j) = some (.int .u8 (([dB a][j]).toNat : Int))) := by
    intro j hj
    have hj0 : j = 0 := by simp at hj; omega
    subst hj0
    show W.cell? ⟨w1.heap.size, 0 + 0, none⟩ = some (.int .u8 ((dB a).toNat : Int))
    rw [← hW, dB_nat ha, ← HP.out]
    clear hW
    go_simp
  have HB : Hid (Below w1.heap.size w1 W) := by rw [Hid, ← hW]; exact (Below.refl _ w1).alloc (Nat.le_refl _) _
  have hcv : ∀ n, (convert 38 9 (.slice (some ⟨w1.heap.size, 0, none⟩) 1 40)).run Tryd.prog (W.drewN n) = .ok (.string (dstr [a])) (W.drewN n) := fun n => run_convert_bytes_back (P := Tryd.prog) (W.drewN n) 38 9 5 ⟨w1.heap.size, 0, none⟩ 40 [dB a] Tryd.underlying38 Tryd.underlying5 Tryd.underlying9 HC.out
  clear hW HC HP
  go_loop [13, 14] (fun vv jv => ∃ j : Nat, jv = .int .i64 j ∧ j ≤ es.length ∧ vv = .int .i64 (valD (es.take j) : Nat)) (fun _ jv => es.length - (intOf jv).toNat)
  case atStart => exact ⟨0, rfl, Nat.zero_le _, rfl⟩
  case round =>
    obtain ⟨j, rfl, hj, rfl⟩ := hrel
    by_cases hlt : j < es.length
    · have hl2 : j < 2 := by omega
      have hjr : j < (dstr es).size := by omega
      have x1 : (j : Int) < 2 := by omega
      have dj := HD.out j hjr hlt
      have dl := hed es[j] (List.getElem_mem hlt)
      have qj : isD ((dstr es)[j]'hjr).toNat = true := by rw [isD]; simp; omega
      have HV : Hid (valD (es.take (j + 1)) = 10 * valD (es.take j) + es[j]) := by
        rw [Hid, List.take_succ_eq_append_getElem hlt, valD_snoc']
      have hvb : valD (es.take j) < 1000 := by
        have h1 := valD_lt (es.take j) (fun d hd => hed d (List.mem_of_mem_take hd))
        rw [List.length_take] at h1
        have h2 : 10 ^ min j es.length ≤ 10 ^ 3 := Nat.pow_le_pow_right (by decide) (by omega)
        omega
      have HJ : Hid (((dstr es)[j]'hjr).toNat = 48 + es[j]) := dj
      have b1 : ((dstr es)[j]'hjr).toNat ≤ 57 := by omega
      have b2 : 48 ≤ ((dstr es)[j]'hjr).toNat := by omega
      generalize valD (es.take j) = vj at *
      clear dj dl
      go_wp2_with fail
      refine (digit_any _ _).mono ?_
      rintro e w2 ⟨rfl, rfl⟩
      rw [qj]
      go_wp2_with fail
      go_round
      case rel => exact ⟨j + 1, by go_num, by omega, by rw [HV.out]; have := HJ.out; go_num⟩
      case measure => simp [intOf]; omega
    · have hjL : j = 2 := by omega
      subst hjL
      have ht : es.take 2 = es := List.take_of_length_le (by omega)
      rw [ht]
      have hvb : valD es < 1000 := by
        have h1 := valD_lt es hed
        rw [hes] at h1
        have h2 : 10 ^ 2 ≤ 10 ^ 3 := by decide
        omega
      obtain ⟨vj, hvj⟩ : ∃ v, v = valD es := ⟨_, rfl⟩
      have HVJ : Hid _ := hvj
      rw [← hvj] at hvb ⊢
      clear hvj
      go_wp2_with fail
      go_quiet (fail)
      go_wp2_with fail
      (try simp only [Exit.inBlock, Exit.then])
      refine bodyPost_ret (results_tmp4 rfl _ _ _) rfl ?_
      exact ⟨ret_quad rfl rfl (by rw [HVJ.out]) rfl, ⟨HB.out.os, HB.out.tape, HB.out.output, HB.out.size, HB.out.block⟩⟩
set_option maxRecDepth 100000 in
set_option maxHeartbeats 2000000 in
theorem parse2_102 (s : ByteArray) (ds : List Nat) (pe : Nat) (es : List Nat) (w : World) (hk1 : 2 ≤ ds.length) (HPE : Hid (pe = 1 + 1 + ds.length)) (hpl : 1 + 3 ≤ pe) (hs1 : pe + 2 < s.size) (hs2 : s.size ≤ 40) (hdd : ∀ d ∈ ds, d < 10) (hes : es.length = 2) (hed : ∀ d ∈ es, d < 10)
    (g0 : (s[0]'(by omega)).toNat = 45) (gP : (s[1]'(by omega)).toNat = 48 + ds[0]) (gD : (s[2]'(by omega)).toNat = 46) (HT : Hid (∀ (t : Nat) (_ : 1 ≤ t) (h2 : t < ds.length) (h : 1 + 1 + t < s.size), (s[1 + 1 + t]'h).toNat = 48 + ds[t])) (gE : (s[pe]'(by omega)).toNat = 101) (gS : (s[pe + 1]'(by omega)).toNat = 43) (gR : s.extract (pe + 2) s.size = dstr es) :
    Calls Tryd.prog 7 #[.string s] w fun e w' => e = .returned (.tuple #[.bool true, .string (dstr ds), .int .i64 (((valD es : Nat) : Int)), .bool true]) ∧ Below w.heap.size w w' := by
  have hd0 := hdd ds[0] (List.getElem_mem (by omega))
  have b0 : 0 < s.size := by omega
  have b1 : 1 < s.size := by omega
  have b2 : 2 < s.size := by omega
  have bE : pe < s.size := by omega
  have bS : pe + 1 < s.size := by omega
  have ne : ¬ s.size = 0 := by omega
  have ne2 : ¬ s = ByteArray.empty := fun e => by rw [e] at b0; exact absurd b0 (by decide)
  have c0 : (s.size : Int) ≤ 40 := by omega
  have c1 : (0 : Int) < (s.size : Int) := by omega
  have c2 : (1 : Int) < (s.size : Int) := by omega
  have c3 : (2 : Int) < (s.size : Int) := by omega
  have e0 : decide ((40 : Int) < (s.size : Int)) = false := by simp; omega
  have e1 : decide ((s.size : Int) ≤ 0) = false := by simp; omega
  have e2 : decide ((s.size : Int) ≤ 1) = false := by simp; omega
  have e3 : decide ((0 : Int) < (s.size : Int)) = true := by simp; omega
  have e4 : decide ((1 : Int) < (s.size : Int)) = true := by simp; omega
  have e5 : decide ((2 : Int) < (s.size : Int)) = true := by simp; omega
  have q0 : (((s[0]'b0).toNat : Int) == 45) = true := by rw [beq_iff_eq]; omega
  have qP : isD (s[1]'(by omega)).toNat = true := by rw [isD]; simp; omega
  have qD : (((s[2]'(by omega)).toNat : Int) == 46) = true := by rw [beq_iff_eq]; omega
  have HE : Hid (isD (s[pe]'bE).toNat = false) := by rw [Hid, isD]; simp; omega
  have qE : (((s[pe]'bE).toNat : Int) != 101) = false := by rw [bne_eq_false_iff_eq]; omega
  have qS1 : (((s[pe + 1]'bS).toNat : Int) != 43) = false := by rw [bne_eq_false_iff_eq]; omega
  have qS2 : (((s[pe + 1]'bS).toNat : Int) != 45) = true := by rw [bne_iff_ne]; omega
  have qS3 : (((s[pe + 1]'bS).toNat : Int) == 45) = false := by rw [beq_eq_false_iff_ne]; omega
  have HP : Hid ((s[1]'(by omega)).toNat = 48 + ds[0]) := gP
  have hpu : pe ≤ 38 := by omega
  have hr := dstr_size es
  rw [hes] at hr
  have HD : Hid (∀ (i : Nat) (h : i < (dstr es).size) (hi : i < es.length), ((dstr es)[i]'h).toNat = 48 + es[i]) := fun i h hi => dstr_get es i h hi hed
  clear gP gE gS gD g0 
  go_enter Tryd.func7, Tryd.ntmps7
  go_wp2_with fail
  refine (digit_any _ _).mono ?_
  rintro e w1 ⟨rfl, rfl⟩
  rw [qP]
  go_wp2_with fail
  generalize hW : w1.alloc _ = W0
  have HBUF : Hid (Buf w1 W0 [dB ds[0]]) := by
    rw [Hid, ← hW, HP.out, ← dB_nat hd0]
    exact Buf.first (dB ds[0])
  clear hW HP
  go_loopw [7, 9] (fun iv nv W => ∃ t : Nat, iv = .int .i64 ((1 + 1 + t : Nat) : Int) ∧ nv = .int .i64 t ∧ 1 ≤ t ∧ t ≤ ds.length ∧ Buf w1 W ((ds.take t).map dB)) (fun _ nv _ => ds.length - (intOf nv).toNat)
  case atStart => exact ⟨1, by go_num, by go_num, by omega, by omega, by rw [take_one ds (by omega)]; exact HBUF.out⟩
  case round =>
    obtain ⟨t, rfl, rfl, ht1, ht2, hbuf⟩ := hrel
    have HB2 : Hid _ := hbuf
    clear HBUF hbuf
    obtain ⟨i, hi0⟩ : ∃ i, i = 1 + 1 + t := ⟨_, rfl⟩
    rw [← hi0]
    by_cases hlt : t < ds.length
    · have hi : i < s.size := by have := HPE.out; omega
      have hg : (s[i]'hi).toNat = 48 + ds[t] := by subst hi0; exact HT.out t ht1 hlt hi
      have hdt := hdd ds[t] (List.getElem_mem hlt)
      have qt : isD (s[i]'hi).toNat = true := by rw [isD]; simp; omega
      have x1 : (i : Int) < (s.size : Int) := by omega
      have hib : i ≤ 40 := by omega
      have htb : t < 40 := by omega
      have ct := HB2.out.cell t (by omega)
      have ft := HB2.out.fz t
      have HG : Hid ((((s[i]'hi).toNat : Nat) : Int) = ((dB ds[t]).toNat : Int)) := by rw [Hid, dB_nat hdt]; omega
      have HI : Hid _ := hi0
      have HLN : Hid (((ds.take t).map dB).length = t) := by rw [Hid, List.length_map, List.length_take]; omega
      have HTK : Hid ((ds.take (t + 1)).map dB = (ds.take t).map dB ++ [dB ds[t]]) := by rw [Hid, List.take_succ_eq_append_getElem hlt, List.map_append]; rfl
      clear hg hi0 hdt
      go_wp2_with fail
      refine (digit_any _ _).mono ?_
      rintro e w2 ⟨rfl, rfl⟩
      rw [qt]
      go_wp2_with fail
      go_roundw
      case rel =>
        refine ⟨t + 1, by have := HI.out; go_num, by go_num, by omega, by omega, ?_⟩
        rw [HTK.out]
        have h := HB2.out.push (by rw [HLN.out]; omega) (dB ds[t]) HG.out
        rw [HLN.out] at h
        exact h
      case measure => simp [intOf]; omega
    · have hip : i = pe := by have := HPE.out; omega
      subst hip
      have htk : (ds.take t).map dB = ds.map dB := by rw [List.take_of_length_le (by omega)]
      rw [htk] at HB2
      have htl : t = ds.length := by omega
      have htb : t ≤ 40 := by omega
      have f1 : (t : Int) ≤ 40 := by omega
      have f2 : (0 : Int) ≤ (t : Int) := by omega
      have f3 : ¬ (40 : Int) < (t : Int) := by omega
      have f4 : ¬ 40 < t := by omega
      have f5 : (0 : Int) ≤ (t : Int) ∧ (t : Int) ≤ 40 := by omega
      have x1 : (i : Int) < (s.size : Int) := by omega
      have x2 : (i : Int) + 1 < (s.size : Int) := by omega
      have x3 : ((i : Int) == 3) = false := by rw [beq_eq_false_iff_ne]; omega
      have x4 : ¬ (i : Int) = 3 := by omega
      have x5 : ¬ (s.size : Int) ≤ (i : Int) := by omega
      have x6 : ¬ (s.size : Int) ≤ (i : Int) + 1 := by omega
      have e6 : decide ((s.size : Int) ≤ (i : Int)) = false := by simp; omega
      have e7 : decide ((s.size : Int) ≤ (i : Int) + 1) = false := by simp; omega
      have e8 : decide (s.size ≤ i) = false := by simp; omega
      have e9 : decide ((i : Int) < (s.size : Int)) = true := by simp; omega
      have x7 : (i : Int) + 2 ≤ (s.size : Int) := by omega
      have HTL : Hid _ := htl
      clear hi0 htl htk hlt HPE HT
      go_wp2_with fail
      refine (digit_any _ _).mono ?_
      rintro e w2 ⟨rfl, rfl⟩
      rw [HE.out]
      go_wp2_with fail
      have HB : Hid (Below w1.heap.size w1 w2) := HB2.out.bl
      have hcv : ∀ n, (convert 38 9 (.slice (some ⟨w1.heap.size, 0, none⟩) t 40)).run Tryd.prog (w2.drewN n) = .ok (.string (dstr ds)) (w2.drewN n) := fun n => by
        have h := run_convert_bytes_back (P := Tryd.prog) (w2.drewN n) 38 9 5 ⟨w1.heap.size, 0, none⟩ 40 (ds.map dB) Tryd.underlying38 Tryd.underlying5 Tryd.underlying9 (fun j hj => by
          have hj2 : j < 40 := by rw [List.length_map, ← HTL.out] at hj; omega
          have hc := HB2.out.cell j hj2
          rw [List.getD_eq_getElem?_getD, List.getElem?_eq_getElem hj, Option.getD_some] at hc
          rw [Addr.add_lit, Nat.zero_add]
          exact hc)
        rw [List.length_map, ← HTL.out] at h
        exact h
      clear HB2 HTL
      have gR2 : s.extract (i + 1 + 1) s.size = dstr es := gR
      rw [gR2]
      clear gR2 gR
      go_loop [13, 14] (fun vv jv => ∃ j : Nat, jv = .int .i64 j ∧ j ≤ es.length ∧ vv = .int .i64 (valD (es.take j) : Nat)) (fun _ jv => es.length - (intOf jv).toNat)
      case atStart => exact ⟨0, rfl, Nat.zero_le _, rfl⟩
      case round =>
        obtain ⟨j, rfl, hj, rfl⟩ := hrel
        by_cases hlt : j < es.length
        · have hl2 : j < 2 := by omega
          have hjr : j < (dstr es).size := by omega
          have x1 : (j : Int) < 2 := by omega
          have dj := HD.out j hjr hlt
          have dl := hed es[j] (List.getElem_mem hlt)
          have qj : isD ((dstr es)[j]'hjr).toNat = true := by rw [isD]; simp; omega
          have HV : Hid (valD (es.take (j + 1)) = 10 * valD (es.take j) + es[j]) := by
            rw [Hid, List.take_succ_eq_append_getElem hlt, valD_snoc']
          have hvb : valD (es.take j) < 1000 := by
            have h1 := valD_lt (es.take j) (fun d hd => hed d (List.mem_of_mem_take hd))
            rw [List.length_take] at h1
            have h2 : 10 ^ min j es.length ≤ 10 ^ 3 := Nat.pow_le_pow_right (by decide) (by omega)
            omega
          have HJ : Hid (((dstr es)[j]'hjr).toNat = 48 + es[j]) := dj
          have b1 : ((dstr es)[j]'hjr).toNat ≤ 57 := by omega
          have b2 : 48 ≤ ((dstr es)[j]'hjr).toNat := by omega
          generalize valD (es.take j) = vj at *
          clear dj dl
          go_wp2_with fail
          refine (digit_any _ _).mono ?_
          rintro e w3 ⟨rfl, rfl⟩
          rw [qj]
          go_wp2_with fail
          go_round
          case rel => exact ⟨j + 1, by go_num, by omega, by rw [HV.out]; have := HJ.out; go_num⟩
          case measure => simp [intOf]; omega
        · have hjL : j = 2 := by omega
          subst hjL
          have ht : es.take 2 = es := List.take_of_length_le (by omega)
          rw [ht]
          have hvb : valD es < 1000 := by
            have h1 := valD_lt es hed
            rw [hes] at h1
            have h2 : 10 ^ 2 ≤ 10 ^ 3 := by decide
            omega
          obtain ⟨vj, hvj⟩ : ∃ v, v = valD es := ⟨_, rfl⟩
          have HVJ : Hid _ := hvj
          rw [← hvj] at hvb ⊢
          clear hvj
          go_wp2_with fail
          go_quiet (fail)
          go_wp2_with fail
          (try simp only [Exit.inBlock, Exit.then])
          refine bodyPost_ret (results_tmp4 rfl _ _ _) rfl ?_
          exact ⟨ret_quad rfl rfl (by rw [HVJ.out]) rfl, ⟨HB.out.os, HB.out.tape, HB.out.output, HB.out.size, HB.out.block⟩⟩
set_option maxRecDepth 100000 in
set_option maxHeartbeats 2000000 in
theorem parse1_103 (s : ByteArray) (a : Nat) (es : List Nat) (w : World) (hsz : s.size = 7) (hes : es.length = 3) (hed : ∀ d ∈ es, d < 10) (ha : a < 10) (h3 : es[0]? ≠ some 0)
    (g0 : (s[0]'(by omega)).toNat = 45) (gP : (s[1]'(by omega)).toNat = 48 + a) (gE : (s[2]'(by omega)).toNat = 101) (gS : (s[3]'(by omega)).toNat = 43) (gR : s.extract 4 7 = dstr es) :
    Calls Tryd.prog 7 #[.string s] w fun e w' => e = .returned (.tuple #[.bool true, .string (dstr [a]), .int .i64 (((valD es : Nat) : Int)), .bool true]) ∧ Below w.heap.size w w' := by
  have q0 : (((s[0]'(by omega)).toNat : Int) == 45) = true := by rw [beq_iff_eq]; omega
  have qP : isD (s[1]'(by omega)).toNat = true := by rw [isD]; simp; omega
  have qP1 : (((s[2]'(by omega)).toNat : Int) == 46) = false := by rw [beq_eq_false_iff_ne]; omega
  have qE : (((s[2]'(by omega)).toNat : Int) != 101) = false := by rw [bne_eq_false_iff_eq]; omega
  have qS1 : (((s[3]'(by omega)).toNat : Int) != 43) = false := by rw [bne_eq_false_iff_eq]; omega
  have qS2 : (((s[3]'(by omega)).toNat : Int) != 45) = true := by rw [bne_iff_ne]; omega
  have qS3 : (((s[3]'(by omega)).toNat : Int) == 45) = false := by rw [beq_eq_false_iff_ne]; omega
  have HP : Hid ((s[1]'(by omega)).toNat = 48 + a) := gP
  have hr := dstr_size es
  rw [hes] at hr
  have HD : Hid (∀ (i : Nat) (h : i < (dstr es).size) (hi : i < es.length), ((dstr es)[i]'h).toNat = 48 + es[i]) := fun i h hi => dstr_get es i h hi hed
  have hr0 : 0 < (dstr es).size := by omega
  have z0 : (((dstr es)[0]'hr0).toNat : Int) ≠ 48 := by
    rw [dstr_get es 0 _ (by omega) hed]
    rw [List.getElem?_eq_getElem (by omega : 0 < es.length)] at h3
    simp at h3
    omega
  have z1 : ((((dstr es)[0]'hr0).toNat : Int) == 48) = false := by rw [beq_eq_false_iff_ne]; exact z0
  clear gP gE gS g0 h3 
  go_enter Tryd.func7, Tryd.ntmps7
  go_wp2_with fail
  refine (digit_any _ _).mono ?_
  rintro e w1 ⟨rfl, rfl⟩
  rw [qP]
  go_wp2_with fail
  generalize hW : w1.alloc _ = W
  have HC : Hid (∀ j (hj : j < [dB a].length), W.cell? ((⟨w1.heap.size, 0, none⟩ : Addr).add j) = some (.int .u8 (([dB a][j]).toNat : Int))) := by
    intro j hj
    have hj0 : j = 0 := by simp at hj; omega
    subst hj0
    show W.cell? ⟨w1.heap.size, 0 + 0, none⟩ = some (.int .u8 ((dB a).toNat : Int))
    rw [← hW, dB_nat ha, ← HP.out]
    clear hW
    go_simp
  have HB : Hid (Below w1.heap.size w1 W) := by rw [Hid, ← hW]; exact (Below.refl _ w1).alloc (Nat.le_refl _) _
  have hcv : ∀ n, (convert 38 9 (.slice (some ⟨w1.heap.size, 0, none⟩) 1 40)).run Tryd.prog (W.drewN n) = .ok (.string (dstr [a])) (W.drewN n) := fun n => run_convert_bytes_back (P := Tryd.prog) (W.drewN n) 38 9 5 ⟨w1.heap.size, 0, none⟩ 40 [dB a] Tryd.underlying38 Tryd.underlying5 Tryd.underlying9 HC.out
  clear hW HC HP
  go_loop [13, 14] (fun vv jv => ∃ j : Nat, jv = .int .i64 j ∧ j ≤ es.length ∧ vv = .int .i64 (valD (es.take j) : Nat)) (fun _ jv => es.length - (intOf jv).toNat)
  case atStart => exact ⟨0, rfl, Nat.zero_le _, rfl⟩
  case round =>
    obtain ⟨j, rfl, hj, rfl⟩ := hrel
    by_cases hlt : j < es.length
    · have hl2 : j < 3 := by omega
      have hjr : j < (dstr es).size := by omega
      have x1 : (j : Int) < 3 := by omega
      have dj := HD.out j hjr hlt
      have dl := hed es[j] (List.getElem_mem hlt)
      have qj : isD ((dstr es)[j]'hjr).toNat = true := by rw [isD]; simp; omega
      have HV : Hid (valD (es.take (j + 1)) = 10 * valD (es.take j) + es[j]) := by
        rw [Hid, List.take_succ_eq_append_getElem hlt, valD_snoc']
      have hvb : valD (es.take j) < 1000 := by
        have h1 := valD_lt (es.take j) (fun d hd => hed d (List.mem_of_mem_take hd))
        rw [List.length_take] at h1
        have h2 : 10 ^ min j es.length ≤ 10 ^ 3 := Nat.pow_le_pow_right (by decide) (by omega)
        omega
      have HJ : Hid (((dstr es)[j]'hjr).toNat = 48 + es[j]) := dj
      have b1 : ((dstr es)[j]'hjr).toNat ≤ 57 := by omega
      have b2 : 48 ≤ ((dstr es)[j]'hjr).toNat := by omega
      generalize valD (es.take j) = vj at *
      clear dj dl
      go_wp2_with fail
      refine (digit_any _ _).mono ?_
      rintro e w2 ⟨rfl, rfl⟩
      rw [qj]
      go_wp2_with fail
      go_round
      case rel => exact ⟨j + 1, by go_num, by omega, by rw [HV.out]; have := HJ.out; go_num⟩
      case measure => simp [intOf]; omega
    · have hjL : j = 3 := by omega
      subst hjL
      have ht : es.take 3 = es := List.take_of_length_le (by omega)
      rw [ht]
      have hvb : valD es < 1000 := by
        have h1 := valD_lt es hed
        rw [hes] at h1
        have h2 : 10 ^ 3 ≤ 10 ^ 3 := by decide
        omega
      obtain ⟨vj, hvj⟩ : ∃ v, v = valD es := ⟨_, rfl⟩
      have HVJ : Hid _ := hvj
      rw [← hvj] at hvb ⊢
      clear hvj
      go_wp2_with fail
      go_quiet (fail)
      go_wp2_with fail
      (try simp only [Exit.inBlock, Exit.then])
      refine bodyPost_ret (results_tmp4 rfl _ _ _) rfl ?_
      exact ⟨ret_quad rfl rfl (by rw [HVJ.out]) rfl, ⟨HB.out.os, HB.out.tape, HB.out.output, HB.out.size, HB.out.block⟩⟩
set_option maxRecDepth 100000 in
set_option maxHeartbeats 2000000 in
theorem parse2_103 (s : ByteArray) (ds : List Nat) (pe : Nat) (es : List Nat) (w : World) (hk1 : 2 ≤ ds.length) (HPE : Hid (pe = 1 + 1 + ds.length)) (hpl : 1 + 3 ≤ pe) (hs1 : pe + 2 < s.size) (hs2 : s.size ≤ 40) (hdd : ∀ d ∈ ds, d < 10) (hes : es.length = 3) (hed : ∀ d ∈ es, d < 10) (h3 : es[0]? ≠ some 0)
    (g0 : (s[0]'(by omega)).toNat = 45) (gP : (s[1]'(by omega)).toNat = 48 + ds[0]) (gD : (s[2]'(by omega)).toNat = 46) (HT : Hid (∀ (t : Nat) (_ : 1 ≤ t) (h2 : t < ds.length) (h : 1 + 1 + t < s.size), (s[1 + 1 + t]'h).toNat = 48 + ds[t])) (gE : (s[pe]'(by omega)).toNat = 101) (gS : (s[pe + 1]'(by omega)).toNat = 43) (gR : s.extract (pe + 2) s.size = dstr es) :
    Calls Tryd.prog 7 #[.string s] w fun e w' => e = .returned (.tuple #[.bool true, .string (dstr ds), .int .i64 (((valD es : Nat) : Int)), .bool true]) ∧ Below w.heap.size w w' := by
  have hd0 := hdd ds[0] (List.getElem_mem (by omega))
  have b0 : 0 < s.size := by omega
  have b1 : 1 < s.size := by omega
  have b2 : 2 < s.size := by omega
  have bE : pe < s.size := by omega
  have bS : pe + 1 < s.size := by omega
  have ne : ¬ s.size = 0 := by omega
  have ne2 : ¬ s = ByteArray.empty := fun e => by rw [e] at b0; exact absurd b0 (by decide)
  have c0 : (s.size : Int) ≤ 40 := by omega
  have c1 : (0 : Int) < (s.size : Int) := by omega
  have c2 : (1 : Int) < (s.size : Int) := by omega
  have c3 : (2 : Int) < (s.size : Int) := by omega
  have e0 : decide ((40 : Int) < (s.size : Int)) = false := by simp; omega
  have e1 : decide ((s.size : Int) ≤ 0) = false := by simp; omega
  have e2 : decide ((s.size : Int) ≤ 1) = false := by simp; omega
  have e3 : decide ((0 : Int) < (s.size : Int)) = true := by simp; omega
  have e4 : decide ((1 : Int) < (s.size : Int)) = true := by simp; omega
  have e5 : decide ((2 : Int) < (s.size : Int)) = true := by simp; omega
  have q0 : (((s[0]'b0).toNat : Int) == 45) = true := by rw [beq_iff_eq]; omega
  have qP : isD (s[1]'(by omega)).toNat = true := by rw [isD]; simp; omega
  have qD : (((s[2]'(by omega)).toNat : Int) == 46) = true := by rw [beq_iff_eq]; omega
  have HE : Hid (isD (s[pe]'bE).toNat = false) := by rw [Hid, isD]; simp; omega
  have qE : (((s[pe]'bE).toNat : Int) != 101) = false := by rw [bne_eq_false_iff_eq]; omega
  have qS1 : (((s[pe + 1]'bS).toNat : Int) != 43) = false := by rw [bne_eq_false_iff_eq]; omega
  have qS2 : (((s[pe + 1]'bS).toNat : Int) != 45) = true := by rw [bne_iff_ne]; omega
  have qS3 : (((s[pe + 1]'bS).toNat : Int) == 45) = false := by rw [beq_eq_false_iff_ne]; omega
  have HP : Hid ((s[1]'(by omega)).toNat = 48 + ds[0]) := gP
  have hpu : pe ≤ 38 := by omega
  have hr := dstr_size es
  rw [hes] at hr
  have HD : Hid (∀ (i : Nat) (h : i < (dstr es).size) (hi : i < es.length), ((dstr es)[i]'h).toNat = 48 + es[i]) := fun i h hi => dstr_get es i h hi hed
  have hr0 : 0 < (dstr es).size := by omega
  have z0 : (((dstr es)[0]'hr0).toNat : Int) ≠ 48 := by
    rw [dstr_get es 0 _ (by omega) hed]
    rw [List.getElem?_eq_getElem (by omega : 0 < es.length)] at h3
    simp at h3
    omega
  have z1 : ((((dstr es)[0]'hr0).toNat : Int) == 48) = false := by rw [beq_eq_false_iff_ne]; exact z0
  clear gP gE gS gD g0 h3 
  go_enter Tryd.func7, Tryd.ntmps7
  go_wp2_with fail
  refine (digit_any _ _).mono ?_
  rintro e w1 ⟨rfl, rfl⟩
  rw [qP]
  go_wp2_with fail
  generalize hW : w1.alloc _ = W0
  have HBUF : Hid (Buf w1 W0 [dB ds[0]]) := by
    rw [Hid, ← hW, HP.out, ← dB_nat hd0]
    exact Buf.first (dB ds[0])
  clear hW HP
  go_loopw [7, 9] (fun iv nv W => ∃ t : Nat, iv = .int .i64 ((1 + 1 + t : Nat) : Int) ∧ nv = .int .i64 t ∧ 1 ≤ t ∧ t ≤ ds.length ∧ Buf w1 W ((ds.take t).map dB)) (fun _ nv _ => ds.length - (intOf nv).toNat)
  case atStart => exact ⟨1, by go_num, by go_num, by omega, by omega, by rw [take_one ds (by omega)]; exact HBUF.out⟩
  case round =>
    obtain ⟨t, rfl, rfl, ht1, ht2, hbuf⟩ := hrel
    have HB2 : Hid _ := hbuf
    clear HBUF hbuf
    obtain ⟨i, hi0⟩ : ∃ i, i = 1 + 1 + t := ⟨_, rfl⟩
    rw [← hi0]
    by_cases hlt : t < ds.length
    · have hi : i < s.size := by have := HPE.out; omega
      have hg : (s[i]'hi).toNat = 48 + ds[t] := by subst hi0; exact HT.out t ht1 hlt hi
      have hdt := hdd ds[t] (List.getElem_mem hlt)
      have qt : isD (s[i]'hi).toNat = true := by rw [isD]; simp; omega
      have x1 : (i : Int) < (s.size : Int) := by omega
      have hib : i ≤ 40 := by omega
      have htb : t < 40 := by omega
      have ct := HB2.out.cell t (by omega)
      have ft := HB2.out.fz t
      have HG : Hid ((((s[i]'hi).toNat : Nat) : Int) = ((dB ds[t]).toNat : Int)) := by rw [Hid, dB_nat hdt]; omega
      have HI : Hid _ := hi0
      have HLN : Hid (((ds.take t).map dB).length = t) := by rw [Hid, List.length_map, List.length_take]; omega
      have HTK : Hid ((ds.take (t + 1)).map dB = (ds.take t).map dB ++ [dB ds[t]]) := by rw [Hid, List.take_succ_eq_append_getElem hlt, List.map_append]; rfl
      clear hg hi0 hdt
      go_wp2_with fail
      refine (digit_any _ _).mono ?_
      rintro e w2 ⟨rfl, rfl⟩
      rw [qt]
      go_wp2_with fail
      go_roundw
      case rel =>
        refine ⟨t + 1, by have := HI.out; go_num, by go_num, by omega, by omega, ?_⟩
        rw [HTK.out]
        have h := HB2.out.push (by rw [HLN.out]; omega) (dB ds[t]) HG.out
        rw [HLN.out] at h
        exact h
      case measure => simp [intOf]; omega
    · have hip : i = pe := by have := HPE.out; omega
      subst hip
      have htk : (ds.take t).map dB = ds.map dB := by rw [List.take_of_length_le (by omega)]
      rw [htk] at HB2
      have htl : t = ds.length := by omega
      have htb : t ≤ 40 := by omega
      have f1 : (t : Int) ≤ 40 := by omega
      have f2 : (0 : Int) ≤ (t : Int) := by omega
      have f3 : ¬ (40 : Int) < (t : Int) := by omega
      have f4 : ¬ 40 < t := by omega
      have f5 : (0 : Int) ≤ (t : Int) ∧ (t : Int) ≤ 40 := by omega
      have x1 : (i : Int) < (s.size : Int) := by omega
      have x2 : (i : Int) + 1 < (s.size : Int) := by omega
      have x3 : ((i : Int) == 3) = false := by rw [beq_eq_false_iff_ne]; omega
      have x4 : ¬ (i : Int) = 3 := by omega
      have x5 : ¬ (s.size : Int) ≤ (i : Int) := by omega
      have x6 : ¬ (s.size : Int) ≤ (i : Int) + 1 := by omega
      have e6 : decide ((s.size : Int) ≤ (i : Int)) = false := by simp; omega
      have e7 : decide ((s.size : Int) ≤ (i : Int) + 1) = false := by simp; omega
      have e8 : decide (s.size ≤ i) = false := by simp; omega
      have e9 : decide ((i : Int) < (s.size : Int)) = true := by simp; omega
      have x7 : (i : Int) + 2 ≤ (s.size : Int) := by omega
      have HTL : Hid _ := htl
      clear hi0 htl htk hlt HPE HT
      go_wp2_with fail
      refine (digit_any _ _).mono ?_
      rintro e w2 ⟨rfl, rfl⟩
      rw [HE.out]
      go_wp2_with fail
      have HB : Hid (Below w1.heap.size w1 w2) := HB2.out.bl
      have hcv : ∀ n, (convert 38 9 (.slice (some ⟨w1.heap.size, 0, none⟩) t 40)).run Tryd.prog (w2.drewN n) = .ok (.string (dstr ds)) (w2.drewN n) := fun n => by
        have h := run_convert_bytes_back (P := Tryd.prog) (w2.drewN n) 38 9 5 ⟨w1.heap.size, 0, none⟩ 40 (ds.map dB) Tryd.underlying38 Tryd.underlying5 Tryd.underlying9 (fun j hj => by
          have hj2 : j < 40 := by rw [List.length_map, ← HTL.out] at hj; omega
          have hc := HB2.out.cell j hj2
          rw [List.getD_eq_getElem?_getD, List.getElem?_eq_getElem hj, Option.getD_some] at hc
          rw [Addr.add_lit, Nat.zero_add]
          exact hc)
        rw [List.length_map, ← HTL.out] at h
        exact h
      clear HB2 HTL
      have gR2 : s.extract (i + 1 + 1) s.size = dstr es := gR
      rw [gR2]
      clear gR2 gR
      go_loop [13, 14] (fun vv jv => ∃ j : Nat, jv = .int .i64 j ∧ j ≤ es.length ∧ vv = .int .i64 (valD (es.take j) : Nat)) (fun _ jv => es.length - (intOf jv).toNat)
      case atStart => exact ⟨0, rfl, Nat.zero_le _, rfl⟩
      case round =>
        obtain ⟨j, rfl, hj, rfl⟩ := hrel
        by_cases hlt : j < es.length
        · have hl2 : j < 3 := by omega
          have hjr : j < (dstr es).size := by omega
          have x1 : (j : Int) < 3 := by omega
          have dj := HD.out j hjr hlt
          have dl := hed es[j] (List.getElem_mem hlt)
          have qj : isD ((dstr es)[j]'hjr).toNat = true := by rw [isD]; simp; omega
          have HV : Hid (valD (es.take (j + 1)) = 10 * valD (es.take j) + es[j]) := by
            rw [Hid, List.take_succ_eq_append_getElem hlt, valD_snoc']
          have hvb : valD (es.take j) < 1000 := by
            have h1 := valD_lt (es.take j) (fun d hd => hed d (List.mem_of_mem_take hd))
            rw [List.length_take] at h1
            have h2 : 10 ^ min j es.length ≤ 10 ^ 3 := Nat.pow_le_pow_right (by decide) (by omega)
            omega
          have HJ : Hid (((dstr es)[j]'hjr).toNat = 48 + es[j]) := dj
          have b1 : ((dstr es)[j]'hjr).toNat ≤ 57 := by omega
          have b2 : 48 ≤ ((dstr es)[j]'hjr).toNat := by omega
          generalize valD (es.take j) = vj at *
          clear dj dl
          go_wp2_with fail
          refine (digit_any _ _).mono ?_
          rintro e w3 ⟨rfl, rfl⟩
          rw [qj]
          go_wp2_with fail
          go_round
          case rel => exact ⟨j + 1, by go_num, by omega, by rw [HV.out]; have := HJ.out; go_num⟩
          case measure => simp [intOf]; omega
        · have hjL : j = 3 := by omega
          subst hjL
          have ht : es.take 3 = es := List.take_of_length_le (by omega)
          rw [ht]
          have hvb : valD es < 1000 := by
            have h1 := valD_lt es hed
            rw [hes] at h1
            have h2 : 10 ^ 3 ≤ 10 ^ 3 := by decide
            omega
          obtain ⟨vj, hvj⟩ : ∃ v, v = valD es := ⟨_, rfl⟩
          have HVJ : Hid _ := hvj
          rw [← hvj] at hvb ⊢
          clear hvj
          go_wp2_with fail
          go_quiet (fail)
          go_wp2_with fail
          (try simp only [Exit.inBlock, Exit.then])
          refine bodyPost_ret (results_tmp4 rfl _ _ _) rfl ?_
          exact ⟨ret_quad rfl rfl (by rw [HVJ.out]) rfl, ⟨HB.out.os, HB.out.tape, HB.out.output, HB.out.size, HB.out.block⟩⟩
set_option maxRecDepth 100000 in
set_option maxHeartbeats 2000000 in
theorem parse1_112 (s : ByteArray) (a : Nat) (es : List Nat) (w : World) (hsz : s.size = 6) (hes : es.length = 2) (hed : ∀ d ∈ es, d < 10) (hv : valD es ≠ 0) (ha : a < 10)
    (g0 : (s[0]'(by omega)).toNat = 45) (gP : (s[1]'(by omega)).toNat = 48 + a) (gE : (s[2]'(by omega)).toNat = 101) (gS : (s[3]'(by omega)).toNat = 45) (gR : s.extract 4 6 = dstr es) :
    Calls Tryd.prog 7 #[.string s] w fun e w' => e = .returned (.tuple #[.bool true, .string (dstr [a]), .int .i64 (-((valD es : Nat) : Int)), .bool true]) ∧ Below w.heap.size w w' := by
  have q0 : (((s[0]'(by omega)).toNat : Int) == 45) = true := by rw [beq_iff_eq]; omega
  have qP : isD (s[1]'(by omega)).toNat = true := by rw [isD]; simp; omega
  have qP1 : (((s[2]'(by omega)).toNat : Int) == 46) = false := by rw [beq_eq_false_iff_ne]; omega
  have qE : (((s[2]'(by omega)).toNat : Int) != 101) = false := by rw [bne_eq_false_iff_eq]; omega
  have qS1 : (((s[3]'(by omega)).toNat : Int) != 43) = true := by rw [bne_iff_ne]; omega
  have qS2 : (((s[3]'(by omega)).toNat : Int) != 45) = false := by rw [bne_eq_false_iff_eq]; omega
  have qS3 : (((s[3]'(by omega)).toNat : Int) == 45) = true := by rw [beq_iff_eq]; omega
  have HP : Hid ((s[1]'(by omega)).toNat = 48 + a) := gP
  have hr := dstr_size es
  rw [hes] at hr
  have HD : Hid (∀ (i : Nat) (h : i < (dstr es).size) (hi : i < es.length), ((dstr es)[i]'h).toNat = 48 + es[i]) := fun i h hi => dstr_get es i h hi hed
  clear gP gE gS g0 
  go_enter Tryd.func7, Tryd.ntmps7
  go_wp2_with fail
  refine (digit_any _ _).mono ?_
  rintro e w1 ⟨rfl, rfl⟩
  rw [qP]
  go_wp2_with fail
  generalize hW : w1.alloc _ = W
  have HC : Hid (∀ j (hj : j < [dB a].length), W.cell? ((⟨w1.heap.size, 0, none⟩ : Addr).add j) = some (.int .u8 (([dB a][j]).toNat : Int))) := by
    intro j hj
    have hj0 : j = 0 := by simp at hj; omega
    subst hj0
    show W.cell? ⟨w1.heap.size, 0 + 0, none⟩ = some (.int .u8 ((dB a).toNat : Int))
    rw [← hW, dB_nat ha, ← HP.out]
    clear hW
    go_simp
  have HB : Hid (Below w1.heap.size w1 W) := by rw [Hid, ← hW]; exact (Below.refl _ w1).alloc (Nat.le_refl _) _
  have hcv : ∀ n, (convert 38 9 (.slice (some ⟨w1.heap.size, 0, none⟩) 1 40)).run Tryd.prog (W.drewN n) = .ok (.string (dstr [a])) (W.drewN n) := fun n => run_convert_bytes_back (P := Tryd.prog) (W.drewN n) 38 9 5 ⟨w1.heap.size, 0, none⟩ 40 [dB a] Tryd.underlying38 Tryd.underlying5 Tryd.underlying9 HC.out
  clear hW HC HP
  go_loop [13, 14] (fun vv jv => ∃ j : Nat, jv = .int .i64 j ∧ j ≤ es.length ∧ vv = .int .i64 (valD (es.take j) : Nat)) (fun _ jv => es.length - (intOf jv).toNat)
  case atStart => exact ⟨0, rfl, Nat.zero_le _, rfl⟩
  case round =>
    obtain ⟨j, rfl, hj, rfl⟩ := hrel
    by_cases hlt : j < es.length
    · have hl2 : j < 2 := by omega
      have hjr : j < (dstr es).size := by omega
      have x1 : (j : Int) < 2 := by omega
      have dj := HD.out j hjr hlt
      have dl := hed es[j] (List.getElem_mem hlt)
      have qj : isD ((dstr es)[j]'hjr).toNat = true := by rw [isD]; simp; omega
      have HV : Hid (valD (es.take (j + 1)) = 10 * valD (es.take j) + es[j]) := by
        rw [Hid, List.take_succ_eq_append_getElem hlt, valD_snoc']
      have hvb : valD (es.take j) < 1000 := by
        have h1 := valD_lt (es.take j) (fun d hd => hed d (List.mem_of_mem_take hd))
        rw [List.length_take] at h1
        have h2 : 10 ^ min j es.length ≤ 10 ^ 3 := Nat.pow_le_pow_right (by decide) (by omega)
        omega
      have HJ : Hid (((dstr es)[j]'hjr).toNat = 48 + es[j]) := dj
      have b1 : ((dstr es)[j]'hjr).toNat ≤ 57 := by omega
      have b2 : 48 ≤ ((dstr es)[j]'hjr).toNat := by omega
      generalize valD (es.take j) = vj at *
      clear dj dl
      go_wp2_with fail
      refine (digit_any _ _).mono ?_
      rintro e w2 ⟨rfl, rfl⟩
      rw [qj]
      go_wp2_with fail
      go_round
      case rel => exact ⟨j + 1, by go_num, by omega, by rw [HV.out]; have := HJ.out; go_num⟩
      case measure => simp [intOf]; omega
    · have hjL : j = 2 := by omega
      subst hjL
      have ht : es.take 2 = es := List.take_of_length_le (by omega)
      rw [ht]
      have hvb : valD es < 1000 := by
        have h1 := valD_lt es hed
        rw [hes] at h1
        have h2 : 10 ^ 2 ≤ 10 ^ 3 := by decide
        omega
      obtain ⟨vj, hvj⟩ : ∃ v, v = valD es := ⟨_, rfl⟩
      have HVJ : Hid _ := hvj
      rw [← hvj] at hvb ⊢
      rw [← hvj] at hv
      clear hvj
      go_wp2_with fail
      go_quiet (fail)
      go_wp2_with fail
      (try simp only [Exit.inBlock, Exit.then])
      refine bodyPost_ret (results_tmp4 rfl _ _ _) rfl ?_
      exact ⟨ret_quad rfl rfl (by rw [HVJ.out]) rfl, ⟨HB.out.os, HB.out.tape, HB.out.output, HB.out.size, HB.out.block⟩⟩
set_option maxRecDepth 100000 in
set_option maxHeartbeats 2000000 in
theorem parse2_112 (s : ByteArray) (ds : List Nat) (pe : Nat) (es : List Nat) (w : World) (hk1 : 2 ≤ ds.length) (HPE : Hid (pe = 1 + 1 + ds.length)) (hpl : 1 + 3 ≤ pe) (hs1 : pe + 2 < s.size) (hs2 : s.size ≤ 40) (hdd : ∀ d ∈ ds, d < 10) (hes : es.length = 2) (hed : ∀ d ∈ es, d < 10) (hv : valD es ≠ 0)
    (g0 : (s[0]'(by omega)).toNat = 45) (gP : (s[1]'(by omega)).toNat = 48 + ds[0]) (gD : (s[2]'(by omega)).toNat = 46) (HT : Hid (∀ (t : Nat) (_ : 1 ≤ t) (h2 : t < ds.length) (h : 1 + 1 + t < s.size), (s[1 + 1 + t]'h).toNat = 48 + ds[t])) (gE : (s[pe]'(by omega)).toNat = 101) (gS : (s[pe + 1]'(by omega)).toNat = 45) (gR : s.extract (pe + 2) s.size = dstr es) :
    Calls Tryd.prog 7 #[.string s] w fun e w' => e = .returned (.tuple #[.bool true, .string (dstr ds), .int .i64 (-((valD es : Nat) : Int)), .bool true]) ∧ Below w.heap.size w w' := by
  have hd0 := hdd ds[0] (List.getElem_mem (by omega))
  have b0 : 0 < s.size := by omega
  have b1 : 1 < s.size := by omega
  have b2 : 2 < s.size := by omega
  have bE : pe < s.size := by omega
  have bS : pe + 1 < s.size := by omega
  have ne : ¬ s.size = 0 := by omega
  have ne2 : ¬ s = ByteArray.empty := fun e => by rw [e] at b0; exact absurd b0 (by decide)
  have c0 : (s.size : Int) ≤ 40 := by omega
  have c1 : (0 : Int) < (s.size : Int) := by omega
  have c2 : (1 : Int) < (s.size : Int) := by omega
  have c3 : (2 : Int) < (s.size : Int) := by omega
  have e0 : decide ((40 : Int) < (s.size : Int)) = false := by simp; omega
  have e1 : decide ((s.size : Int) ≤ 0) = false := by simp; omega
  have e2 : decide ((s.size : Int) ≤ 1) = false := by simp; omega
  have e3 : decide ((0 : Int) < (s.size : Int)) = true := by simp; omega
  have e4 : decide ((1 : Int) < (s.size : Int)) = true := by simp; omega
  have e5 : decide ((2 : Int) < (s.size : Int)) = true := by simp; omega
  have q0 : (((s[0]'b0).toNat : Int) == 45) = true := by rw [beq_iff_eq]; omega
  have qP : isD (s[1]'(by omega)).toNat = true := by rw [isD]; simp; omega
  have qD : (((s[2]'(by omega)).toNat : Int) == 46) = true := by rw [beq_iff_eq]; omega
  have HE : Hid (isD (s[pe]'bE).toNat = false) := by rw [Hid, isD]; simp; omega
  have qE : (((s[pe]'bE).toNat : Int) != 101) = false := by rw [bne_eq_false_iff_eq]; omega
  have qS1 : (((s[pe + 1]'bS).toNat : Int) != 43) = true := by rw [bne_iff_ne]; omega
  have qS2 : (((s[pe + 1]'bS).toNat : Int) != 45) = false := by rw [bne_eq_false_iff_eq]; omega
  have qS3 : (((s[pe + 1]'bS).toNat : Int) == 45) = true := by rw [beq_iff_eq]; omega
  have HP : Hid ((s[1]'(by omega)).toNat = 48 + ds[0]) := gP
  have hpu : pe ≤ 38 := by omega
  have hr := dstr_size es
  rw [hes] at hr
  have HD : Hid (∀ (i : Nat) (h : i < (dstr es).size) (hi : i < es.length), ((dstr es)[i]'h).toNat = 48 + es[i]) := fun i h hi => dstr_get es i h hi hed
  clear gP gE gS gD g0 
  go_enter Tryd.func7, Tryd.ntmps7
  go_wp2_with fail
  refine (digit_any _ _).mono ?_
  rintro e w1 ⟨rfl, rfl⟩
  rw [qP]
  go_wp2_with fail
  generalize hW : w1.alloc _ = W0
  have HBUF : Hid (Buf w1 W0 [dB ds[0]]) := by
    rw [Hid, ← hW, HP.out, ← dB_nat hd0]
    exact Buf.first (dB ds[0])
  clear hW HP
  go_loopw [7, 9] (fun iv nv W => ∃ t : Nat, iv = .int .i64 ((1 + 1 + t : Nat) : Int) ∧ nv = .int .i64 t ∧ 1 ≤ t ∧ t ≤ ds.length ∧ Buf w1 W ((ds.take t).map dB)) (fun _ nv _ => ds.length - (intOf nv).toNat)
  case atStart => exact ⟨1, by go_num, by go_num, by omega, by omega, by rw [take_one ds (by omega)]; exact HBUF.out⟩
  case round =>
    obtain ⟨t, rfl, rfl, ht1, ht2, hbuf⟩ := hrel
    have HB2 : Hid _ := hbuf
    clear HBUF hbuf
    obtain ⟨i, hi0⟩ : ∃ i, i = 1 + 1 + t := ⟨_, rfl⟩
    rw [← hi0]
    by_cases hlt : t < ds.length
    · have hi : i < s.size := by have := HPE.out; omega
      have hg : (s[i]'hi).toNat = 48 + ds[t] := by subst hi0; exact HT.out t ht1 hlt hi
      have hdt := hdd ds[t] (List.getElem_mem hlt)
      have qt : isD (s[i]'hi).toNat = true := by rw [isD]; simp; omega
      have x1 : (i : Int) < (s.size : Int) := by omega
      have hib : i ≤ 40 := by omega
      have htb : t < 40 := by omega
      have ct := HB2.out.cell t (by omega)
      have ft := HB2.out.fz t
      have HG : Hid ((((s[i]'hi).toNat : Nat) : Int) = ((dB ds[t]).toNat : Int)) := by rw [Hid, dB_nat hdt]; omega
      have HI : Hid _ := hi0
      have HLN : Hid (((ds.take t).map dB).length = t) := by rw [Hid, List.length_map, List.length_take]; omega
      have HTK : Hid ((ds.take (t + 1)).map dB = (ds.take t).map dB ++ [dB ds[t]]) := by rw [Hid, List.take_succ_eq_append_getElem hlt, List.map_append]; rfl
      clear hg hi0 hdt
      go_wp2_with fail
      refine (digit_any _ _).mono ?_
      rintro e w2 ⟨rfl, rfl⟩
      rw [qt]
      go_wp2_with fail
      go_roundw
      case rel =>
        refine ⟨t + 1, by have := HI.out; go_num, by go_num, by omega, by omega, ?_⟩
        rw [HTK.out]
        have h := HB2.out.push (by rw [HLN.out]; omega) (dB ds[t]) HG.out
        rw [HLN.out] at h
        exact h
      case measure => simp [intOf]; omega
    · have hip : i = pe := by have := HPE.out; omega
      subst hip
      have htk : (ds.take t).map dB = ds.map dB := by rw [List.take_of_length_le (by omega)]
      rw [htk] at HB2
      have htl : t = ds.length := by omega
      have htb : t ≤ 40 := by omega
      have f1 : (t : Int) ≤ 40 := by omega
      have f2 : (0 : Int) ≤ (t : Int) := by omega
      have f3 : ¬ (40 : Int) < (t : Int) := by omega
      have f4 : ¬ 40 < t := by omega
      have f5 : (0 : Int) ≤ (t : Int) ∧ (t : Int) ≤ 40 := by omega
      have x1 : (i : Int) < (s.size : Int) := by omega
      have x2 : (i : Int) + 1 < (s.size : Int) := by omega
      have x3 : ((i : Int) == 3) = false := by rw [beq_eq_false_iff_ne]; omega
      have x4 : ¬ (i : Int) = 3 := by omega
      have x5 : ¬ (s.size : Int) ≤ (i : Int) := by omega
      have x6 : ¬ (s.size : Int) ≤ (i : Int) + 1 := by omega
      have e6 : decide ((s.size : Int) ≤ (i : Int)) = false := by simp; omega
      have e7 : decide ((s.size : Int) ≤ (i : Int) + 1) = false := by simp; omega
      have e8 : decide (s.size ≤ i) = false := by simp; omega
      have e9 : decide ((i : Int) < (s.size : Int)) = true := by simp; omega
      have x7 : (i : Int) + 2 ≤ (s.size : Int) := by omega
      have HTL : Hid _ := htl
      clear hi0 htl htk hlt HPE HT
      go_wp2_with fail
      refine (digit_any _ _).mono ?_
      rintro e w2 ⟨rfl, rfl⟩
      rw [HE.out]
      go_wp2_with fail
      have HB : Hid (Below w1.heap.size w1 w2) := HB2.out.bl
      have hcv : ∀ n, (convert 38 9 (.slice (some ⟨w1.heap.size, 0, none⟩) t 40)).run Tryd.prog (w2.drewN n) = .ok (.string (dstr ds)) (w2.drewN n) := fun n => by
        have h := run_convert_bytes_back (P := Tryd.prog) (w2.drewN n) 38 9 5 ⟨w1.heap.size, 0, none⟩ 40 (ds.map dB) Tryd.underlying38 Tryd.underlying5 Tryd.underlying9 (fun j hj => by
          have hj2 : j < 40 := by rw [List.length_map, ← HTL.out] at hj; omega
          have hc := HB2.out.cell j hj2
          rw [List.getD_eq_getElem?_getD, List.getElem?_eq_getElem hj, Option.getD_some] at hc
          rw [Addr.add_lit, Nat.zero_add]
          exact hc)
        rw [List.length_map, ← HTL.out] at h
        exact h
      clear HB2 HTL
      have gR2 : s.extract (i + 1 + 1) s.size = dstr es := gR
      rw [gR2]
      clear gR2 gR
      go_loop [13, 14] (fun vv jv => ∃ j : Nat, jv = .int .i64 j ∧ j ≤ es.length ∧ vv = .int .i64 (valD (es.take j) : Nat)) (fun _ jv => es.length - (intOf jv).toNat)
      case atStart => exact ⟨0, rfl, Nat.zero_le _, rfl⟩
      case round =>
        obtain ⟨j, rfl, hj, rfl⟩ := hrel
        by_cases hlt : j < es.length
        · have hl2 : j < 2 := by omega
          have hjr : j < (dstr es).size := by omega
          have x1 : (j : Int) < 2 := by omega
          have dj := HD.out j hjr hlt
          have dl := hed es[j] (List.getElem_mem hlt)
          have qj : isD ((dstr es)[j]'hjr).toNat = true := by rw [isD]; simp; omega
          have HV : Hid (valD (es.take (j + 1)) = 10 * valD (es.take j) + es[j]) := by
            rw [Hid, List.take_succ_eq_append_getElem hlt, valD_snoc']
          have hvb : valD (es.take j) < 1000 := by
            have h1 := valD_lt (es.take j) (fun d hd => hed d (List.mem_of_mem_take hd))
            rw [List.length_take] at h1
            have h2 : 10 ^ min j es.length ≤ 10 ^ 3 := Nat.pow_le_pow_right (by decide) (by omega)
            omega
          have HJ : Hid (((dstr es)[j]'hjr).toNat = 48 + es[j]) := dj
          have b1 : ((dstr es)[j]'hjr).toNat ≤ 57 := by omega
          have b2 : 48 ≤ ((dstr es)[j]'hjr).toNat := by omega
          generalize valD (es.take j) = vj at *
          clear dj dl
          go_wp2_with fail
          refine (digit_any _ _).mono ?_
          rintro e w3 ⟨rfl, rfl⟩
          rw [qj]
          go_wp2_with fail
          go_round
          case rel => exact ⟨j + 1, by go_num, by omega, by rw [HV.out]; have := HJ.out; go_num⟩
          case measure => simp [intOf]; omega
        · have hjL : j = 2 := by omega
          subst hjL
          have ht : es.take 2 = es := List.take_of_length_le (by omega)
          rw [ht]
          have hvb : valD es < 1000 := by
            have h1 := valD_lt es hed
            rw [hes] at h1
            have h2 : 10 ^ 2 ≤ 10 ^ 3 := by decide
            omega
          obtain ⟨vj, hvj⟩ : ∃ v, v = valD es := ⟨_, rfl⟩
          have HVJ : Hid _ := hvj
          rw [← hvj] at hvb ⊢
          rw [← hvj] at hv
          clear hvj
          go_wp2_with fail
          go_quiet (fail)
          go_wp2_with fail
          (try simp only [Exit.inBlock, Exit.then])
          refine bodyPost_ret (results_tmp4 rfl _ _ _) rfl ?_
          exact ⟨ret_quad rfl rfl (by rw [HVJ.out]) rfl, ⟨HB.out.os, HB.out.tape, HB.out.output, HB.out.size, HB.out.block⟩⟩
set_option maxRecDepth 100000 in
set_option maxHeartbeats 2000000 in
theorem parse1_113 (s : ByteArray) (a : Nat) (es : List Nat) (w : World) (hsz : s.size = 7) (hes : es.length = 3) (hed : ∀ d ∈ es, d < 10) (hv : valD es ≠ 0) (ha : a < 10) (h3 : es[0]? ≠ some 0)
    (g0 : (s[0]'(by omega)).toNat = 45) (gP : (s[1]'(by omega)).toNat = 48 + a) (gE : (s[2]'(by omega)).toNat = 101) (gS : (s[3]'(by omega)).toNat = 45) (gR : s.extract 4 7 = dstr es) :
    Calls Tryd.prog 7 #[.string s] w fun e w' => e = .returned (.tuple #[.bool true, .string (dstr [a]), .int .i64 (-((valD es : Nat) : Int)), .bool true]) ∧ Below w.heap.size w w' := by
  have q0 : (((s[0]'(by omega)).toNat : Int) == 45) = true := by rw [beq_iff_eq]; omega
  have qP : isD (s[1]'(by omega)).toNat = true := by rw [isD]; simp; omega
  have qP1 : (((s[2]'(by omega)).toNat : Int) == 46) = false := by rw [beq_eq_false_iff_ne]; omega
  have qE : (((s[2]'(by omega)).toNat : Int) != 101) = false := by rw [bne_eq_false_iff_eq]; omega
  have qS1 : (((s[3]'(by omega)).toNat : Int) != 43) = true := by rw [bne_iff_ne]; omega
  have qS2 : (((s[3]'(by omega)).toNat : Int) != 45) = false := by rw [bne_eq_false_iff_eq]; omega
  have qS3 : (((s[3]'(by omega)).toNat : Int) == 45) = true := by rw [beq_iff_eq]; omega
  have HP : Hid ((s[1]'(by omega)).toNat = 48 + a) := gP
  have hr := dstr_size es
  rw [hes] at hr
  have HD : Hid (∀ (i : Nat) (h : i < (dstr es).size) (hi : i < es.length), ((dstr es)[i]'h).toNat = 48 + es[i]) := fun i h hi => dstr_get es i h hi hed
  have hr0 : 0 < (dstr es).size := by omega
  have z0 : (((dstr es)[0]'hr0).toNat : Int) ≠ 48 := by
    rw [dstr_get es 0 _ (by omega) hed]
    rw [List.getElem?_eq_getElem (by omega : 0 < es.length)] at h3
    simp at h3
    omega
  have z1 : ((((dstr es)[0]'hr0).toNat : Int) == 48) = false := by rw [beq_eq_false_iff_ne]; exact z0
  clear gP gE gS g0 h3 
  go_enter Tryd.func7, Tryd.ntmps7
  go_wp2_with fail
  refine (digit_any _ _).mono ?_
  rintro e w1 ⟨rfl, rfl⟩
  rw [qP]
  go_wp2_with fail
  generalize hW : w1.alloc _ = W
  have HC : Hid (∀ j (hj : j < [dB a].length), W.cell? ((⟨w1.heap.size, 0, none⟩ : Addr).add j) = some (.int .u8 (([dB a][j]).toNat : Int))) := by
    intro j hj
    have hj0 : j = 0 := by simp at hj; omega
    subst hj0
    show W.cell? ⟨w1.heap.size, 0 + 0, none⟩ = some (.int .u8 ((dB a).toNat : Int))
    rw [← hW, dB_nat ha, ← HP.out]
    clear hW
    go_simp
  have HB : Hid (Below w1.heap.size w1 W) := by rw [Hid, ← hW]; exact (Below.refl _ w1).alloc (Nat.le_refl _) _
  have hcv : ∀ n, (convert 38 9 (.slice (some ⟨w1.heap.size, 0, none⟩) 1 40)).run Tryd.prog (W.drewN n) = .ok (.string (dstr [a])) (W.drewN n) := fun n => run_convert_bytes_back (P := Tryd.prog) (W.drewN n) 38 9 5 ⟨w1.heap.size, 0, none⟩ 40 [dB a] Tryd.underlying38 Tryd.underlying5 Tryd.underlying9 HC.out
  clear hW HC HP
  go_loop [13, 14] (fun vv jv => ∃ j : Nat, jv = .int .i64 j ∧ j ≤ es.length ∧ vv = .int .i64 (valD (es.take j) : Nat)) (fun _ jv => es.length - (intOf jv).toNat)
  case atStart => exact ⟨0, rfl, Nat.zero_le _, rfl⟩
  case round =>
    obtain ⟨j, rfl, hj, rfl⟩ := hrel
    by_cases hlt : j < es.length
    · have hl2 : j < 3 := by omega
      have hjr : j < (dstr es).size := by omega
      have x1 : (j : Int) < 3 := by omega
      have dj := HD.out j hjr hlt
      have dl := hed es[j] (List.getElem_mem hlt)
      have qj : isD ((dstr es)[j]'hjr).toNat = true := by rw [isD]; simp; omega
      have HV : Hid (valD (es.take (j + 1)) = 10 * valD (es.take j) + es[j]) := by
        rw [Hid, List.take_succ_eq_append_getElem hlt, valD_snoc']
      have hvb : valD (es.take j) < 1000 := by
        have h1 := valD_lt (es.take j) (fun d hd => hed d (List.mem_of_mem_take hd))
        rw [List.length_take] at h1
        have h2 : 10 ^ min j es.length ≤ 10 ^ 3 := Nat.pow_le_pow_right (by decide) (by omega)
        omega
      have HJ : Hid (((dstr es)[j]'hjr).toNat = 48 + es[j]) := dj
      have b1 : ((dstr es)[j]'hjr).toNat ≤ 57 := by omega
      have b2 : 48 ≤ ((dstr es)[j]'hjr).toNat := by omega
      generalize valD (es.take j) = vj at *
      clear dj dl
      go_wp2_with fail
      refine (digit_any _ _).mono ?_
      rintro e w2 ⟨rfl, rfl⟩
      rw [qj]
      go_wp2_with fail
      go_round
      case rel => exact ⟨j + 1, by go_num, by omega, by rw [HV.out]; have := HJ.out; go_num⟩
      case measure => simp [intOf]; omega
    · have hjL : j = 3 := by omega
      subst hjL
      have ht : es.take 3 = es := List.take_of_length_le (by omega)
      rw [ht]
      have hvb : valD es < 1000 := by
        have h1 := valD_lt es hed
        rw [hes] at h1
        have h2 : 10 ^ 3 ≤ 10 ^ 3 := by decide
        omega
      obtain ⟨vj, hvj⟩ : ∃ v, v = valD es := ⟨_, rfl⟩
      have HVJ : Hid _ := hvj
      rw [← hvj] at hvb ⊢
      rw [← hvj] at hv
      clear hvj
      go_wp2_with fail
      go_quiet (fail)
      go_wp2_with fail
      (try simp only [Exit.inBlock, Exit.then])
      refine bodyPost_ret (results_tmp4 rfl _ _ _) rfl ?_
      exact ⟨ret_quad rfl rfl (by rw [HVJ.out]) rfl, ⟨HB.out.os, HB.out.tape, HB.out.output, HB.out.size, HB.out.block⟩⟩
set_option maxRecDepth 100000 in
set_option maxHeartbeats 2000000 in
theorem parse2_113 (s : ByteArray) (ds : List Nat) (pe : Nat) (es : List Nat) (w : World) (hk1 : 2 ≤ ds.length) (HPE : Hid (pe = 1 + 1 + ds.length)) (hpl : 1 + 3 ≤ pe) (hs1 : pe + 2 < s.size) (hs2 : s.size ≤ 40) (hdd : ∀ d ∈ ds, d < 10) (hes : es.length = 3) (hed : ∀ d ∈ es, d < 10) (hv : valD es ≠ 0) (h3 : es[0]? ≠ some 0)
    (g0 : (s[0]'(by omega)).toNat = 45) (gP : (s[1]'(by omega)).toNat = 48 + ds[0]) (gD : (s[2]'(by omega)).toNat = 46) (HT : Hid (∀ (t : Nat) (_ : 1 ≤ t) (h2 : t < ds.length) (h : 1 + 1 + t < s.size), (s[1 + 1 + t]'h).toNat = 48 + ds[t])) (gE : (s[pe]'(by omega)).toNat = 101) (gS : (s[pe + 1]'(by omega)).toNat = 45) (gR : s.extract (pe + 2) s.size = dstr es) :
    Calls Tryd.prog 7 #[.string s] w fun e w' => e = .returned (.tuple #[.bool true, .string (dstr ds), .int .i64 (-((valD es : Nat) : Int)), .bool true]) ∧ Below w.heap.size w w' := by
  have hd0 := hdd ds[0] (List.getElem_mem (by omega))
  have b0 : 0 < s.size := by omega
  have b1 : 1 < s.size := by omega
  have b2 : 2 < s.size := by omega
  have bE : pe < s.size := by omega
  have bS : pe + 1 < s.size := by omega
  have ne : ¬ s.size = 0 := by omega
  have ne2 : ¬ s = ByteArray.empty := fun e => by rw [e] at b0; exact absurd b0 (by decide)
  have c0 : (s.size : Int) ≤ 40 := by omega
  have c1 : (0 : Int) < (s.size : Int) := by omega
  have c2 : (1 : Int) < (s.size : Int) := by omega
  have c3 : (2 : Int) < (s.size : Int) := by omega
  have e0 : decide ((40 : Int) < (s.size : Int)) = false := by simp; omega
  have e1 : decide ((s.size : Int) ≤ 0) = false := by simp; omega
  have e2 : decide ((s.size : Int) ≤ 1) = false := by simp; omega
  have e3 : decide ((0 : Int) < (s.size : Int)) = true := by simp; omega
  have e4 : decide ((1 : Int) < (s.size : Int)) = true := by simp; omega
  have e5 : decide ((2 : Int) < (s.size : Int)) = true := by simp; omega
  have q0 : (((s[0]'b0).toNat : Int) == 45) = true := by rw [beq_iff_eq]; omega
  have qP : isD (s[1]'(by omega)).toNat = true := by rw [isD]; simp; omega
  have qD : (((s[2]'(by omega)).toNat : Int) == 46) = true := by rw [beq_iff_eq]; omega
  have HE : Hid (isD (s[pe]'bE).toNat = false) := by rw [Hid, isD]; simp; omega
  have qE : (((s[pe]'bE).toNat : Int) != 101) = false := by rw [bne_eq_false_iff_eq]; omega
  have qS1 : (((s[pe + 1]'bS).toNat : Int) != 43) = true := by rw [bne_iff_ne]; omega
  have qS2 : (((s[pe + 1]'bS).toNat : Int) != 45) = false := by rw [bne_eq_false_iff_eq]; omega
  have qS3 : (((s[pe + 1]'bS).toNat : Int) == 45) = true := by rw [beq_iff_eq]; omega
  have HP : Hid ((s[1]'(by omega)).toNat = 48 + ds[0]) := gP
  have hpu : pe ≤ 38 := by omega
  have hr := dstr_size es
  rw [hes] at hr
  have HD : Hid (∀ (i : Nat) (h : i < (dstr es).size) (hi : i < es.length), ((dstr es)[i]'h).toNat = 48 + es[i]) := fun i h hi => dstr_get es i h hi hed
  have hr0 : 0 < (dstr es).size := by omega
  have z0 : (((dstr es)[0]'hr0).toNat : Int) ≠ 48 := by
    rw [dstr_get es 0 _ (by omega) hed]
    rw [List.getElem?_eq_getElem (by omega : 0 < es.length)] at h3
    simp at h3
    omega
  have z1 : ((((dstr es)[0]'hr0).toNat : Int) == 48) = false := by rw [beq_eq_false_iff_ne]; exact z0
  clear gP gE gS gD g0 h3 
  go_enter Tryd.func7, Tryd.ntmps7
  go_wp2_with fail
  refine (digit_any _ _).mono ?_
  rintro e w1 ⟨rfl, rfl⟩
  rw [qP]
  go_wp2_with fail
  generalize hW : w1.alloc _ = W0
  have HBUF : Hid (Buf w1 W0 [dB ds[0]]) := by
    rw [Hid, ← hW, HP.out, ← dB_nat hd0]
    exact Buf.first (dB ds[0])
  clear hW HP
  go_loopw [7, 9] (fun iv nv W => ∃ t : Nat, iv = .int .i64 ((1 + 1 + t : Nat) : Int) ∧ nv = .int .i64 t ∧ 1 ≤ t ∧ t ≤ ds.length ∧ Buf w1 W ((ds.take t).map dB)) (fun _ nv _ => ds.length - (intOf nv).toNat)
  case atStart => exact ⟨1, by go_num, by go_num, by omega, by omega, by rw [take_one ds (by omega)]; exact HBUF.out⟩
  case round =>
    obtain ⟨t, rfl, rfl, ht1, ht2, hbuf⟩ := hrel
    have HB2 : Hid _ := hbuf
    clear HBUF hbuf
    obtain ⟨i, hi0⟩ : ∃ i, i = 1 + 1 + t := ⟨_, rfl⟩
    rw [← hi0]
    by_cases hlt : t < ds.length
    · have hi : i < s.size := by have := HPE.out; omega
      have hg : (s[i]'hi).toNat = 48 + ds[t] := by subst hi0; exact HT.out t ht1 hlt hi
      have hdt := hdd ds[t] (List.getElem_mem hlt)
      have qt : isD (s[i]'hi).toNat = true := by rw [isD]; simp; omega
      have x1 : (i : Int) < (s.size : Int) := by omega
      have hib : i ≤ 40 := by omega
      have htb : t < 40 := by omega
      have ct := HB2.out.cell t (by omega)
      have ft := HB2.out.fz t
      have HG : Hid ((((s[i]'hi).toNat : Nat) : Int) = ((dB ds[t]).toNat : Int)) := by rw [Hid, dB_nat hdt]; omega
      have HI : Hid _ := hi0
      have HLN : Hid (((ds.take t).map dB).length = t) := by rw [Hid, List.length_map, List.length_take]; omega
      have HTK : Hid ((ds.take (t + 1)).map dB = (ds.take t).map dB ++ [dB ds[t]]) := by rw [Hid, List.take_succ_eq_append_getElem hlt, List.map_append]; rfl
      clear hg hi0 hdt
      go_wp2_with fail
      refine (digit_any _ _).mono ?_
      rintro e w2 ⟨rfl, rfl⟩
      rw [qt]
      go_wp2_with fail
      go_roundw
      case rel =>
        refine ⟨t + 1, by have := HI.out; go_num, by go_num, by omega, by omega, ?_⟩
        rw [HTK.out]
        have h := HB2.out.push (by rw [HLN.out]; omega) (dB ds[t]) HG.out
        rw [HLN.out] at h
        exact h
      case measure => simp [intOf]; omega
    · have hip : i = pe := by have := HPE.out; omega
      subst hip
      have htk : (ds.take t).map dB = ds.map dB := by rw [List.take_of_length_le (by omega)]
      rw [htk] at HB2
      have htl : t = ds.length := by omega
      have htb : t ≤ 40 := by omega
      have f1 : (t : Int) ≤ 40 := by omega
      have f2 : (0 : Int) ≤ (t : Int) := by omega
      have f3 : ¬ (40 : Int) < (t : Int) := by omega
      have f4 : ¬ 40 < t := by omega
      have f5 : (0 : Int) ≤ (t : Int) ∧ (t : Int) ≤ 40 := by omega
      have x1 : (i : Int) < (s.size : Int) := by omega
      have x2 : (i : Int) + 1 < (s.size : Int) := by omega
      have x3 : ((i : Int) == 3) = false := by rw [beq_eq_false_iff_ne]; omega
      have x4 : ¬ (i : Int) = 3 := by omega
      have x5 : ¬ (s.size : Int) ≤ (i : Int) := by omega
      have x6 : ¬ (s.size : Int) ≤ (i : Int) + 1 := by omega
      have e6 : decide ((s.size : Int) ≤ (i : Int)) = false := by simp; omega
      have e7 : decide ((s.size : Int) ≤ (i : Int) + 1) = false := by simp; omega
      have e8 : decide (s.size ≤ i) = false := by simp; omega
      have e9 : decide ((i : Int) < (s.size : Int)) = true := by simp; omega
      have x7 : (i : Int) + 2 ≤ (s.size : Int) := by omega
      have HTL : Hid _ := htl
      clear hi0 htl htk hlt HPE HT
      go_wp2_with fail
      refine (digit_any _ _).mono ?_
      rintro e w2 ⟨rfl, rfl⟩
      rw [HE.out]
      go_wp2_with fail
      have HB : Hid (Below w1.heap.size w1 w2) := HB2.out.bl
      have hcv : ∀ n, (convert 38 9 (.slice (some ⟨w1.heap.size, 0, none⟩) t 40)).run Tryd.prog (w2.drewN n) = .ok (.string (dstr ds)) (w2.drewN n) := fun n => by
        have h := run_convert_bytes_back (P := Tryd.prog) (w2.drewN n) 38 9 5 ⟨w1.heap.size, 0, none⟩ 40 (ds.map dB) Tryd.underlying38 Tryd.underlying5 Tryd.underlying9 (fun j hj => by
          have hj2 : j < 40 := by rw [List.length_map, ← HTL.out] at hj; omega
          have hc := HB2.out.cell j hj2
          rw [List.getD_eq_getElem?_getD, List.getElem?_eq_getElem hj, Option.getD_some] at hc
          rw [Addr.add_lit, Nat.zero_add]
          exact hc)
        rw [List.length_map, ← HTL.out] at h
        exact h
      clear HB2 HTL
      have gR2 : s.extract (i + 1 + 1) s.size = dstr es := gR
      rw [gR2]
      clear gR2 gR
      go_loop [13, 14] (fun vv jv => ∃ j : Nat, jv = .int .i64 j ∧ j ≤ es.length ∧ vv = .int .i64 (valD (es.take j) : Nat)) (fun _ jv => es.length - (intOf jv).toNat)
      case atStart => exact ⟨0, rfl, Nat.zero_le _, rfl⟩
      case round =>
        obtain ⟨j, rfl, hj, rfl⟩ := hrel
        by_cases hlt : j < es.length
        · have hl2 : j < 3 := by omega
          have hjr : j < (dstr es).size := by omega
          have x1 : (j : Int) < 3 := by omega
          have dj := HD.out j hjr hlt
          have dl := hed es[j] (List.getElem_mem hlt)
          have qj : isD ((dstr es)[j]'hjr).toNat = true := by rw [isD]; simp; omega
          have HV : Hid (valD (es.take (j + 1)) = 10 * valD (es.take j) + es[j]) := by
            rw [Hid, List.take_succ_eq_append_getElem hlt, valD_snoc']
          have hvb : valD (es.take j) < 1000 := by
            have h1 := valD_lt (es.take j) (fun d hd => hed d (List.mem_of_mem_take hd))
            rw [List.length_take] at h1
            have h2 : 10 ^ min j es.length ≤ 10 ^ 3 := Nat.pow_le_pow_right (by decide) (by omega)
            omega
          have HJ : Hid (((dstr es)[j]'hjr).toNat = 48 + es[j]) := dj
          have b1 : ((dstr es)[j]'hjr).toNat ≤ 57 := by omega
          have b2 : 48 ≤ ((dstr es)[j]'hjr).toNat := by omega
          generalize valD (es.take j) = vj at *
          clear dj dl
          go_wp2_with fail
          refine (digit_any _ _).mono ?_
          rintro e w3 ⟨rfl, rfl⟩
          rw [qj]
          go_wp2_with fail
          go_round
          case rel => exact ⟨j + 1, by go_num, by omega, by rw [HV.out]; have := HJ.out; go_num⟩
          case measure => simp [intOf]; omega
        · have hjL : j = 3 := by omega
          subst hjL
          have ht : es.take 3 = es := List.take_of_length_le (by omega)
          rw [ht]
          have hvb : valD es < 1000 := by
            have h1 := valD_lt es hed
            rw [hes] at h1
            have h2 : 10 ^ 3 ≤ 10 ^ 3 := by decide
            omega
          obtain ⟨vj, hvj⟩ : ∃ v, v = valD es := ⟨_, rfl⟩
          have HVJ : Hid _ := hvj
          rw [← hvj] at hvb ⊢
          rw [← hvj] at hv
          clear hvj
          go_wp2_with fail
          go_quiet (fail)
          go_wp2_with fail
          (try simp only [Exit.inBlock, Exit.then])
          refine bodyPost_ret (results_tmp4 rfl _ _ _) rfl ?_
          exact ⟨ret_quad rfl rfl (by rw [HVJ.out]) rfl, ⟨HB.out.os, HB.out.tape, HB.out.output, HB.out.size, HB.out.block⟩⟩
end Go.Proofs.Qxb6615058aDoor
