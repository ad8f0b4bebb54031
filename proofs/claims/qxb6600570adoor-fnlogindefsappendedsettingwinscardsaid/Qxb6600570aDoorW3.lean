/-
  Walks: zzTrailSpace (28).
-/
import Derived.Test.Qxb6600570aDoorW2
namespace Go.Proofs.Qxb6600570aDoor
open Go.RowKit

theorem drop1 (s : ByteArray) (m : Nat) (h : s.size = m + 1) : s.data.toList.drop m = [s[m]] := by
  rw [List.drop_eq_getElem_cons (by simpa using (by omega : m < s.size)), List.drop_eq_nil_of_le (by simp; show s.size ≤ m + 1; omega)]
  rfl
theorem drop2 (s : ByteArray) (m : Nat) (h : s.size = m + 2) : s.data.toList.drop m = [s[m], s[m + 1]] := by
  rw [List.drop_eq_getElem_cons (by simpa using (by omega : m < s.size)), drop1 s (m + 1) h]
  rfl
theorem drop3 (s : ByteArray) (m : Nat) (h : s.size = m + 3) : s.data.toList.drop m = [s[m], s[m + 1], s[m + 2]] := by
  rw [List.drop_eq_getElem_cons (by simpa using (by omega : m < s.size)), drop2 s (m + 1) h]
  rfl

theorem tail1 {s : ByteArray} {m : Nat} (h : s.size = m + 1) (e : sp1 s[m] = true) : Lib.tailSpace s.data.toList = 1 := by
  rw [tail_of ((sp1_mem _).1 e) ?_]
  · rfl
  · rw [← drop1 s m h]; exact List.drop_suffix _ _
theorem tail2 {s : ByteArray} {m : Nat} (h : s.size = m + 2) (e : sp2 s[m] s[m + 1] = true) : Lib.tailSpace s.data.toList = 2 := by
  rw [tail_of ((sp2_mem _ _).1 e) ?_]
  · rfl
  · rw [← drop2 s m h]; exact List.drop_suffix _ _
theorem tail3 {s : ByteArray} {m : Nat} (h : s.size = m + 3) (e : sp3 s[m] s[m + 1] s[m + 2] = true) : Lib.tailSpace s.data.toList = 3 := by
  rw [tail_of ((sp3_mem _ _ _).1 e) ?_]
  · rfl
  · rw [← drop3 s m h]; exact List.drop_suffix _ _
theorem tail0 {s : ByteArray} (h1 : ∀ m, ∀ h : s.size = m + 1, sp1 s[m] = false) (h2 : ∀ m, ∀ h : s.size = m + 2, sp2 s[m] s[m + 1] = false) (h3 : ∀ m, ∀ h : s.size = m + 3, sp3 s[m] s[m + 1] s[m + 2] = false) : Lib.tailSpace s.data.toList = 0 := by
  refine tail_none fun q hq hp => ?_
  have hl := hp.length_le
  have hsz : s.data.toList.length = s.size := by simp
  have hd := List.suffix_iff_eq_drop.1 hp
  rw [hsz] at hl hd
  rcases seqs_len _ hq with h | h | h
  · obtain ⟨m, hm⟩ : ∃ m, s.size = m + 1 := ⟨s.size - 1, by omega⟩
    rw [h, show s.size - 1 = m by omega, drop1 s m hm] at hd
    have := h1 m hm
    rw [(sp1_mem _).2 (hd ▸ hq)] at this
    cases this
  · obtain ⟨m, hm⟩ : ∃ m, s.size = m + 2 := ⟨s.size - 2, by omega⟩
    rw [h, show s.size - 2 = m by omega, drop2 s m hm] at hd
    have := h2 m hm
    rw [(sp2_mem _ _).2 (hd ▸ hq)] at this
    cases this
  · obtain ⟨m, hm⟩ : ∃ m, s.size = m + 3 := ⟨s.size - 3, by omega⟩
    rw [h, show s.size - 3 = m by omega, drop3 s m hm] at hd
    have := h3 m hm
    rw [(sp3_mem _ _ _).2 (hd ▸ hq)] at this
    cases this

theorem tail0' {s : ByteArray} (h1 : ∀ h : 0 < s.size, sp1 (s[s.size - 1]'(by omega)) = false) (h2 : ∀ h : 1 < s.size, sp2 (s[s.size - 2]'(by omega)) (s[s.size - 1]'(by omega)) = false) (h3 : ∀ h : 2 < s.size, sp3 (s[s.size - 3]'(by omega)) (s[s.size - 2]'(by omega)) (s[s.size - 1]'(by omega)) = false) : Lib.tailSpace s.data.toList = 0 := by
  refine tail0 (fun m h => ?_) (fun m h => ?_) (fun m h => ?_)
  · have := h1 (by omega)
    simp only [show s.size - 1 = m by omega] at this
    exact this
  · have := h2 (by omega)
    simp only [show s.size - 2 = m by omega, show s.size - 1 = m + 1 by omega] at this
    exact this
  · have := h3 (by omega)
    simp only [show s.size - 3 = m by omega, show s.size - 2 = m + 1 by omega, show s.size - 1 = m + 2 by omega] at this
    exact this
theorem tail1' {s : ByteArray} (h : 0 < s.size) (e : sp1 (s[s.size - 1]'(by omega)) = true) : Lib.tailSpace s.data.toList = 1 := by
  refine tail1 (m := s.size - 1) (by omega) e
theorem tail2' {s : ByteArray} (h : 1 < s.size) (e : sp2 (s[s.size - 2]'(by omega)) (s[s.size - 1]'(by omega)) = true) : Lib.tailSpace s.data.toList = 2 := by
  refine tail2 (m := s.size - 2) (by omega) ?_
  simp only [show s.size - 2 + 1 = s.size - 1 by omega]
  exact e
theorem tail3' {s : ByteArray} (h : 2 < s.size) (e : sp3 (s[s.size - 3]'(by omega)) (s[s.size - 2]'(by omega)) (s[s.size - 1]'(by omega)) = true) : Lib.tailSpace s.data.toList = 3 := by
  refine tail3 (m := s.size - 3) (by omega) ?_
  simp only [show s.size - 3 + 1 = s.size - 2 by omega, show s.size - 3 + 2 = s.size - 1 by omega]
  exact e

set_option maxRecDepth 100000 in
set_option maxHeartbeats 1600000 in
theorem trail_any (s : ByteArray) (w : World) (hs : s.size < 4611686018427387904) :
    Calls Tryd.prog 28 #[.string s] w fun e w' => e = .returned (.int .i64 (Lib.tailSpace s.data.toList)) ∧ ∃ m, w' = w.drewN m := by
  by_cases n1 : 0 < s.size
  · obtain ⟨m1, hm1⟩ : ∃ m1, m1 = s.size - 1 := ⟨_, rfl⟩
    obtain ⟨m2, hm2⟩ : ∃ m2, m2 = s.size - 2 := ⟨_, rfl⟩
    obtain ⟨m3, hm3⟩ : ∃ m3, m3 = s.size - 3 := ⟨_, rfl⟩
    have x1 : (1 : Int) ≤ (s.size : Int) := by omega
    have l1 : m1 < s.size := by omega
    have l2 : m2 < s.size := by omega
    have l3 : m3 < s.size := by omega
    have y1 : (m1 : Int) < (s.size : Int) := by omega
    have y2 : (m2 : Int) < (s.size : Int) := by omega
    have y3 : (m3 : Int) < (s.size : Int) := by omega
    have z1 : IntKind.i64.wrap ((s.size : Int) - 1) = (m1 : Int) := by rw [IntKind.wrap_i64]; omega
    have HZ2 : Hid (1 < s.size → IntKind.i64.wrap ((s.size : Int) - 2) = (m2 : Int)) := fun h => by rw [IntKind.wrap_i64]; omega
    have HZ3 : Hid (2 < s.size → IntKind.i64.wrap ((s.size : Int) - 3) = (m3 : Int)) := fun h => by rw [IntKind.wrap_i64]; omega
    have H1 : Hid (∀ e, sp1 (s[m1]'l1) = e → e = true → Lib.tailSpace s.data.toList = 1) := by
      subst hm1
      exact fun e h h' => tail1' n1 (h.trans h')
    have H2 : Hid (1 < s.size → sp2 (s[m2]'l2) (s[m1]'l1) = true → Lib.tailSpace s.data.toList = 2) := by
      subst hm1 hm2
      exact fun h => tail2' h
    have H3 : Hid (2 < s.size → sp3 (s[m3]'l3) (s[m2]'l2) (s[m1]'l1) = true → Lib.tailSpace s.data.toList = 3) := by
      subst hm1 hm2 hm3
      exact fun h => tail3' h
    have H0 : Hid (sp1 (s[m1]'l1) = false → (1 < s.size → sp2 (s[m2]'l2) (s[m1]'l1) = false) → (2 < s.size → sp3 (s[m3]'l3) (s[m2]'l2) (s[m1]'l1) = false) → Lib.tailSpace s.data.toList = 0) := by
      subst hm1 hm2 hm3
      exact fun h1 h2 h3 => tail0' (fun _ => h1) h2 h3
    clear hm1 hm2 hm3
    cases e1 : sp1 s[m1] with
    | true =>
      have HR : Hid _ := H1.out _ e1 rfl
      go_enter Tryd.func28, Tryd.ntmps28
      go_wp2_with fail
      refine (space1_any _ _).mono ?_
      rintro e w' ⟨rfl, rfl⟩
      rw [e1]
      go_wp2_with fail
      go_ret
      exact ⟨ret_int (by rw [HR.out]; rfl), ⟨0, rfl⟩⟩
    | false =>
      by_cases n2 : 1 < s.size
      · have x2 : (2 : Int) ≤ (s.size : Int) := by omega
        have z2 := HZ2.out n2
        cases e2 : sp2 s[m2] s[m1] with
        | true =>
          have HR : Hid _ := H2.out n2 e2
          go_enter Tryd.func28, Tryd.ntmps28
          go_wp2_with fail
          refine (space1_any _ _).mono ?_
          rintro e w' ⟨rfl, rfl⟩
          rw [e1]
          go_wp2_with fail
          go_quiet ((go_at_call 48; exact Calls.quiet_of_same (space2_any _ _ _)))
          rw [e2]
          go_wp2_with fail
          go_ret
          exact ⟨ret_int (by rw [HR.out]; rfl), ⟨_, by first | rfl | rw [World.drewN_drewN] | rw [← HW2.out, World.drewN_drewN]⟩⟩
        | false =>
          by_cases n3 : 2 < s.size
          · have x3 : (3 : Int) ≤ (s.size : Int) := by omega
            have z3 := HZ3.out n3
            cases e3 : sp3 s[m3] s[m2] s[m1] with
            | true =>
              have HR : Hid _ := H3.out n3 e3
              go_enter Tryd.func28, Tryd.ntmps28
              go_wp2_with fail
              refine (space1_any _ _).mono ?_
              rintro e w' ⟨rfl, rfl⟩
              rw [e1]
              go_wp2_with fail
              go_quiet ((go_at_call 48; exact Calls.quiet_of_same (space2_any _ _ _)))
              rw [e2]
              generalize hw2 : World.drewN _ _ = w2
              have HW2 : Hid _ := hw2
              clear hw2
              go_wp2_with fail
              go_quiet ((go_at_call 49; exact Calls.quiet_of_same (space3_any _ _ _ _)))
              rw [e3]
              go_wp2_with fail
              go_ret
              exact ⟨ret_int (by rw [HR.out]; rfl), ⟨_, by first | rfl | rw [World.drewN_drewN] | rw [← HW2.out, World.drewN_drewN]⟩⟩
            | false =>
              have HR : Hid _ := H0.out e1 (fun _ => e2) (fun _ => e3)
              go_enter Tryd.func28, Tryd.ntmps28
              go_wp2_with fail
              refine (space1_any _ _).mono ?_
              rintro e w' ⟨rfl, rfl⟩
              rw [e1]
              go_wp2_with fail
              go_quiet ((go_at_call 48; exact Calls.quiet_of_same (space2_any _ _ _)))
              rw [e2]
              generalize hw2 : World.drewN _ _ = w2
              have HW2 : Hid _ := hw2
              clear hw2
              go_wp2_with fail
              go_quiet ((go_at_call 49; exact Calls.quiet_of_same (space3_any _ _ _ _)))
              rw [e3]
              go_wp2_with fail
              go_ret
              exact ⟨ret_int (by rw [HR.out]; rfl), ⟨_, by first | rfl | rw [World.drewN_drewN] | rw [← HW2.out, World.drewN_drewN]⟩⟩
          · have x3 : decide ((3 : Int) ≤ (s.size : Int)) = false := by simp; omega
            have HR : Hid _ := H0.out e1 (fun _ => e2) (fun h => absurd h n3)
            go_enter Tryd.func28, Tryd.ntmps28
            go_wp2_with fail
            refine (space1_any _ _).mono ?_
            rintro e w' ⟨rfl, rfl⟩
            rw [e1]
            go_wp2_with fail
            go_quiet ((go_at_call 48; exact Calls.quiet_of_same (space2_any _ _ _)))
            rw [e2]
            go_wp2_with fail
            go_quiet (fail)
            go_wp2_with fail
            go_ret
            exact ⟨ret_int (by rw [HR.out]; rfl), ⟨_, by first | rfl | rw [World.drewN_drewN] | rw [← HW2.out, World.drewN_drewN]⟩⟩
      · have x2 : decide ((2 : Int) ≤ (s.size : Int)) = false := by simp; omega
        have HR : Hid _ := H0.out e1 (fun h => absurd h n2) (fun h => absurd h (by omega))
        have x3 : decide ((3 : Int) ≤ (s.size : Int)) = false := by simp; omega
        go_enter Tryd.func28, Tryd.ntmps28
        go_wp2_with fail
        refine (space1_any _ _).mono ?_
        rintro e w' ⟨rfl, rfl⟩
        rw [e1]
        go_wp2_with fail
        go_quiet (fail)
        go_wp2_with fail
        go_quiet (fail)
        go_wp2_with fail
        go_ret
        exact ⟨ret_int (by rw [HR.out]; rfl), ⟨_, by first | rfl | rw [World.drewN_drewN] | rw [← HW2.out, World.drewN_drewN]⟩⟩
  · have HR : Hid _ := tail0' (s := s) (fun h => absurd h n1) (fun h => absurd h (by omega)) (fun h => absurd h (by omega))
    have x1 : ¬ (1 : Int) ≤ (s.size : Int) := by omega
    have x2 : decide ((2 : Int) ≤ (s.size : Int)) = false := by simp; omega
    have x3 : decide ((3 : Int) ≤ (s.size : Int)) = false := by simp; omega
    clear n1
    go_enter Tryd.func28, Tryd.ntmps28
    go_wp2_with fail
    go_quiet (fail)
    go_wp2_with fail
    go_quiet (fail)
    go_wp2_with fail
    go_ret
    exact ⟨ret_int (by rw [HR.out]; rfl), ⟨_, by first | rfl | rw [World.drewN_drewN] | rw [← HW2.out, World.drewN_drewN]⟩⟩
end Go.Proofs.Qxb6600570aDoor
