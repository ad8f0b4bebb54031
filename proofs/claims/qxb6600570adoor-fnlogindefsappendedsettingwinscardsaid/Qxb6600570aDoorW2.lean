/-
  Walks: zzLeadSpace (27), zzTrailSpace (28).
-/
import Derived.Test.Qxb6600570aDoorW1
import Derived.BigQuiet
import Derived.Deep.QuietTactic
namespace Go.Proofs.Qxb6600570aDoor
open Go.RowKit

theorem ret_int {a b : Int} (h : a = b) : Ending.returned (.int .i64 a) = .returned (.int .i64 b) := by rw [h]

theorem list_at (s : ByteArray) (k : Nat) (h : k < s.size) : s.data.toList[k]? = some s[k] := by
  have h' : k < s.data.size := h
  rw [Array.getElem?_toList, Array.getElem?_eq_getElem h']
  rfl

theorem head1 {s : ByteArray} (h : 0 < s.size) (e : sp1 s[0] = true) : Lib.headSpace s.data.toList = 1 := by
  rw [head_of ((sp1_mem _).1 e) ?_]
  · rfl
  · have := list_at s 0 h
    cases hl : s.data.toList with
    | nil => rw [hl] at this; cases this
    | cons a t => rw [hl] at this; simp at this; subst this; exact ⟨t, rfl⟩
theorem head2 {s : ByteArray} (h : 1 < s.size) (e : sp2 s[0] s[1] = true) : Lib.headSpace s.data.toList = 2 := by
  rw [head_of ((sp2_mem _ _).1 e) ?_]
  · rfl
  · have h0 := list_at s 0 (by omega)
    have h1 := list_at s 1 h
    match hl : s.data.toList with
    | [] => rw [hl] at h0; cases h0
    | [a] => rw [hl] at h1; cases h1
    | a :: b :: t => rw [hl] at h0 h1; simp at h0 h1; rw [h0, h1]; exact ⟨t, rfl⟩
theorem head3 {s : ByteArray} (h : 2 < s.size) (e : sp3 s[0] s[1] s[2] = true) : Lib.headSpace s.data.toList = 3 := by
  rw [head_of ((sp3_mem _ _ _).1 e) ?_]
  · rfl
  · have h0 := list_at s 0 (by omega)
    have h1 := list_at s 1 (by omega)
    have h2 := list_at s 2 h
    match hl : s.data.toList with
    | [] => rw [hl] at h0; cases h0
    | [a] => rw [hl] at h1; cases h1
    | [a, b] => rw [hl] at h2; cases h2
    | a :: b :: c :: t => rw [hl] at h0 h1 h2; simp at h0 h1 h2; rw [h0, h1, h2]; exact ⟨t, rfl⟩
theorem head0 {s : ByteArray} (h1 : ∀ h : 0 < s.size, sp1 s[0] = false) (h2 : ∀ h : 1 < s.size, sp2 s[0] s[1] = false) (h3 : ∀ h : 2 < s.size, sp3 s[0] s[1] s[2] = false) : Lib.headSpace s.data.toList = 0 := by
  refine head_none fun q hq hp => ?_
  have hl := hp.length_le
  have hsz : s.data.toList.length = s.size := by simp
  have hget : ∀ k, k < q.length → q[k]? = s.data.toList[k]? := fun k hk => by
    obtain ⟨t, ht⟩ := hp
    rw [← ht, List.getElem?_append_left hk]
  match q, hq, hl, hget with
  | [a], hq, hl, hget =>
    have e0 := hget 0 (by simp)
    rw [list_at s 0 (by simp at hl; omega)] at e0
    simp at e0
    rw [e0] at hq
    have := h1 (by simp at hl; omega)
    rw [(sp1_mem _).2 hq] at this
    cases this
  | [a, b], hq, hl, hget =>
    have e0 := hget 0 (by simp)
    have e1 := hget 1 (by simp)
    rw [list_at s 0 (by simp at hl; omega)] at e0
    rw [list_at s 1 (by simp at hl; omega)] at e1
    simp at e0 e1
    rw [e0, e1] at hq
    have := h2 (by simp at hl; omega)
    rw [(sp2_mem _ _).2 hq] at this
    cases this
  | [a, b, c], hq, hl, hget =>
    have e0 := hget 0 (by simp)
    have e1 := hget 1 (by simp)
    have e2 := hget 2 (by simp)
    rw [list_at s 0 (by simp at hl; omega)] at e0
    rw [list_at s 1 (by simp at hl; omega)] at e1
    rw [list_at s 2 (by simp at hl; omega)] at e2
    simp at e0 e1 e2
    rw [e0, e1, e2] at hq
    have := h3 (by simp at hl; omega)
    rw [(sp3_mem _ _ _).2 hq] at this
    cases this
  | [], hq, hl, hget => rcases seqs_len _ hq with h | h | h <;> simp at h
  | a :: b :: c :: d :: t, hq, hl, hget => rcases seqs_len _ hq with h | h | h <;> simp at h

set_option maxRecDepth 100000 in
set_option maxHeartbeats 1600000 in
theorem lead_any (s : ByteArray) (w : World) :
    Calls Tryd.prog 27 #[.string s] w fun e w' => e = .returned (.int .i64 (Lib.headSpace s.data.toList)) ∧ ∃ m, w' = w.drewN m := by
  by_cases n1 : 0 < s.size
  · have x1 : (1 : Int) ≤ (s.size : Int) := by omega
    have y1 : (0 : Int) < (s.size : Int) := by omega
    cases e1 : sp1 s[0] with
    | true =>
      have HR : Hid _ := head1 n1 e1
      go_enter Tryd.func27, Tryd.ntmps27
      go_wp2_with fail
      refine (space1_any _ _).mono ?_
      rintro e w' ⟨rfl, rfl⟩
      rw [e1]
      go_wp2_with fail
      go_ret
      exact ⟨ret_int (by rw [HR.out]; rfl), ⟨0, rfl⟩⟩
    | false =>
      by_cases n2 : 1 < s.size
      · have x2 : (2 : Int) ≤ (s.size : Int) := by omega
        have y2 : (1 : Int) < (s.size : Int) := by omega
        cases e2 : sp2 s[0] s[1] with
        | true =>
          have HR : Hid _ := head2 n2 e2
          go_enter Tryd.func27, Tryd.ntmps27
          go_wp2_with fail
          refine (space1_any _ _).mono ?_
          rintro e w' ⟨rfl, rfl⟩
          rw [e1]
          go_wp2_with fail
          go_quiet ((go_at_call 48; exact Calls.quiet_of_same (space2_any _ _ _)))
          rw [e2]
          go_wp2_with fail
          go_ret
          exact ⟨ret_int (by rw [HR.out]; rfl), ⟨_, by first | rfl | rw [World.drewN_drewN]⟩⟩
        | false =>
          by_cases n3 : 2 < s.size
          · have x3 : (3 : Int) ≤ (s.size : Int) := by omega
            have y3 : (2 : Int) < (s.size : Int) := by omega
            cases e3 : sp3 s[0] s[1] s[2] with
            | true =>
              have HR : Hid _ := head3 n3 e3
              go_enter Tryd.func27, Tryd.ntmps27
              go_wp2_with fail
              refine (space1_any _ _).mono ?_
              rintro e w' ⟨rfl, rfl⟩
              rw [e1]
              go_wp2_with fail
              go_quiet ((go_at_call 48; exact Calls.quiet_of_same (space2_any _ _ _)))
              rw [e2]
              generalize hw2 : World.drewN _ _ = w2
              have HW2 : Hid _ := hw2
              clear hw2
              go_wp2_with fail
              go_quiet ((go_at_call 49; exact Calls.quiet_of_same (space3_any _ _ _ _)))
              rw [e3]
              go_wp2_with fail
              go_ret
              exact ⟨ret_int (by rw [HR.out]; rfl), ⟨_, by rw [← HW2.out, World.drewN_drewN]⟩⟩
            | false =>
              have HR : Hid _ := head0 (s := s) (fun _ => e1) (fun _ => e2) (fun _ => e3)
              go_enter Tryd.func27, Tryd.ntmps27
              go_wp2_with fail
              refine (space1_any _ _).mono ?_
              rintro e w' ⟨rfl, rfl⟩
              rw [e1]
              go_wp2_with fail
              go_quiet ((go_at_call 48; exact Calls.quiet_of_same (space2_any _ _ _)))
              rw [e2]
              generalize hw2 : World.drewN _ _ = w2
              have HW2 : Hid _ := hw2
              clear hw2
              go_wp2_with fail
              go_quiet ((go_at_call 49; exact Calls.quiet_of_same (space3_any _ _ _ _)))
              rw [e3]
              go_wp2_with fail
              go_ret
              exact ⟨ret_int (by rw [HR.out]; rfl), ⟨_, by rw [← HW2.out, World.drewN_drewN]⟩⟩
          · have x3 : decide ((3 : Int) ≤ (s.size : Int)) = false := by simp; omega
            have HR : Hid _ := head0 (s := s) (fun _ => e1) (fun _ => e2) (fun h => by omega)
            go_enter Tryd.func27, Tryd.ntmps27
            go_wp2_with fail
            refine (space1_any _ _).mono ?_
            rintro e w' ⟨rfl, rfl⟩
            rw [e1]
            go_wp2_with fail
            go_quiet ((go_at_call 48; exact Calls.quiet_of_same (space2_any _ _ _)))
            rw [e2]
            go_wp2_with fail
            go_quiet (fail)
            go_wp2_with fail
            go_ret
            exact ⟨ret_int (by rw [HR.out]; rfl), ⟨_, by first | rfl | rw [World.drewN_drewN]⟩⟩
      · have x2 : decide ((2 : Int) ≤ (s.size : Int)) = false := by simp; omega
        have HR : Hid _ := head0 (s := s) (fun _ => e1) (fun h => absurd h n2) (fun h => by omega)
        have x3 : decide ((3 : Int) ≤ (s.size : Int)) = false := by simp; omega
        go_enter Tryd.func27, Tryd.ntmps27
        go_wp2_with fail
        refine (space1_any _ _).mono ?_
        rintro e w' ⟨rfl, rfl⟩
        rw [e1]
        go_wp2_with fail
        go_quiet (fail)
        go_wp2_with fail
        go_quiet (fail)
        go_wp2_with fail
        go_ret
        exact ⟨ret_int (by rw [HR.out]; rfl), ⟨_, by first | rfl | rw [World.drewN_drewN]⟩⟩
  · have hz : s.size = 0 := by omega
    have HR : Hid _ := head0 (s := s) (fun h => absurd h n1) (fun h => by omega) (fun h => by omega)
    have x1 : ¬ (1 : Int) ≤ (s.size : Int) := by omega
    have x2 : decide ((2 : Int) ≤ (s.size : Int)) = false := by simp; omega
    have x3 : decide ((3 : Int) ≤ (s.size : Int)) = false := by simp; omega
    clear hz n1
    go_enter Tryd.func27, Tryd.ntmps27
    go_wp2_with fail
    go_quiet (fail)
    go_wp2_with fail
    go_quiet (fail)
    go_wp2_with fail
    go_ret
    exact ⟨ret_int (by rw [HR.out]; rfl), ⟨_, by first | rfl | rw [World.drewN_drewN]⟩⟩
end Go.Proofs.Qxb6600570aDoor
