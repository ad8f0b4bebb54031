/-
  Walks: strings.IndexRune (43) at a space and a tab; strings.IndexAny (26) at a space and a tab.
-/
import Derived.Test.Qxb6600570aDoorW5
import Derived.Laws.RangeAny
import Derived.WalkMore
import Derived.Handy
namespace Go.Proofs.Qxb6600570aDoor
open Go.RowKit Go.Shelf

abbrev st : ByteArray := ⟨#[32, 9]⟩

theorem enc_shape (r : Int) (h : 128 ≤ r) : ((Utf8.encode r).size = 2 ∧ ∃ h1 : 1 < (Utf8.encode r).size, 128 ≤ ((Utf8.encode r)[1]'h1).toNat) ∨ (3 ≤ (Utf8.encode r).size ∧ (Utf8.encode r).size ≤ 4) := by
  unfold Utf8.encode
  dsimp only
  generalize hc : (if Utf8.valid r then r.toNat else Utf8.runeError) = c
  have hc' : 128 ≤ c := by
    rw [← hc]
    split
    · omega
    · decide
  rw [if_neg (by omega)]
  split
  · refine Or.inl ⟨rfl, Nat.lt_succ_self 1, ?_⟩
    show 128 ≤ (UInt8.ofNat (0x80 + c % 64)).toNat
    rw [UInt8.toNat_ofNat']
    omega
  · split
    · exact Or.inr ⟨Nat.le_refl 3, Nat.le_succ 3⟩
    · exact Or.inr ⟨Nat.le_succ 3, Nat.le_refl 4⟩

theorem conv_rune (r : Int) (w : World) : (convert 21 9 (.int .i32 r)).run Tryd.prog w = .ok (.string (Utf8.encode r)) w := by
  kernel_rfl

theorem below_iter (w : World) (s : ByteArray) (p : Nat) : Below w.heap.size w (w.iter s p) := (Below.refl _ w).alloc (Nat.le_refl _) _

set_option maxRecDepth 100000 in
set_option maxHeartbeats 2000000 in
theorem indexRune_far (r : Int) (w : World) (h : 128 ≤ r) (h2 : r ≤ 2147483647) :
    Calls Tryd.prog 43 #[.string st, .int .i32 r] w fun e w' => e = .returned (.int .i64 (-1)) ∧ Below w.heap.size w w' := by
  have x1 : ¬ r < 128 := by omega
  by_cases h3 : r = 65533
  · subst h3
    have n0 := fun ty => run_next_ascii (P := Tryd.prog) w st 0 ty (by decide) (by decide)
    have n1 := fun ty => run_next_ascii (P := Tryd.prog) w st 1 ty (by decide) (by decide)
    have n2 := fun ty => run_next_end (P := Tryd.prog) w st 2 ty (by decide)
    go_enter Tryd.func43, Tryd.ntmps43
    go_wp2_with fail
    go_rounds 3
    go_ret
    exact ⟨rfl, below_iter w st 2⟩
  · cases hv : Lib.validRune r
    · go_enter Tryd.func43, Tryd.ntmps43
      go_wp2_with fail
      refine (Tryd.utf8_ValidRune r w).mono ?_
      rintro e w' ⟨rfl, rfl⟩
      rw [hv]
      go_wp2_with fail
      go_ret
      exact ⟨rfl, Below.refl _ _⟩
    · have hE := enc_shape r h
      go_enter Tryd.func43, Tryd.ntmps43
      go_wp2_with fail
      refine (Tryd.utf8_ValidRune r w).mono ?_
      rintro e w' ⟨rfl, rfl⟩
      rw [hv]
      have hcv := conv_rune r w'
      generalize Utf8.encode r = E at *
      rcases hE with ⟨hE1, hE2, hE3⟩ | ⟨hE1, hE2⟩
      · have y0 : (E.size : Int) = 2 := by omega
        have y1 : (1 : Int) < (E.size : Int) := by omega
        have y2 : (((st[1]'(by decide)).toNat : Int) != ((E[1]'hE2).toNat : Int)) = true := by
          have : (st[1]'(by decide)).toNat = 9 := rfl
          rw [this]; simp; omega
        clear hE1 h3 hv hE3
        go_wp2_with fail
        go_step3
        go_wp2_with fail
        refine wp_loop_rounds 1 ?_
        rw [rounds_succ]
        go_wp2_with fail
        go_step3
        go_wp2_with fail
        go_quiet (fail)
        generalize hw2 : World.drewN _ _ = w2
        have HW2 : Hid _ := hw2
        clear hw2
        go_wp2_with fail
        go_quiet ((go_at_call 68; exact Calls.quiet_of_same (Tryd.strings_IndexByte _ _ _)))
        have y4 : ∀ c, Lib.indexByte [] c = -1 := fun _ => rfl
        go_wp2_with fail
        simp only [Exit.noGoto, Exit.inBlock, Exit.then]
        go_ret
        refine ⟨rfl, ?_⟩
        rw [← HW2.out]
        exact ⟨rfl, rfl, rfl, Nat.le_refl _, fun _ _ => rfl⟩
      · have y1 : IntKind.i64.wrap ((E.size : Int) - 1) = (E.size : Int) - 1 := by rw [IntKind.wrap_i64]; omega
        have y2 : ¬ (E.size : Int) - 1 < 2 := by omega
        clear hE1 hE2 h3 hv
        go_wp2_with fail
        go_step3
        go_wp2_with fail
        go_rounds 1
        simp only [Exit.noGoto, Exit.inBlock]
        go_ret
        exact ⟨rfl, Below.refl _ _⟩

theorem decode_nonascii (s : ByteArray) (i : Nat) (h : i < s.size) (hx : ¬ (s[i]'h).toNat < 128) : 128 ≤ (Utf8.decode s i).1 := by
  have hg : s.get! i = s[i]'h := by
    have h' : i < s.data.size := h
    show s.data[i]! = s.data[i]'h'
    exact getElem!_pos s.data i h'
  simp only [Utf8.decode, Nat.add_zero, hg]
  rw [if_neg hx]
  repeat' split
  all_goals simp_all [Utf8.runeError]
  all_goals omega
theorem decode_ascii (s : ByteArray) (i : Nat) (h : i < s.size) (hx : (s[i]'h).toNat < 128) : Utf8.decode s i = ((s[i]'h).toNat, 1) := by
  have hg : s.get! i = s[i]'h := by
    have h' : i < s.data.size := h
    show s.data[i]! = s.data[i]'h'
    exact getElem!_pos s.data i h'
  simp only [Utf8.decode, Nat.add_zero, hg]
  rw [if_pos hx]
end Go.Proofs.Qxb6600570aDoor
