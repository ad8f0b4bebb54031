/-
  Walks: zzQuoted (18), zzDefsModel (13).
-/
import Derived.Test.Qxb6600570aDoorP3
namespace Go.Proofs.Qxb6600570aDoor
open Go.RowKit Go.Shelf

set_option maxRecDepth 100000 in
set_option maxHeartbeats 2000000 in
theorem quoted_any (v : ByteArray) (w : World) (hs : v.size < 1073741824) :
    Calls Tryd.prog 18 #[.string v] w fun e w' => e = .returned (.bool (quo v)) ∧ ∃ m, w' = w.drewN m := by
  by_cases v2 : 2 ≤ v.size
  · obtain ⟨m, hm⟩ : ∃ m, m = v.size - 1 := ⟨_, rfl⟩
    have w1 : (2 : Int) ≤ (v.size : Int) := by omega
    have w2 : (0 : Int) < (v.size : Int) := by omega
    have w3 : (m : Int) < (v.size : Int) := by omega
    have w4 : IntKind.i64.wrap ((v.size : Int) - 1) = (m : Int) := by rw [IntKind.wrap_i64]; omega
    have l0 : 0 < v.size := by omega
    have lm : m < v.size := by omega
    by_cases q1 : (v.get! 0).toNat = 34
    · have f1 : (((v[0]'l0).toNat : Int) == 34) = true := byte_eq l0 q1
      by_cases q2 : (v.get! m).toNat = 34
      · have f2 : (((v[m]'lm).toNat : Int) == 34) = true := byte_eq lm q2
        have HU : Hid (quo v = true) := decide_eq_true ⟨v2, (u8_34 _).2 q1, by rw [← hm]; exact (u8_34 _).2 q2⟩
        clear hm v2 q1 q2
        go_enter Tryd.func18, Tryd.ntmps18
        go_wp2_with fail
        go_ret
        exact ⟨ret_bool (by rw [HU.out]), 0, rfl⟩
      · have f2 : (((v[m]'lm).toNat : Int) == 34) = false := byte_ne lm q2
        have HU : Hid (quo v = false) := decide_eq_false (fun h => q2 (by rw [← hm] at h; exact (u8_34 _).1 h.2.2))
        clear hm v2 q1 q2
        go_enter Tryd.func18, Tryd.ntmps18
        go_wp2_with fail
        go_ret
        exact ⟨ret_bool (by rw [HU.out]), 0, rfl⟩
    · have f1 : (((v[0]'l0).toNat : Int) == 34) = false := byte_ne l0 q1
      have HU : Hid (quo v = false) := decide_eq_false (fun h => q1 ((u8_34 _).1 h.2.1))
      clear hm v2 q1
      go_enter Tryd.func18, Tryd.ntmps18
      go_wp2_with fail
      go_ret
      exact ⟨ret_bool (by rw [HU.out]), 0, rfl⟩
  · have w1 : decide ((2 : Int) ≤ (v.size : Int)) = false := by simp; omega
    have HU : Hid (quo v = false) := decide_eq_false (fun h => v2 h.1)
    clear v2
    go_enter Tryd.func18, Tryd.ntmps18
    go_wp2_with fail
    go_ret
    exact ⟨ret_bool (by rw [HU.out]), 0, rfl⟩

theorem bne_t {v : ByteArray} {i c : Nat} (h : i < v.size) (e : ¬ (v.get! i).toNat = c) : (((v[i]'h).toNat : Int) != (c : Int)) = true := by
  rw [bne, byte_ne h e]; rfl
theorem bne_f {v : ByteArray} {i c : Nat} (h : i < v.size) (e : (v.get! i).toNat = c) : (((v[i]'h).toNat : Int) != (c : Int)) = false := by
  rw [bne, byte_eq h e]; rfl
theorem u8_n (b : UInt8) (n : Nat) (h : n < 256) : b = UInt8.ofNat n ↔ b.toNat = n := by
  rw [← UInt8.toNat_inj, UInt8.toNat_ofNat']
  rw [Nat.mod_eq_of_lt (by omega)]
theorem u8_35 (b : UInt8) : b = 35 ↔ b.toNat = 35 := u8_n b 35 (by decide)
theorem u8_32 (b : UInt8) : b = 32 ↔ b.toNat = 32 := u8_n b 32 (by decide)
theorem u8_10 (b : UInt8) : b = 10 ↔ b.toNat = 10 := u8_n b 10 (by decide)
theorem u8_9 (b : UInt8) : b = 9 ↔ b.toNat = 9 := u8_n b 9 (by decide)
theorem drew_two {w wr : World} {m : Nat} (h : ∃ n, wr = w.drewN n) : ∃ n, wr.drewN m = w.drewN n := by
  obtain ⟨n, rfl⟩ := h
  exact ⟨_, World.drewN_drewN _ _ _⟩
theorem tup_eq {a b : ByteArray} {x y : Bool} (h1 : a = b) (h2 : x = y) : Ending.returned (.tuple #[.string a, .bool x]) = .returned (.tuple #[.string b, .bool y]) := by rw [h1, h2]

set_option maxRecDepth 100000 in
set_option maxHeartbeats 8000000 in
theorem model_any (data name : ByteArray) (w : World) (hd : data.size < 1073741824) :
    Calls Tryd.prog 13 #[.string data, .string name] w fun e w' => e = .returned (.tuple #[.string (valOf (last name (piecesB data))), .bool (last name (piecesB data)).isSome]) ∧ ∃ m, w' = w.drewN m := by
  have HLL : Hid (last name (piecesB data) = lastL name (data.data.toList.take data.size)) := by
    rw [Hid, List.take_of_length_le (by rw [len_list]; exact Nat.le_refl _)]
    rfl
  go_enter Tryd.func13, Tryd.ntmps13
  go_wp2_with fail
  go_loopw [6, 7, 8, 9, 10, 11] (fun ev _ _ _ _ _ wr => ∃ e : Int, ev = .int .i64 e ∧ (∃ m, wr = w.drewN m) ∧ ((e = -1 ∧ last name (piecesB data) = none) ∨ ∃ k : Nat, e = (k : Int) ∧ k ≤ data.size ∧ last name (piecesB data) = lastL name (data.data.toList.take k))) (fun ev _ _ _ _ _ _ => (intOf ev + 1).toNat)
  case atStart => exact ⟨_, rfl, ⟨0, rfl⟩, Or.inr ⟨data.size, rfl, Nat.le_refl _, HLL.out⟩⟩
  case round =>
    obtain ⟨e, rfl, hm, hcase⟩ := hrel
    have HM : Hid _ := hm
    clear hm HLL
    rcases hcase with ⟨rfl, hnone⟩ | ⟨k, rfl, hk, hlast⟩
    · have HNN : Hid _ := hnone
      clear hnone
      go_wp2_with fail
      go_ret2
      exact ⟨tup_eq (by rw [HNN.out]; rfl) (by rw [HNN.out]; rfl), HM.out⟩
    · have HL : Hid _ := hlast
      clear hlast
      go_wp2_with fail
      go_loop [7] (fun sv => ∃ s : Nat, sv = .int .i64 s ∧ s ≤ k ∧ ∀ j, s ≤ j → j < k → ¬ data.get! j = 10) (fun sv => (intOf sv).toNat)
      case atStart => exact ⟨k, rfl, Nat.le_refl _, fun j h1 h2 => by omega⟩
      case round =>
        obtain ⟨s, rfl, hsk, hno⟩ := hrel
        have HNL : Hid _ := hno
        clear hno
        by_cases hs0 : s = 0
        · have z0 : ¬ 0 < (s : Int) := by omega
          have HCUT : Hid (∃ acc, last name (piecesB data) = upd1 name acc (data.extract s k) ∧ ((s = 0 ∧ acc = none) ∨ ∃ s', s = s' + 1 ∧ acc = lastL name (data.data.toList.take s'))) := by
            subst hs0
            exact ⟨none, HL.out.trans (cut_first name data k hk HNL.out), Or.inl ⟨rfl, rfl⟩⟩
          clear hs0 HNL HL
          have x1 : (s : Int) ≤ (k : Int) := by omega
          have x2 : (k : Int) ≤ (data.size : Int) := by omega
          have y1 : IntKind.i64.wrap ((s : Int) - 1) = (s : Int) - 1 := by rw [IntKind.wrap_i64]; omega
          have hes : (data.extract s k).size < 1073741824 := by rw [ByteArray.size_extract]; omega
          have htx := trimB_size (data.extract s k)
          have HGV : Hid (give name (data.extract s k) = giveT name (trimB (data.extract s k))) := rfl
          go_wp2_with fail
          refine (trim_any (data.extract s k) _ (by omega)).mono ?_
          rintro e w2 ⟨rfl, m2, rfl⟩
          generalize trimB (data.extract s k) = t at *
          have hts : t.size < 1073741824 := by omega
          have HMW : Hid (∃ m, wr.drewN m2 = w.drewN m) := drew_two HM.out
          generalize wr.drewN m2 = w2 at *
          clear HM htx hes
          by_cases h0 : t.size = 0
          · have e0 : t.toList.isEmpty = true := list_nil.2 h0
            have HNO : Hid (giveT name t = none) := by rw [Hid]; unfold giveT; rw [if_pos h0]
            clear h0
            have HLA : Hid ((∃ acc, last name (piecesB data) = acc ∧ ((s = 0 ∧ acc = none) ∨ ∃ s', s = s' + 1 ∧ acc = lastL name (data.data.toList.take s')))) := by
              obtain ⟨acc, a1, a2⟩ := HCUT.out
              exact ⟨acc, a1.trans (upd_none (HGV.out.trans HNO.out)), a2⟩
            clear HCUT HGV HNO
            go_wp2_with fail
            go_roundw
            case rel =>
              obtain ⟨acc, a1, a2⟩ := HLA.out
              refine ⟨(s : Int) - 1, by go_num, HMW.out, ?_⟩
              rcases a2 with ⟨rfl, rfl⟩ | ⟨s', rfl, rfl⟩
              · exact Or.inl ⟨rfl, a1⟩
              · exact Or.inr ⟨s', by omega, by omega, a1⟩
            case measure => simp [intOf]; omega
          · have e0 : t.toList.isEmpty = false := by
              cases h : t.toList.isEmpty
              · rfl
              · exact absurd (list_nil.1 h) h0
            have hpos : 0 < t.size := by omega
            have y0 : (0 : Int) < (t.size : Int) := by omega
            by_cases h35 : (t.get! 0).toNat = 35
            · have e1 : (((t[0]'hpos).toNat : Int) != 35) = false := bne_f hpos h35
              have HNO : Hid (giveT name t = none) := by rw [Hid]; unfold giveT; rw [if_neg h0, if_pos ((u8_35 _).2 h35)]
              clear h0 h35
              have HLA : Hid ((∃ acc, last name (piecesB data) = acc ∧ ((s = 0 ∧ acc = none) ∨ ∃ s', s = s' + 1 ∧ acc = lastL name (data.data.toList.take s')))) := by
                obtain ⟨acc, a1, a2⟩ := HCUT.out
                exact ⟨acc, a1.trans (upd_none (HGV.out.trans HNO.out)), a2⟩
              clear HCUT HGV HNO
              go_wp2_with fail
              go_roundw
              case rel =>
                obtain ⟨acc, a1, a2⟩ := HLA.out
                refine ⟨(s : Int) - 1, by go_num, HMW.out, ?_⟩
                rcases a2 with ⟨rfl, rfl⟩ | ⟨s', rfl, rfl⟩
                · exact Or.inl ⟨rfl, a1⟩
                · exact Or.inr ⟨s', by omega, by omega, a1⟩
              case measure => simp [intOf]; omega
            · have e1 : (((t[0]'hpos).toNat : Int) != 35) = true := bne_t hpos h35
              have HGT : Hid (giveT name t = if keyOf t = name then some (unq (trimB (restOf t))) else none) := by
                rw [Hid]; unfold giveT; rw [if_neg h0, if_neg (fun h => h35 ((u8_35 _).1 h))]
              clear h0 h35
              go_wp2_with fail
              go_loop [9] (fun kv => ∃ q : Nat, kv = .int .i64 q ∧ q ≤ t.size ∧ NoSp t q) (fun kv => t.size - (intOf kv).toNat)
              case atStart => exact ⟨0, rfl, Nat.zero_le _, fun j h => absurd h (Nat.not_lt_zero _)⟩
              case round =>
                obtain ⟨q, rfl, hq, hnsp⟩ := hrel
                have HNS : Hid _ := hnsp
                clear hnsp
                by_cases hlt : q < t.size
                · have c1 : (q : Int) < (t.size : Int) := by omega
                  have c2 : (q : Int) ≤ (t.size : Int) := by omega
                  have c3 : ((q : Int) + 1) ≤ (t.size : Int) := by omega
                  have c4 : IntKind.i64.wrap ((q : Int) + 1) = ((q + 1 : Nat) : Int) := by rw [IntKind.wrap_i64]; omega
                  by_cases h32 : (t.get! q).toNat = 32
                  · have d1 : (((t[q]'hlt).toNat : Int) != 32) = false := bne_f hlt h32
                    have HKR : Hid (keyOf t = t.extract 0 q ∧ restOf t = t.extract (q + 1) t.size) := key_hit HNS.out hlt (Or.inl ((u8_32 _).2 h32))
                    clear h32 HNS
                    by_cases hkn : t.extract 0 q = name
                    · have qk : ((t.extract 0 q).toList == name.toList) = true := str_eq hkn
                      have HSM : Hid (last name (piecesB data) = some (unq (trimB (t.extract (q + 1) t.size)))) := by
                        obtain ⟨acc, a1, _⟩ := HCUT.out
                        refine a1.trans (upd_some (HGV.out.trans ?_))
                        rw [HGT.out, if_pos (HKR.out.1.trans hkn), HKR.out.2]
                      have hrs : ((t.extract (q + 1) t.size) : ByteArray).size < 1073741824 := by rw [ByteArray.size_extract]; omega
                      have htr := trimB_size (t.extract (q + 1) t.size)
                      clear hkn HCUT HGV HGT HKR
                      go_wp2_with fail
                      refine (trim_any (t.extract (q + 1) t.size) _ (by omega)).mono ?_
                      rintro e w5 ⟨rfl, m5, rfl⟩
                      generalize trimB (t.extract (q + 1) t.size) = v at *
                      cases hqu : quo v with
                      | false =>
                        have HU : Hid (unq v = v) := by rw [Hid, unq_quo, hqu, if_neg (by decide)]
                        go_wp2_with fail
                        refine (quoted_any v _ (by omega)).mono ?_
                        rintro e w6 ⟨rfl, m6, rfl⟩
                        rw [hqu]
                        go_wp2_with fail
                        go_ret2
                        refine ⟨tup_eq (by rw [HSM.out, HU.out]; rfl) (by rw [HSM.out]; rfl), (by first | exact drew_two HMW.out | exact drew_two (drew_two HMW.out))⟩
                      | true =>
                        have HU : Hid (unq v = v.extract 1 (v.size - 1)) := by rw [Hid, unq_quo, hqu, if_pos rfl]
                        have hv2 : 2 ≤ v.size := (of_decide_eq_true hqu).1
                        obtain ⟨m, hm⟩ : ∃ m, m = v.size - 1 := ⟨_, rfl⟩
                        rw [← hm] at HU
                        have w4 : IntKind.i64.wrap ((v.size : Int) - 1) = (m : Int) := by rw [IntKind.wrap_i64]; omega
                        have w5 : (m : Int) ≤ (v.size : Int) := by omega
                        have w6 : (1 : Int) ≤ (m : Int) := by omega
                        clear hm hv2
                        go_wp2_with fail
                        refine (quoted_any v _ (by omega)).mono ?_
                        rintro e w6' ⟨rfl, m6, rfl⟩
                        rw [hqu]
                        go_wp2_with fail
                        go_ret2
                        refine ⟨tup_eq (by rw [HSM.out, HU.out]; rfl) (by rw [HSM.out]; rfl), (by first | exact drew_two HMW.out | exact drew_two (drew_two HMW.out))⟩
                    · have qk : ((t.extract 0 q).toList == name.toList) = false := str_ne hkn
                      have HNO : Hid (giveT name t = none) := by rw [Hid, HGT.out, if_neg (by rw [HKR.out.1]; exact hkn)]
                      clear hkn HGT HKR
                      have HLA : Hid ((∃ acc, last name (piecesB data) = acc ∧ ((s = 0 ∧ acc = none) ∨ ∃ s', s = s' + 1 ∧ acc = lastL name (data.data.toList.take s')))) := by
                        obtain ⟨acc, a1, a2⟩ := HCUT.out
                        exact ⟨acc, a1.trans (upd_none (HGV.out.trans HNO.out)), a2⟩
                      clear HCUT HGV HNO
                      go_wp2_with fail
                      go_roundw
                      case rel =>
                        obtain ⟨acc, a1, a2⟩ := HLA.out
                        refine ⟨(s : Int) - 1, by go_num, HMW.out, ?_⟩
                        rcases a2 with ⟨rfl, rfl⟩ | ⟨s', rfl, rfl⟩
                        · exact Or.inl ⟨rfl, a1⟩
                        · exact Or.inr ⟨s', by omega, by omega, a1⟩
                      case measure => simp [intOf]; omega
                  · have d1 : (((t[q]'hlt).toNat : Int) != 32) = true := bne_t hlt h32
                    by_cases h9 : (t.get! q).toNat = 9
                    · have d2 : (((t[q]'hlt).toNat : Int) != 9) = false := bne_f hlt h9
                      have HKR : Hid (keyOf t = t.extract 0 q ∧ restOf t = t.extract (q + 1) t.size) := key_hit HNS.out hlt (Or.inr ((u8_9 _).2 h9))
                      clear h32 h9 HNS
                      by_cases hkn : t.extract 0 q = name
                      · have qk : ((t.extract 0 q).toList == name.toList) = true := str_eq hkn
                        have HSM : Hid (last name (piecesB data) = some (unq (trimB (t.extract (q + 1) t.size)))) := by
                          obtain ⟨acc, a1, _⟩ := HCUT.out
                          refine a1.trans (upd_some (HGV.out.trans ?_))
                          rw [HGT.out, if_pos (HKR.out.1.trans hkn), HKR.out.2]
                        have hrs : ((t.extract (q + 1) t.size) : ByteArray).size < 1073741824 := by rw [ByteArray.size_extract]; omega
                        have htr := trimB_size (t.extract (q + 1) t.size)
                        clear hkn HCUT HGV HGT HKR
                        go_wp2_with fail
                        refine (trim_any (t.extract (q + 1) t.size) _ (by omega)).mono ?_
                        rintro e w5 ⟨rfl, m5, rfl⟩
                        generalize trimB (t.extract (q + 1) t.size) = v at *
                        cases hqu : quo v with
                        | false =>
                          have HU : Hid (unq v = v) := by rw [Hid, unq_quo, hqu, if_neg (by decide)]
                          go_wp2_with fail
                          refine (quoted_any v _ (by omega)).mono ?_
                          rintro e w6 ⟨rfl, m6, rfl⟩
                          rw [hqu]
                          go_wp2_with fail
                          go_ret2
                          refine ⟨tup_eq (by rw [HSM.out, HU.out]; rfl) (by rw [HSM.out]; rfl), (by first | exact drew_two HMW.out | exact drew_two (drew_two HMW.out))⟩
                        | true =>
                          have HU : Hid (unq v = v.extract 1 (v.size - 1)) := by rw [Hid, unq_quo, hqu, if_pos rfl]
                          have hv2 : 2 ≤ v.size := (of_decide_eq_true hqu).1
                          obtain ⟨m, hm⟩ : ∃ m, m = v.size - 1 := ⟨_, rfl⟩
                          rw [← hm] at HU
                          have w4 : IntKind.i64.wrap ((v.size : Int) - 1) = (m : Int) := by rw [IntKind.wrap_i64]; omega
                          have w5 : (m : Int) ≤ (v.size : Int) := by omega
                          have w6 : (1 : Int) ≤ (m : Int) := by omega
                          clear hm hv2
                          go_wp2_with fail
                          refine (quoted_any v _ (by omega)).mono ?_
                          rintro e w6' ⟨rfl, m6, rfl⟩
                          rw [hqu]
                          go_wp2_with fail
                          go_ret2
                          refine ⟨tup_eq (by rw [HSM.out, HU.out]; rfl) (by rw [HSM.out]; rfl), (by first | exact drew_two HMW.out | exact drew_two (drew_two HMW.out))⟩
                      · have qk : ((t.extract 0 q).toList == name.toList) = false := str_ne hkn
                        have HNO : Hid (giveT name t = none) := by rw [Hid, HGT.out, if_neg (by rw [HKR.out.1]; exact hkn)]
                        clear hkn HGT HKR
                        have HLA : Hid ((∃ acc, last name (piecesB data) = acc ∧ ((s = 0 ∧ acc = none) ∨ ∃ s', s = s' + 1 ∧ acc = lastL name (data.data.toList.take s')))) := by
                          obtain ⟨acc, a1, a2⟩ := HCUT.out
                          exact ⟨acc, a1.trans (upd_none (HGV.out.trans HNO.out)), a2⟩
                        clear HCUT HGV HNO
                        go_wp2_with fail
                        go_roundw
                        case rel =>
                          obtain ⟨acc, a1, a2⟩ := HLA.out
                          refine ⟨(s : Int) - 1, by go_num, HMW.out, ?_⟩
                          rcases a2 with ⟨rfl, rfl⟩ | ⟨s', rfl, rfl⟩
                          · exact Or.inl ⟨rfl, a1⟩
                          · exact Or.inr ⟨s', by omega, by omega, a1⟩
                        case measure => simp [intOf]; omega
                    · have d2 : (((t[q]'hlt).toNat : Int) != 9) = true := bne_t hlt h9
                      have HNS2 : Hid (NoSp t (q + 1)) := fun j hj => by
                        by_cases e : j = q
                        · subst e
                          exact ⟨fun h => h32 ((u8_32 _).1 h), fun h => h9 ((u8_9 _).1 h)⟩
                        · exact HNS.out j (by omega)
                      clear h32 h9
                      go_wp2_with fail
                      go_round
                      case rel => exact ⟨q + 1, by go_num, by omega, HNS2.out⟩
                      case measure => simp [intOf]; omega
                · have hqe : q = t.size := by omega
                  have c1 : ¬ (q : Int) < (t.size : Int) := by omega
                  have c2 : (q : Int) ≤ (t.size : Int) := by omega
                  have HKR : Hid (keyOf t = t.extract 0 q ∧ restOf t = ⟨#[]⟩) := by
                    rw [hqe] at HNS ⊢
                    exact key_none HNS.out
                  clear HNS hlt hqe
                  by_cases hkn : t.extract 0 q = name
                  · have qk : ((t.extract 0 q).toList == name.toList) = true := str_eq hkn
                    have HSM : Hid (last name (piecesB data) = some (unq (trimB ⟨#[]⟩))) := by
                      obtain ⟨acc, a1, _⟩ := HCUT.out
                      refine a1.trans (upd_some (HGV.out.trans ?_))
                      rw [HGT.out, if_pos (HKR.out.1.trans hkn), HKR.out.2]
                    have hrs : (⟨#[]⟩ : ByteArray).size < 1073741824 := by decide
                    have htr := trimB_size ⟨#[]⟩
                    clear hkn HCUT HGV HGT HKR
                    go_wp2_with fail
                    refine (trim_any ⟨#[]⟩ _ (by omega)).mono ?_
                    rintro e w5 ⟨rfl, m5, rfl⟩
                    generalize trimB ⟨#[]⟩ = v at *
                    cases hqu : quo v with
                    | false =>
                      have HU : Hid (unq v = v) := by rw [Hid, unq_quo, hqu, if_neg (by decide)]
                      go_wp2_with fail
                      refine (quoted_any v _ (by omega)).mono ?_
                      rintro e w6 ⟨rfl, m6, rfl⟩
                      rw [hqu]
                      go_wp2_with fail
                      go_ret2
                      refine ⟨tup_eq (by rw [HSM.out, HU.out]; rfl) (by rw [HSM.out]; rfl), (by first | exact drew_two HMW.out | exact drew_two (drew_two HMW.out))⟩
                    | true =>
                      have HU : Hid (unq v = v.extract 1 (v.size - 1)) := by rw [Hid, unq_quo, hqu, if_pos rfl]
                      have hv2 : 2 ≤ v.size := (of_decide_eq_true hqu).1
                      obtain ⟨m, hm⟩ : ∃ m, m = v.size - 1 := ⟨_, rfl⟩
                      rw [← hm] at HU
                      have w4 : IntKind.i64.wrap ((v.size : Int) - 1) = (m : Int) := by rw [IntKind.wrap_i64]; omega
                      have w5 : (m : Int) ≤ (v.size : Int) := by omega
                      have w6 : (1 : Int) ≤ (m : Int) := by omega
                      clear hm hv2
                      go_wp2_with fail
                      refine (quoted_any v _ (by omega)).mono ?_
                      rintro e w6' ⟨rfl, m6, rfl⟩
                      rw [hqu]
                      go_wp2_with fail
                      go_ret2
                      refine ⟨tup_eq (by rw [HSM.out, HU.out]; rfl) (by rw [HSM.out]; rfl), (by first | exact drew_two HMW.out | exact drew_two (drew_two HMW.out))⟩
                  · have qk : ((t.extract 0 q).toList == name.toList) = false := str_ne hkn
                    have HNO : Hid (giveT name t = none) := by rw [Hid, HGT.out, if_neg (by rw [HKR.out.1]; exact hkn)]
                    clear hkn HGT HKR
                    have HLA : Hid ((∃ acc, last name (piecesB data) = acc ∧ ((s = 0 ∧ acc = none) ∨ ∃ s', s = s' + 1 ∧ acc = lastL name (data.data.toList.take s')))) := by
                      obtain ⟨acc, a1, a2⟩ := HCUT.out
                      exact ⟨acc, a1.trans (upd_none (HGV.out.trans HNO.out)), a2⟩
                    clear HCUT HGV HNO
                    go_wp2_with fail
                    go_roundw
                    case rel =>
                      obtain ⟨acc, a1, a2⟩ := HLA.out
                      refine ⟨(s : Int) - 1, by go_num, HMW.out, ?_⟩
                      rcases a2 with ⟨rfl, rfl⟩ | ⟨s', rfl, rfl⟩
                      · exact Or.inl ⟨rfl, a1⟩
                      · exact Or.inr ⟨s', by omega, by omega, a1⟩
                    case measure => simp [intOf]; omega
        · obtain ⟨s', hs'⟩ : ∃ s', s = s' + 1 := ⟨s - 1, by omega⟩
          have z0 : 0 < (s : Int) := by omega
          have z1 : IntKind.i64.wrap ((s : Int) - 1) = (s' : Int) := by rw [IntKind.wrap_i64]; omega
          have hl' : s' < data.size := by omega
          have z2 : (s' : Int) < (data.size : Int) := by omega
          by_cases h10 : (data.get! s').toNat = 10
          · have f1 : (((data[s']'hl').toNat : Int) != 10) = false := bne_f hl' h10
            have HCUT : Hid (∃ acc, last name (piecesB data) = upd1 name acc (data.extract s k) ∧ ((s = 0 ∧ acc = none) ∨ ∃ s', s = s' + 1 ∧ acc = lastL name (data.data.toList.take s'))) := by
              subst hs'
              exact ⟨_, HL.out.trans (cut_line name data s' k hsk hk HNL.out ((u8_10 _).2 h10)), Or.inr ⟨s', rfl, rfl⟩⟩
            have HSS : Hid _ := hs'
            clear h10 HNL HL hs0 hs'
            have x1 : (s : Int) ≤ (k : Int) := by omega
            have x2 : (k : Int) ≤ (data.size : Int) := by omega
            have hes : (data.extract s k).size < 1073741824 := by rw [ByteArray.size_extract]; omega
            have htx := trimB_size (data.extract s k)
            have HGV : Hid (give name (data.extract s k) = giveT name (trimB (data.extract s k))) := rfl
            go_wp2_with fail
            refine (trim_any (data.extract s k) _ (by omega)).mono ?_
            rintro e w2 ⟨rfl, m2, rfl⟩
            generalize trimB (data.extract s k) = t at *
            have hts : t.size < 1073741824 := by omega
            have HMW : Hid (∃ m, wr.drewN m2 = w.drewN m) := drew_two HM.out
            generalize wr.drewN m2 = w2 at *
            clear HM htx hes
            by_cases h0 : t.size = 0
            · have e0 : t.toList.isEmpty = true := list_nil.2 h0
              have HNO : Hid (giveT name t = none) := by rw [Hid]; unfold giveT; rw [if_pos h0]
              clear h0
              have HLA : Hid ((∃ acc, last name (piecesB data) = acc ∧ ((s = 0 ∧ acc = none) ∨ ∃ s', s = s' + 1 ∧ acc = lastL name (data.data.toList.take s')))) := by
                obtain ⟨acc, a1, a2⟩ := HCUT.out
                exact ⟨acc, a1.trans (upd_none (HGV.out.trans HNO.out)), a2⟩
              clear HCUT HGV HNO
              go_wp2_with fail
              go_roundw
              case rel =>
                obtain ⟨acc, a1, a2⟩ := HLA.out
                have hs2 := HSS.out
                refine ⟨(s' : Int), by go_num, HMW.out, ?_⟩
                rcases a2 with ⟨h0, _⟩ | ⟨s2, h2, rfl⟩
                · omega
                · obtain rfl : s2 = s' := by omega
                  exact Or.inr ⟨s2, rfl, by omega, a1⟩
              case measure => have hs2 := HSS.out; simp [intOf]; omega
            · have e0 : t.toList.isEmpty = false := by
                cases h : t.toList.isEmpty
                · rfl
                · exact absurd (list_nil.1 h) h0
              have hpos : 0 < t.size := by omega
              have y0 : (0 : Int) < (t.size : Int) := by omega
              by_cases h35 : (t.get! 0).toNat = 35
              · have e1 : (((t[0]'hpos).toNat : Int) != 35) = false := bne_f hpos h35
                have HNO : Hid (giveT name t = none) := by rw [Hid]; unfold giveT; rw [if_neg h0, if_pos ((u8_35 _).2 h35)]
                clear h0 h35
                have HLA : Hid ((∃ acc, last name (piecesB data) = acc ∧ ((s = 0 ∧ acc = none) ∨ ∃ s', s = s' + 1 ∧ acc = lastL name (data.data.toList.take s')))) := by
                  obtain ⟨acc, a1, a2⟩ := HCUT.out
                  exact ⟨acc, a1.trans (upd_none (HGV.out.trans HNO.out)), a2⟩
                clear HCUT HGV HNO
                go_wp2_with fail
                go_roundw
                case rel =>
                  obtain ⟨acc, a1, a2⟩ := HLA.out
                  have hs2 := HSS.out
                  refine ⟨(s' : Int), by go_num, HMW.out, ?_⟩
                  rcases a2 with ⟨h0, _⟩ | ⟨s2, h2, rfl⟩
                  · omega
                  · obtain rfl : s2 = s' := by omega
                    exact Or.inr ⟨s2, rfl, by omega, a1⟩
                case measure => have hs2 := HSS.out; simp [intOf]; omega
              · have e1 : (((t[0]'hpos).toNat : Int) != 35) = true := bne_t hpos h35
                have HGT : Hid (giveT name t = if keyOf t = name then some (unq (trimB (restOf t))) else none) := by
                  rw [Hid]; unfold giveT; rw [if_neg h0, if_neg (fun h => h35 ((u8_35 _).1 h))]
                clear h0 h35
                go_wp2_with fail
                go_loop [9] (fun kv => ∃ q : Nat, kv = .int .i64 q ∧ q ≤ t.size ∧ NoSp t q) (fun kv => t.size - (intOf kv).toNat)
                case atStart => exact ⟨0, rfl, Nat.zero_le _, fun j h => absurd h (Nat.not_lt_zero _)⟩
                case round =>
                  obtain ⟨q, rfl, hq, hnsp⟩ := hrel
                  have HNS : Hid _ := hnsp
                  clear hnsp
                  by_cases hlt : q < t.size
                  · have c1 : (q : Int) < (t.size : Int) := by omega
                    have c2 : (q : Int) ≤ (t.size : Int) := by omega
                    have c3 : ((q : Int) + 1) ≤ (t.size : Int) := by omega
                    have c4 : IntKind.i64.wrap ((q : Int) + 1) = ((q + 1 : Nat) : Int) := by rw [IntKind.wrap_i64]; omega
                    by_cases h32 : (t.get! q).toNat = 32
                    · have d1 : (((t[q]'hlt).toNat : Int) != 32) = false := bne_f hlt h32
                      have HKR : Hid (keyOf t = t.extract 0 q ∧ restOf t = t.extract (q + 1) t.size) := key_hit HNS.out hlt (Or.inl ((u8_32 _).2 h32))
                      clear h32 HNS
                      by_cases hkn : t.extract 0 q = name
                      · have qk : ((t.extract 0 q).toList == name.toList) = true := str_eq hkn
                        have HSM : Hid (last name (piecesB data) = some (unq (trimB (t.extract (q + 1) t.size)))) := by
                          obtain ⟨acc, a1, _⟩ := HCUT.out
                          refine a1.trans (upd_some (HGV.out.trans ?_))
                          rw [HGT.out, if_pos (HKR.out.1.trans hkn), HKR.out.2]
                        have hrs : ((t.extract (q + 1) t.size) : ByteArray).size < 1073741824 := by rw [ByteArray.size_extract]; omega
                        have htr := trimB_size (t.extract (q + 1) t.size)
                        clear hkn HCUT HGV HGT HKR
                        go_wp2_with fail
                        refine (trim_any (t.extract (q + 1) t.size) _ (by omega)).mono ?_
                        rintro e w5 ⟨rfl, m5, rfl⟩
                        generalize trimB (t.extract (q + 1) t.size) = v at *
                        cases hqu : quo v with
                        | false =>
                          have HU : Hid (unq v = v) := by rw [Hid, unq_quo, hqu, if_neg (by decide)]
                          go_wp2_with fail
                          refine (quoted_any v _ (by omega)).mono ?_
                          rintro e w6 ⟨rfl, m6, rfl⟩
                          rw [hqu]
                          go_wp2_with fail
                          go_ret2
                          refine ⟨tup_eq (by rw [HSM.out, HU.out]; rfl) (by rw [HSM.out]; rfl), (by first | exact drew_two HMW.out | exact drew_two (drew_two HMW.out))⟩
                        | true =>
                          have HU : Hid (unq v = v.extract 1 (v.size - 1)) := by rw [Hid, unq_quo, hqu, if_pos rfl]
                          have hv2 : 2 ≤ v.size := (of_decide_eq_true hqu).1
                          obtain ⟨m, hm⟩ : ∃ m, m = v.size - 1 := ⟨_, rfl⟩
                          rw [← hm] at HU
                          have w4 : IntKind.i64.wrap ((v.size : Int) - 1) = (m : Int) := by rw [IntKind.wrap_i64]; omega
                          have w5 : (m : Int) ≤ (v.size : Int) := by omega
                          have w6 : (1 : Int) ≤ (m : Int) := by omega
                          clear hm hv2
                          go_wp2_with fail
                          refine (quoted_any v _ (by omega)).mono ?_
                          rintro e w6' ⟨rfl, m6, rfl⟩
                          rw [hqu]
                          go_wp2_with fail
                          go_ret2
                          refine ⟨tup_eq (by rw [HSM.out, HU.out]; rfl) (by rw [HSM.out]; rfl), (by first | exact drew_two HMW.out | exact drew_two (drew_two HMW.out))⟩
                      · have qk : ((t.extract 0 q).toList == name.toList) = false := str_ne hkn
                        have HNO : Hid (giveT name t = none) := by rw [Hid, HGT.out, if_neg (by rw [HKR.out.1]; exact hkn)]
                        clear hkn HGT HKR
                        have HLA : Hid ((∃ acc, last name (piecesB data) = acc ∧ ((s = 0 ∧ acc = none) ∨ ∃ s', s = s' + 1 ∧ acc = lastL name (data.data.toList.take s')))) := by
                          obtain ⟨acc, a1, a2⟩ := HCUT.out
                          exact ⟨acc, a1.trans (upd_none (HGV.out.trans HNO.out)), a2⟩
                        clear HCUT HGV HNO
                        go_wp2_with fail
                        go_roundw
                        case rel =>
                          obtain ⟨acc, a1, a2⟩ := HLA.out
                          have hs2 := HSS.out
                          refine ⟨(s' : Int), by go_num, HMW.out, ?_⟩
                          rcases a2 with ⟨h0, _⟩ | ⟨s2, h2, rfl⟩
                          · omega
                          · obtain rfl : s2 = s' := by omega
                            exact Or.inr ⟨s2, rfl, by omega, a1⟩
                        case measure => have hs2 := HSS.out; simp [intOf]; omega
                    · have d1 : (((t[q]'hlt).toNat : Int) != 32) = true := bne_t hlt h32
                      by_cases h9 : (t.get! q).toNat = 9
                      · have d2 : (((t[q]'hlt).toNat : Int) != 9) = false := bne_f hlt h9
                        have HKR : Hid (keyOf t = t.extract 0 q ∧ restOf t = t.extract (q + 1) t.size) := key_hit HNS.out hlt (Or.inr ((u8_9 _).2 h9))
                        clear h32 h9 HNS
                        by_cases hkn : t.extract 0 q = name
                        · have qk : ((t.extract 0 q).toList == name.toList) = true := str_eq hkn
                          have HSM : Hid (last name (piecesB data) = some (unq (trimB (t.extract (q + 1) t.size)))) := by
                            obtain ⟨acc, a1, _⟩ := HCUT.out
                            refine a1.trans (upd_some (HGV.out.trans ?_))
                            rw [HGT.out, if_pos (HKR.out.1.trans hkn), HKR.out.2]
                          have hrs : ((t.extract (q + 1) t.size) : ByteArray).size < 1073741824 := by rw [ByteArray.size_extract]; omega
                          have htr := trimB_size (t.extract (q + 1) t.size)
                          clear hkn HCUT HGV HGT HKR
                          go_wp2_with fail
                          refine (trim_any (t.extract (q + 1) t.size) _ (by omega)).mono ?_
                          rintro e w5 ⟨rfl, m5, rfl⟩
                          generalize trimB (t.extract (q + 1) t.size) = v at *
                          cases hqu : quo v with
                          | false =>
                            have HU : Hid (unq v = v) := by rw [Hid, unq_quo, hqu, if_neg (by decide)]
                            go_wp2_with fail
                            refine (quoted_any v _ (by omega)).mono ?_
                            rintro e w6 ⟨rfl, m6, rfl⟩
                            rw [hqu]
                            go_wp2_with fail
                            go_ret2
                            refine ⟨tup_eq (by rw [HSM.out, HU.out]; rfl) (by rw [HSM.out]; rfl), (by first | exact drew_two HMW.out | exact drew_two (drew_two HMW.out))⟩
                          | true =>
                            have HU : Hid (unq v = v.extract 1 (v.size - 1)) := by rw [Hid, unq_quo, hqu, if_pos rfl]
                            have hv2 : 2 ≤ v.size := (of_decide_eq_true hqu).1
                            obtain ⟨m, hm⟩ : ∃ m, m = v.size - 1 := ⟨_, rfl⟩
                            rw [← hm] at HU
                            have w4 : IntKind.i64.wrap ((v.size : Int) - 1) = (m : Int) := by rw [IntKind.wrap_i64]; omega
                            have w5 : (m : Int) ≤ (v.size : Int) := by omega
                            have w6 : (1 : Int) ≤ (m : Int) := by omega
                            clear hm hv2
                            go_wp2_with fail
                            refine (quoted_any v _ (by omega)).mono ?_
                            rintro e w6' ⟨rfl, m6, rfl⟩
                            rw [hqu]
                            go_wp2_with fail
                            go_ret2
                            refine ⟨tup_eq (by rw [HSM.out, HU.out]; rfl) (by rw [HSM.out]; rfl), (by first | exact drew_two HMW.out | exact drew_two (drew_two HMW.out))⟩
                        · have qk : ((t.extract 0 q).toList == name.toList) = false := str_ne hkn
                          have HNO : Hid (giveT name t = none) := by rw [Hid, HGT.out, if_neg (by rw [HKR.out.1]; exact hkn)]
                          clear hkn HGT HKR
                          have HLA : Hid ((∃ acc, last name (piecesB data) = acc ∧ ((s = 0 ∧ acc = none) ∨ ∃ s', s = s' + 1 ∧ acc = lastL name (data.data.toList.take s')))) := by
                            obtain ⟨acc, a1, a2⟩ := HCUT.out
                            exact ⟨acc, a1.trans (upd_none (HGV.out.trans HNO.out)), a2⟩
                          clear HCUT HGV HNO
                          go_wp2_with fail
                          go_roundw
                          case rel =>
                            obtain ⟨acc, a1, a2⟩ := HLA.out
                            have hs2 := HSS.out
                            refine ⟨(s' : Int), by go_num, HMW.out, ?_⟩
                            rcases a2 with ⟨h0, _⟩ | ⟨s2, h2, rfl⟩
                            · omega
                            · obtain rfl : s2 = s' := by omega
                              exact Or.inr ⟨s2, rfl, by omega, a1⟩
                          case measure => have hs2 := HSS.out; simp [intOf]; omega
                      · have d2 : (((t[q]'hlt).toNat : Int) != 9) = true := bne_t hlt h9
                        have HNS2 : Hid (NoSp t (q + 1)) := fun j hj => by
                          by_cases e : j = q
                          · subst e
                            exact ⟨fun h => h32 ((u8_32 _).1 h), fun h => h9 ((u8_9 _).1 h)⟩
                          · exact HNS.out j (by omega)
                        clear h32 h9
                        go_wp2_with fail
                        go_round
                        case rel => exact ⟨q + 1, by go_num, by omega, HNS2.out⟩
                        case measure => simp [intOf]; omega
                  · have hqe : q = t.size := by omega
                    have c1 : ¬ (q : Int) < (t.size : Int) := by omega
                    have c2 : (q : Int) ≤ (t.size : Int) := by omega
                    have HKR : Hid (keyOf t = t.extract 0 q ∧ restOf t = ⟨#[]⟩) := by
                      rw [hqe] at HNS ⊢
                      exact key_none HNS.out
                    clear HNS hlt hqe
                    by_cases hkn : t.extract 0 q = name
                    · have qk : ((t.extract 0 q).toList == name.toList) = true := str_eq hkn
                      have HSM : Hid (last name (piecesB data) = some (unq (trimB ⟨#[]⟩))) := by
                        obtain ⟨acc, a1, _⟩ := HCUT.out
                        refine a1.trans (upd_some (HGV.out.trans ?_))
                        rw [HGT.out, if_pos (HKR.out.1.trans hkn), HKR.out.2]
                      have hrs : (⟨#[]⟩ : ByteArray).size < 1073741824 := by decide
                      have htr := trimB_size ⟨#[]⟩
                      clear hkn HCUT HGV HGT HKR
                      go_wp2_with fail
                      refine (trim_any ⟨#[]⟩ _ (by omega)).mono ?_
                      rintro e w5 ⟨rfl, m5, rfl⟩
                      generalize trimB ⟨#[]⟩ = v at *
                      cases hqu : quo v with
                      | false =>
                        have HU : Hid (unq v = v) := by rw [Hid, unq_quo, hqu, if_neg (by decide)]
                        go_wp2_with fail
                        refine (quoted_any v _ (by omega)).mono ?_
                        rintro e w6 ⟨rfl, m6, rfl⟩
                        rw [hqu]
                        go_wp2_with fail
                        go_ret2
                        refine ⟨tup_eq (by rw [HSM.out, HU.out]; rfl) (by rw [HSM.out]; rfl), (by first | exact drew_two HMW.out | exact drew_two (drew_two HMW.out))⟩
                      | true =>
                        have HU : Hid (unq v = v.extract 1 (v.size - 1)) := by rw [Hid, unq_quo, hqu, if_pos rfl]
                        have hv2 : 2 ≤ v.size := (of_decide_eq_true hqu).1
                        obtain ⟨m, hm⟩ : ∃ m, m = v.size - 1 := ⟨_, rfl⟩
                        rw [← hm] at HU
                        have w4 : IntKind.i64.wrap ((v.size : Int) - 1) = (m : Int) := by rw [IntKind.wrap_i64]; omega
                        have w5 : (m : Int) ≤ (v.size : Int) := by omega
                        have w6 : (1 : Int) ≤ (m : Int) := by omega
                        clear hm hv2
                        go_wp2_with fail
                        refine (quoted_any v _ (by omega)).mono ?_
                        rintro e w6' ⟨rfl, m6, rfl⟩
                        rw [hqu]
                        go_wp2_with fail
                        go_ret2
                        refine ⟨tup_eq (by rw [HSM.out, HU.out]; rfl) (by rw [HSM.out]; rfl), (by first | exact drew_two HMW.out | exact drew_two (drew_two HMW.out))⟩
                    · have qk : ((t.extract 0 q).toList == name.toList) = false := str_ne hkn
                      have HNO : Hid (giveT name t = none) := by rw [Hid, HGT.out, if_neg (by rw [HKR.out.1]; exact hkn)]
                      clear hkn HGT HKR
                      have HLA : Hid ((∃ acc, last name (piecesB data) = acc ∧ ((s = 0 ∧ acc = none) ∨ ∃ s', s = s' + 1 ∧ acc = lastL name (data.data.toList.take s')))) := by
                        obtain ⟨acc, a1, a2⟩ := HCUT.out
                        exact ⟨acc, a1.trans (upd_none (HGV.out.trans HNO.out)), a2⟩
                      clear HCUT HGV HNO
                      go_wp2_with fail
                      go_roundw
                      case rel =>
                        obtain ⟨acc, a1, a2⟩ := HLA.out
                        have hs2 := HSS.out
                        refine ⟨(s' : Int), by go_num, HMW.out, ?_⟩
                        rcases a2 with ⟨h0, _⟩ | ⟨s2, h2, rfl⟩
                        · omega
                        · obtain rfl : s2 = s' := by omega
                          exact Or.inr ⟨s2, rfl, by omega, a1⟩
                      case measure => have hs2 := HSS.out; simp [intOf]; omega
          · have f1 : (((data[s']'hl').toNat : Int) != 10) = true := bne_t hl' h10
            have HN2 : Hid (∀ j, s' ≤ j → j < k → ¬ data.get! j = 10) := fun j h1 h2 => by
              by_cases e : j = s'
              · subst e
                exact fun h => h10 ((u8_10 _).1 h)
              · exact HNL.out j (by omega) h2
            clear h10 hs0
            go_wp2_with fail
            go_round
            case rel => exact ⟨s', by go_num, by omega, HN2.out⟩
            case measure => simp [intOf]; omega
end Go.Proofs.Qxb6600570aDoor
