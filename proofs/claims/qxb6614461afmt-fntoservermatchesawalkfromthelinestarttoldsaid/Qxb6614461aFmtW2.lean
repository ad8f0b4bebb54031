import Derived.Test.Qxb6614461aFmtW1
import Derived.Deep.RegionLawGrows
namespace Go.Proofs.Qxb6614461aFmt
open Go.RowKit Go.Lib

/-- The step from place off on a line that ends at en: the rune and its size. -/
def dec (bs : ByteArray) (off en : Nat) : Nat × Nat := Lib.decodeGo (bs.extract off en)

theorem get_extract (bs : ByteArray) (off en j : Nat) (h2 : en ≤ bs.size) (hj : j < en - off) : (bs.extract off en).get! j = bs.get! (off + j) := by
  have e1 : (bs.extract off en).size = en - off := by simp [ByteArray.size_extract]; omega
  have e2 : (bs.extract off en).data = bs.data.extract off en := ByteArray.data_extract ..
  have hb : bs.size = bs.data.size := rfl
  show (bs.extract off en).data[j]! = bs.data[off + j]!
  rw [e2, getElem!_pos _ _ (by simp; omega), getElem!_pos _ _ (by omega), Array.getElem_extract]

theorem decodeGo_le (s : ByteArray) : (Lib.decodeGo s).2 ≤ 4 ∧ (Lib.decodeGo s).2 ≤ s.size ∧ (0 < s.size → 1 ≤ (Lib.decodeGo s).2) := by
  unfold Lib.decodeGo
  split
  · simp_all
  · rw [Lib.decode_at]
    unfold decodeN
    repeat' split
    all_goals simp only
    all_goals omega

/-- What lies in three new blocks, in any later world. -/
theorem three_new {w w2 : World} {off p u st en : Int} (hb2 : Below (((w.alloc (.cells #[.int .i64 off, .int .i64 p, .int .i64 u] 47)).alloc (.cells #[.int .i64 st, .int .i64 en] 49)).alloc (.cells #[.int .i64 0, .int .i64 0, .int .i64 0] 47)).drew.heap.size (((w.alloc (.cells #[.int .i64 off, .int .i64 p, .int .i64 u] 47)).alloc (.cells #[.int .i64 st, .int .i64 en] 49)).alloc (.cells #[.int .i64 0, .int .i64 0, .int .i64 0] 47)).drew w2) :
    (w2.cell? ⟨w.heap.size, 0, none⟩ = some (.int .i64 off) ∧ w2.cell? ⟨w.heap.size, 1, none⟩ = some (.int .i64 p) ∧ w2.cell? ⟨w.heap.size, 2, none⟩ = some (.int .i64 u)) ∧
    (w2.cell? ⟨w.heap.size + 1, 0, none⟩ = some (.int .i64 st) ∧ w2.cell? ⟨w.heap.size + 1, 1, none⟩ = some (.int .i64 en)) ∧
    (w2.cell? ⟨w.heap.size + 1 + 1, 0, none⟩ = some (.int .i64 0) ∧ w2.cell? ⟨w.heap.size + 1 + 1, 1, none⟩ = some (.int .i64 0) ∧ w2.cell? ⟨w.heap.size + 1 + 1, 2, none⟩ = some (.int .i64 0)) ∧
    (w2.frozen? ⟨w.heap.size + 1 + 1, 0, none⟩ = false ∧ w2.frozen? ⟨w.heap.size + 1 + 1, 1, none⟩ = false ∧ w2.frozen? ⟨w.heap.size + 1 + 1, 2, none⟩ = false) := by
  refine ⟨⟨?_, ?_, ?_⟩, ⟨?_, ?_⟩, ⟨?_, ?_, ?_⟩, ?_, ?_, ?_⟩
  all_goals first
    | (rw [hb2.cell (by simp; omega)]; go_simp; done)
    | (rw [hb2.cell (by simp)]; go_simp; done)
    | (rw [hb2.cell (by show w.heap.size < _; simp; omega)]; go_simp; done)
    | (rw [hb2.frozen (by simp)]; go_simp; done)
    | skip

set_option maxRecDepth 100000 in
set_option maxHeartbeats 800000 in
theorem step_any (bs : ByteArray) (T B cp off en : Nat) (p u st : Int) (w : World) (hT : Lib.Utf8Tabs 0 1 w) (hTx : w.cell? ⟨T, 0, none⟩ = some (.slice (some ⟨B, 0, none⟩) bs.size cp)) (hcap : bs.size ≤ cp)
    (hp : ∀ j, j < bs.size → w.cell? ⟨B, j, none⟩ = some (.int .u8 (bs.get! j).toNat)) (h1 : off < en) (h2 : en ≤ bs.size) (hbs : bs.size < 4294967296) (p1 : 0 ≤ p) (p2 : p < 4294967296) (u1 : 0 ≤ u) (u2 : u < 4294967296) :
    Calls Tryf.prog 21 #[.pointer (some ⟨T, 0, none⟩), .agg #[.int .i64 off, .int .i64 p, .int .i64 u], .agg #[.int .i64 st, .int .i64 en]] w fun e w' =>
      e = .returned (.agg #[.int .i64 (off + (dec bs off en).2), .int .i64 (p + 1), .int .i64 (u + ru (dec bs off en).1)]) ∧ Below w.heap.size w w' := by
  have HB : Hid (∀ o1 o2 o3, Below w.heap.size w (((w.alloc o1).alloc o2).alloc o3).drew) := fun o1 o2 o3 => ((((Below.refl _ _).alloc (Nat.le_refl _) o1).alloc (by simp) o2).alloc (by simp; omega) o3).drew
  have HT0 : Hid (∀ w', Below w.heap.size w w' → w'.cell? ⟨T, 0, none⟩ = some (.slice (some ⟨B, 0, none⟩) bs.size cp)) := fun w' hb => by
    rw [hb.cell (World.block_lt_of_cell? _ _ hTx)]; exact hTx
  have HD : Hid (∀ w', Below w.heap.size w w' → Calls Tryf.prog 26 #[.slice (some ⟨B, off, none⟩) (en - off) (cp - off)] w' fun e w2 => e = .returned (.tuple #[.int .i32 (dec bs off en).1, .int .i64 (dec bs off en).2]) ∧ Below w'.heap.size w' w2) := by
    intro w' hb
    have e1 : (bs.extract off en).size = en - off := by simp [ByteArray.size_extract]; omega
    have := Tryf.DecodeRune (bs.extract off en) B off (cp - off) w' (Utf8Tabs_below hT hb) (fun j hj => by
      have hx := hp (off + j) (by omega)
      rw [hb.cell (World.block_lt_of_cell? _ _ hx), hx, get_extract bs off en j h2 (by omega)])
    rw [e1] at this
    exact this
  have q1 : (dec bs off en).2 ≤ 4 := (decodeGo_le _).1
  have q2 : ru (dec bs off en).1 ≤ 2 := by unfold ru; repeat' split
                                           all_goals omega
  have q3 : -1 ≤ ru (dec bs off en).1 := by unfold ru; repeat' split
                                            all_goals omega
  generalize dec bs off en = d at *
  have x1 : (off : Int) ≤ (en : Int) := by omega
  have x2 : (en : Int) ≤ (bs.size : Int) := by omega
  have x3 : (bs.size : Int) ≤ (cp : Int) := by omega
  have x4 : (off : Int) ≤ (bs.size : Int) := by omega
  have x5 : (en : Int) ≤ (cp : Int) := by omega
  have x6 : (0 : Int) ≤ (off : Int) := by omega
  have x7 : (0 : Int) ≤ (en : Int) := by omega
  have x8 : (0 : Int) ≤ (off : Int) ∧ (off : Int) ≤ (en : Int) ∧ (en : Int) ≤ (cp : Int) := by omega
  have x9 : ¬ cp = off := by omega
  clear hp hT
  go_enter Tryf.func21, Tryf.ntmps21
  go_wp2_with fail
  go_region_held3 (fun w' => w'.cell? ⟨T, 0, none⟩ = some (.slice (some ⟨B, 0, none⟩) bs.size cp) ∧ w'.cell? ⟨w.heap.size, 0, none⟩ = some (.int .i64 off) ∧ w'.cell? ⟨w.heap.size + 1, 1, none⟩ = some (.int .i64 en))
    (first | (exact ⟨HT0.out _ (HB.out _ _ _), by go_keep, by go_keep⟩) | (exact ⟨by assumption, by assumption, by assumption⟩))
    (first | (go_at_call 26; refine (HD.out _ (HB.out _ _ _)).mono ?_; rintro e w2 ⟨rfl, hb2⟩; have k0 := HT0.out w2 ((HB.out _ _ _).trans (hb2.mono (by simp; omega))); obtain ⟨⟨k1, k2, k3⟩, ⟨k4, k5⟩, ⟨k6, k7, k8⟩, k9, k10, k11⟩ := three_new hb2))
  clear k0
  have y1 : IntKind.i64.wrap ((off : Int) + (d.2 : Int)) = (off : Int) + (d.2 : Int) := by rw [IntKind.wrap_i64]; omega
  have y2 : IntKind.i64.wrap (p + 1) = p + 1 := by rw [IntKind.wrap_i64]; omega
  have y3 : IntKind.i64.wrap (u + ru (d.1 : Int)) = u + ru (d.1 : Int) := by rw [IntKind.wrap_i64]; omega
  have y4 : ¬ w.heap.size = w.heap.size + 1 + 1 := by omega
  have y5 : ¬ w.heap.size + 1 + 1 = w.heap.size := by omega
  have HBB : Hid _ := (HB.out _ _ _).trans (hb2.mono (by simp; omega))
  go_wp2_with fail
  go_region_held3 (fun w' => w'.cell? ⟨w.heap.size, 0, none⟩ = some (.int .i64 off) ∧ w'.cell? ⟨w.heap.size, 1, none⟩ = some (.int .i64 p) ∧ w'.cell? ⟨w.heap.size, 2, none⟩ = some (.int .i64 u))
    (first | go_keep)
    (first | (go_at_call 27; refine (runeLen_any _ _).mono ?_; rintro e w3 ⟨rfl, rfl⟩))
  go_wp2_with fail
  refine bodyPost_ret (v := .agg #[.int .i64 (off + d.2), .int .i64 (p + 1), .int .i64 (u + ru d.1)]) (by simp [results, Tryf.results21, go_sem, *]) rfl ⟨rfl, ?_⟩
  exact (((HBB.out.setCell (by show w.heap.size ≤ w.heap.size + 1 + 1; omega) _).setCell (by show w.heap.size ≤ w.heap.size + 1 + 1; omega) _).setCell (by show w.heap.size ≤ w.heap.size + 1 + 1; omega) _).drew
end Go.Proofs.Qxb6614461aFmt
