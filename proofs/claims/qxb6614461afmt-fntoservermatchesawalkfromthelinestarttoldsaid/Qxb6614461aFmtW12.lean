import Derived.Test.Qxb6614461aFmtW7
import Derived.Test.Qxb6614461aFmtW8
import Derived.Test.Qxb6614461aFmtW11
namespace Go.Proofs.Qxb6614461aFmt
open Go.RowKit Go.Extern.Stop Go.Stop Go.Extern

/-- Line n of a text, from 0. -/
def lineN (bs : ByteArray) (n : Nat) : Nat × Nat := (lines bs).getD n (0, 0)

/-- What ToServer answers, in plain words. -/
def serverOf (bs enc : ByteArray) (ln col : Int) : Option (Int × Int) :=
  if (isU8 enc || isU16 enc || isU32 enc) = true then
    if 1 ≤ ln ∧ 1 ≤ col ∧ ln ≤ (lines bs).length then
      (go bs (lineN bs (ln - 1).toNat).2 (col - 1).toNat ((lineN bs (ln - 1).toNat).1, 0)).map fun r => (ln - 1, unitsOf enc r.1 (col - 1) r.2 (lineN bs (ln - 1).toNat).1)
    else none
  else none

def Gives (o : Option (Int × Int)) (w : World) (e : Ending) (w' : World) : Prop :=
  Below w.heap.size w w' ∧ match o with
    | some r => e = .returned (.tuple #[.agg #[.int .i64 r.1, .int .i64 r.2], .nilIface])
    | none => ∃ a, e = .returned (.tuple #[.agg #[.int .i64 0, .int .i64 0], .iface 72 (.pointer (some a))])

/-- 'nearest' sets out from a spot on the way. -/
def NearOk (w : World) (T : Nat) (bs : ByteArray) : Prop :=
  ∀ (n : Nat) (col : Int) (X : Nat) (w' : World), n < (lines bs).length → 1 ≤ col → Below w.heap.size w w' → w'.cell? ⟨X, 1, none⟩ = some (.int .i64 col) →
    Calls Tryf.prog 19 #[.pointer (some ⟨T, 0, none⟩), .int .i64 n, .agg #[.int .i64 (lineN bs n).1, .int .i64 (lineN bs n).2], .func (.func 20) #[] #[.pointer (some ⟨X, 0, none⟩)]] w' fun e w2 =>
      ∃ off p u : Nat, e = .returned (.agg #[.int .i64 off, .int .i64 p, .int .i64 u]) ∧ Below w'.heap.size w' w2 ∧ (p : Int) ≤ col - 1 ∧ go bs (lineN bs n).2 p ((lineN bs n).1, 0) = some (off, u)

theorem lineN_ok (bs : ByteArray) (n : Nat) (h : n < (lines bs).length) : (lineN bs n).1 ≤ (lineN bs n).2 ∧ (lineN bs n).2 ≤ bs.size := by
  have hm : lineN bs n ∈ lines bs := by
    unfold lineN
    rw [List.getD_eq_getElem?_getD, List.getElem?_eq_getElem h]
    exact List.getElem_mem h
  exact (lines_ok bs).2.2 _ hm

theorem nil_lookup (n : Int) (w : World) : (Instr.lookup 54 (.map none) (.int .i64 n) false).run Tryf.prog w = .ok (.slice none 0 0) w := by
  kernel_rfl

theorem nearOk_nil {w : World} {T : Nat} {bs : ByteArray} {B cp LB lc : Nat} (h : TextAt w T bs B cp LB lc (.map none)) : NearOk w T bs := by
  intro n col X w' hn hc hb hX
  refine (nearest_nil T X n _ _ (.map none) w' (h.step hb).t2 (fun w2 _ => nil_lookup n w2)).mono ?_
  rintro e w2 ⟨rfl, hb2⟩
  exact ⟨(lineN bs n).1, 0, 0, rfl, hb2, by omega, rfl⟩

theorem toServer_any (F : Interp) {w : World} {T : Nat} {bs : ByteArray} {B cp LB lc : Nat} {mv : Value} (h : TextAt w T bs B cp LB lc mv) (hF : F.answers w.tape) (hU : Lib.Utf8Tabs 0 1 w) (hcap : bs.size ≤ cp)
    (hp : ∀ j, j < bs.size → w.cell? ⟨B, j, none⟩ = some (.int .u8 (bs.get! j).toNat)) (hbs : bs.size < 1073741823) (hnear : NearOk w T bs) (enc : ByteArray) (ln col : Int) (h2 : ln ≤ 9223372036854775807) (hc2 : col ≤ 9223372036854775807) :
    Calls Tryf.prog 7 #[.pointer (some ⟨T, 0, none⟩), .agg #[.int .i64 ln, .int .i64 col], .string enc] w fun e w' => Gives (serverOf bs enc ln col) w e w' := by
  have hlo := lines_ok bs
  unfold serverOf
  by_cases hk : (isU8 enc || isU16 enc || isU32 enc) = true
  · rw [if_pos hk]
    by_cases hr : 1 ≤ ln ∧ 1 ≤ col ∧ ln ≤ (lines bs).length
    · rw [if_pos hr]
      obtain ⟨n, hn⟩ : ∃ n : Nat, ln = (n : Int) + 1 := ⟨(ln - 1).toNat, by omega⟩
      have en : (ln - 1).toNat = n := by omega
      rw [en]
      have hnl : n < (lines bs).length := by omega
      have hls := lineN_ok bs n hnl
      have hloc : ∀ w', Below w.heap.size w w' → Calls Tryf.prog 15 #[.pointer (some ⟨T, 0, none⟩), .agg #[.int .i64 ln, .int .i64 col]] w' fun e w2 => LocGives bs (lineN bs n).1 (lineN bs n).2 col w' e w2 := fun w' hb => by
        have ht := h.step hb
        exact locate_any F bs T B cp LB (lines bs).length lc n (lineN bs n).1 (lineN bs n).2 ln col w' (by rw [hb.tape]; exact hF) (Utf8Tabs_below hU hb) ht.t0 hcap
          (fun j hj => by have hx := hp j hj; rw [hb.cell (World.block_lt_of_cell? _ _ hx), hx]) (by omega) ht.t1 hnl (by omega) hn (ht.ln n hnl).1 (ht.ln n hnl).2 hls.1 hls.2 hr.2.1 hc2
          (fun X w2 hb2 hX => hnear n col X w2 hnl hr.2.1 (hb.trans (hb2.mono hb.size)) hX)
      unfold LocGives at hloc
      cases hg : go bs (lineN bs n).2 (col - 1).toNat ((lineN bs n).1, 0) with
      | none =>
        rw [hg] at hloc
        refine (toServer_err T ln col enc w hk (fun w' hb => (hloc w' hb).mono ?_)).mono ?_
        · rintro e w2 ⟨h1, a, rfl⟩
          exact ⟨a, rfl, h1⟩
        · rintro e w2 ⟨a, rfl, h1⟩
          exact ⟨h1, a, rfl⟩
      | some r =>
        rw [hg] at hloc
        have hgf := go_facts bs _ hls.2 _ _ (by exact hls.1) r hg
        simp only at hgf
        refine (toServer_ok T ln col r.1 r.2 (lineN bs n).1 (lineN bs n).2 enc w hk hr.1 h2 (by omega) (by omega) (fun w' hb => (hloc w' hb).mono ?_)).mono ?_
        · rintro e w2 ⟨h1, rfl⟩
          exact ⟨rfl, h1⟩
        · rintro e w2 ⟨rfl, h1⟩
          exact ⟨h1, rfl⟩
    · rw [if_neg hr]
      refine (toServer_err T ln col enc w hk (fun w' hb => ?_)).mono ?_
      · by_cases hlow : ln < 1 ∨ col < 1
        · exact locate_low F T ln col w' (by rw [hb.tape]; exact hF) hlow
        · exact locate_past F T LB (lines bs).length lc ln col w' (by rw [hb.tape]; exact hF) (by omega) (by omega) h2 (h.step hb).t1 (by omega)
      · rintro e w2 ⟨a, rfl, h1⟩
        exact ⟨h1, a, rfl⟩
  · rw [if_neg hk]
    refine (toServer_unknown F T ln col enc w hF (by simpa using hk)).mono ?_
    rintro e w2 ⟨a, rfl, h1⟩
    exact ⟨h1, a, rfl⟩
end Go.Proofs.Qxb6614461aFmt
