import Derived.Test.Qxb6608811aFmtCallers
namespace Go.Proofs.Qxb6608811aFmt.Compare
open Go.ChangeShapes Go.WideShapes Go.ChangeAt Go.RowKit Qx11 Leaf PInt PPre Parse Callers

theorem of_list {s : ByteArray} {l : Bs} (h : Ls s = l) : s = ⟨l.toArray⟩ := Ls_inj (by rw [h]; simp [Ls])

set_option maxRecDepth 100000 in
set_option maxHeartbeats 4000000 in
theorem compare_any (s : ByteArray) (v : Ver) (w : World) (hs : s.size < 2097152) (hp : 0 < s.size) (hx0 : s[0].toNat = 118) (hv : parse (tl1 (Ls s)) = some v) (hm : v.maj = [49]) :
    Calls Tryf.prog 14 #[.string s, .string ⟨#[118, 49, 46, 51, 46, 48]⟩] w fun e w' => (∃ n, e = .returned (.int .i64 n) ∧ n = cmp v.min v.pat v.pre) ∧ Below w.heap.size w w' := by
  have HX0 : Hid (s[0].toNat = 118) := hx0
  have HV : Hid (parse (tl1 (Ls s)) = some v) := hv
  clear hx0 hv
  go_enter Tryf.func14, Tryf.ntmps14
  go_wp2_with fail
  refine (parse_any s _ hs hp HX0.out).mono ?_
  rintro e w1 ⟨hpo, hb⟩
  have HB : Hid (Below w.heap.size w w1) := hb
  have hsz := hb.size
  clear hb
  rcases hpo with ⟨hn, s0, s1, s2, s3, s4, s5, rfl⟩ | ⟨a, b, c, h, p, d, hpp, rfl⟩
  · rw [HV.out] at hn; cases hn
  have hev : v = ⟨Ls a, Ls b, Ls c, Ls h, Ls p, Ls d⟩ := by have := HV.out.symm.trans hpp; simpa using this
  have hma : Ls a = [49] := by rw [hev] at hm; exact hm
  have hea : a = ⟨#[49]⟩ := of_list hma
  subst hea
  have HN : Hid (cmp v.min v.pat v.pre = cmp (Ls b) (Ls c) (Ls p)) := by rw [hev]; rfl
  clear hpp hev hma hm
  go_wp2_with fail
  refine (parse_any ⟨#[118, 49, 46, 51, 46, 48]⟩ _ (by decide) (by decide) (by decide)).mono ?_
  rintro e w2 ⟨hpo, hb2⟩
  have hz2 : w1.heap.size < w2.heap.size := by have := hb2.size; simp at this; omega
  have hB2 : Below w1.heap.size w1 w2 := ((Below.refl _ _).alloc (Nat.le_refl _) _).trans (hb2.mono (by simp))
  have HBB : Hid (Below w.heap.size w w2) := HB.out.trans (hB2.mono hsz)
  obtain ⟨hc0, hc1, hc2, hc4⟩ : w2.cell? ⟨w1.heap.size, 0, none⟩ = some (.string ⟨#[49]⟩) ∧ w2.cell? ⟨w1.heap.size, 1, none⟩ = some (.string b) ∧ w2.cell? ⟨w1.heap.size, 2, none⟩ = some (.string c) ∧ w2.cell? ⟨w1.heap.size, 4, none⟩ = some (.string p) := by
    refine ⟨?_, ?_, ?_, ?_⟩
    · rw [hb2.cell (p := ⟨w1.heap.size, 0, none⟩) (by simp)]; simp
    · rw [hb2.cell (p := ⟨w1.heap.size, 1, none⟩) (by simp)]; simp
    · rw [hb2.cell (p := ⟨w1.heap.size, 2, none⟩) (by simp)]; simp
    · rw [hb2.cell (p := ⟨w1.heap.size, 4, none⟩) (by simp)]; simp
  clear hb2 hB2
  have h130 : tl1 (Ls ⟨#[118, 49, 46, 51, 46, 48]⟩) = [49, 46, 51, 46, 48] := rfl
  rw [h130] at hpo
  rcases hpo with ⟨hn, s0, s1, s2, s3, s4, s5, rfl⟩ | ⟨a2, b2, c2, h2, p2, d2, hpp, rfl⟩
  · rw [parse_130] at hn; cases hn
  rw [parse_130] at hpp
  simp only [Option.some.injEq, Ver.mk.injEq] at hpp
  obtain ⟨e1, e2, e3, e4, e5, e6⟩ := hpp
  obtain rfl := of_list e1.symm
  obtain rfl := of_list e2.symm
  obtain rfl := of_list e3.symm
  obtain rfl := of_list e5.symm
  clear e1 e2 e3 e4 e5 e6 h130
  have hsz2 : w.heap.size ≤ w2.heap.size := by omega
  have C1 : ∀ w, Calls Tryf.prog 20 #[.string ⟨#[49]⟩, .string ⟨#[49]⟩] w fun e w' => e = .returned (.int .i64 0) ∧ w' = w := by
    intro w
    have := cint_any ⟨#[49]⟩ ⟨#[49]⟩ w
    rw [cI_self] at this; exact this
  have HC1 : Hid (∀ w, Calls Tryf.prog 20 #[.string ⟨#[49]⟩, .string ⟨#[49]⟩] w fun e w' => e = .returned (.int .i64 0) ∧ w' = w) := C1
  clear C1
  obtain ⟨x1, hx1⟩ : ∃ x1, x1 = cI (Ls b) [51] := ⟨_, rfl⟩
  obtain ⟨x2, hx2⟩ : ∃ x2, x2 = cI (Ls c) [48] := ⟨_, rfl⟩
  obtain ⟨x3, hx3⟩ : ∃ x3 : Int, x3 = if (Ls p).isEmpty = true then 0 else -1 := ⟨_, rfl⟩
  have HM : Hid (cmp v.min v.pat v.pre = if x1 ≠ 0 then x1 else if x2 ≠ 0 then x2 else x3) := by
    show cmp _ _ _ = _
    rw [HN.out]; unfold cmp; rw [hx1, hx2, hx3]
  have HC2 : Hid (∀ w, Calls Tryf.prog 20 #[.string b, .string ⟨#[51]⟩] w fun e w' => e = .returned (.int .i64 x1) ∧ w' = w) := by
    intro w; rw [hx1]; exact cint_any b ⟨#[51]⟩ w
  have HC3 : Hid (∀ w, Calls Tryf.prog 20 #[.string c, .string ⟨#[48]⟩] w fun e w' => e = .returned (.int .i64 x2) ∧ w' = w) := by
    intro w; rw [hx2]; exact cint_any c ⟨#[48]⟩ w
  have HC4 : Hid (∀ w, Calls Tryf.prog 21 #[.string p, .string ⟨#[]⟩] w fun e w' => e = .returned (.int .i64 x3) ∧ w' = w) := by
    intro w; rw [hx3]; exact cpre_any p ⟨#[]⟩ w rfl
  clear hx1 hx2 hx3
  go_wp2_with fail
  refine (HC1.out _).mono ?_
  rintro e w3 ⟨rfl, rfl⟩
  go_wp2_with fail
  refine (HC2.out _).mono ?_
  rintro e w3 ⟨rfl, rfl⟩
  by_cases z1 : x1 = 0
  rotate_left
  · have hb1 : (x1 != 0) = true := by simpa using z1
    have HR : Hid (cmp v.min v.pat v.pre = x1) := by show cmp _ _ _ = _; rw [HM.out, if_pos z1]
    clear z1
    go_wp2_with fail
    go_ret
    exact ⟨⟨_, rfl, HR.out.symm⟩, HBB.out.alloc hsz2 _⟩
  have hb1 : (x1 != 0) = false := by simpa using z1
  have HM2 : Hid (cmp v.min v.pat v.pre = if x2 ≠ 0 then x2 else x3) := by show cmp _ _ _ = _; rw [HM.out, if_neg (by simpa using z1)]
  clear z1 HM
  go_wp2_with fail
  refine (HC3.out _).mono ?_
  rintro e w3 ⟨rfl, rfl⟩
  by_cases z2 : x2 = 0
  rotate_left
  · have hb2 : (x2 != 0) = true := by simpa using z2
    have HR : Hid (cmp v.min v.pat v.pre = x2) := by show cmp _ _ _ = _; rw [HM2.out, if_pos z2]
    clear z2
    go_wp2_with fail
    go_ret
    exact ⟨⟨_, rfl, HR.out.symm⟩, HBB.out.alloc hsz2 _⟩
  have hb2 : (x2 != 0) = false := by simpa using z2
  have HR : Hid (cmp v.min v.pat v.pre = x3) := by show cmp _ _ _ = _; rw [HM2.out, if_neg (by simpa using z2)]
  clear z2 HM2
  go_wp2_with fail
  refine (HC4.out _).mono ?_
  rintro e w3 ⟨rfl, rfl⟩
  go_wp2_with fail
  go_ret
  exact ⟨⟨_, rfl, HR.out.symm⟩, HBB.out.alloc hsz2 _⟩
end Go.Proofs.Qxb6608811aFmt.Compare
