import Derived.Test.Qxb6608811aFmtPPre
import Derived.WalkSmall
namespace Go.Proofs.Qxb6608811aFmt.Parse
open Go.ChangeShapes Go.WideShapes Go.ChangeAt Go.RowKit Qx11 Leaf PInt PPre

theorem setCell_drewN (w : World) (n : Nat) (a : Addr) (v : Value) : (w.drewN n).setCell a v = (w.setCell a v).drewN n := rfl

def POk (l : Bs) (e : Ending) : Prop :=
  (parse l = none ∧ ∃ s0 s1 s2 s3 s4 s5, e = .returned (.tuple #[.agg #[.string s0, .string s1, .string s2, .string s3, .string s4, .string s5], .bool false])) ∨
  (∃ a b c h p d, parse l = some ⟨Ls a, Ls b, Ls c, Ls h, Ls p, Ls d⟩ ∧ e = .returned (.tuple #[.agg #[.string a, .string b, .string c, .string h, .string p, .string d], .bool true]))

theorem Ls_cons {r : ByteArray} (h : 0 < r.size) : Ls r = r[0] :: tl1 (Ls r) := by
  obtain ⟨q, e⟩ := Ls_head r h; rw [e]; rfl
theorem parse_none {l : Bs} (h : pI l = none) : parse l = none := by unfold parse; rw [h]
theorem parse_some {l : Bs} {a q : Bs} (h : pI l = some (a, q)) : parse l = pMinor a q := by unfold parse; rw [h]
theorem minor_nil {a : Bs} {r : ByteArray} (h : r.size = 0) : pMinor a (Ls r) = some ⟨a, [48], [48], [46, 48, 46, 48], [], []⟩ := by rw [Ls_nil h]; rfl
theorem minor_no {a : Bs} {r : ByteArray} (h : 0 < r.size) (hx : r[0].toNat ≠ 46) : pMinor a (Ls r) = none := by rw [Ls_cons h]; simp [pMinor, hx]
theorem minor_none {a : Bs} {r : ByteArray} (h : 0 < r.size) (hx : r[0].toNat = 46) (hp : pI (tl1 (Ls r)) = none) : pMinor a (Ls r) = none := by rw [Ls_cons h]; simp [pMinor, hx, hp]
theorem minor_some {a : Bs} {r : ByteArray} (h : 0 < r.size) (hx : r[0].toNat = 46) {b q : Bs} (hp : pI (tl1 (Ls r)) = some (b, q)) : pMinor a (Ls r) = pPatch a b q := by rw [Ls_cons h]; simp [pMinor, hx, hp]
theorem patch_nil {a b : Bs} {r : ByteArray} (h : r.size = 0) : pPatch a b (Ls r) = some ⟨a, b, [48], [46, 48], [], []⟩ := by rw [Ls_nil h]; rfl
theorem patch_no {a b : Bs} {r : ByteArray} (h : 0 < r.size) (hx : r[0].toNat ≠ 46) : pPatch a b (Ls r) = none := by rw [Ls_cons h]; simp [pPatch, hx]
theorem patch_none {a b : Bs} {r : ByteArray} (h : 0 < r.size) (hx : r[0].toNat = 46) (hp : pI (tl1 (Ls r)) = none) : pPatch a b (Ls r) = none := by rw [Ls_cons h]; simp [pPatch, hx, hp]
theorem patch_some {a b : Bs} {r : ByteArray} (h : 0 < r.size) (hx : r[0].toNat = 46) {c q : Bs} (hp : pI (tl1 (Ls r)) = some (c, q)) : pPatch a b (Ls r) = pTail a b c q := by rw [Ls_cons h]; simp [pPatch, hx, hp]
theorem tail_pre_none {a b c : Bs} {r : ByteArray} (h : 0 < r.size) (hx : r[0].toNat = 45) (hp : pPre (tl1 (Ls r)) = none) : pTail a b c (Ls r) = none := by rw [Ls_cons h]; simp [pTail, hx, hp]
theorem tail_pre_some {a b c : Bs} {r : ByteArray} (h : 0 < r.size) (hx : r[0].toNat = 45) {t q : Bs} (hp : pPre (tl1 (Ls r)) = some (t, q)) : pTail a b c (Ls r) = pEnd a b c t q := by rw [Ls_cons h]; simp [pTail, hx, hp]
theorem tail_plain {a b c : Bs} {r : ByteArray} (hx : ∀ h : 0 < r.size, r[0].toNat ≠ 45) : pTail a b c (Ls r) = pEnd a b c [] (Ls r) := by
  by_cases h : 0 < r.size
  · rw [Ls_cons h]; simp [pTail, hx h]
  · rw [Ls_nil (by omega)]; rfl
theorem end_nil {a b c t : Bs} {r : ByteArray} (h : r.size = 0) : pEnd a b c t (Ls r) = some ⟨a, b, c, [], t, []⟩ := by rw [Ls_nil h]; rfl
theorem end_no {a b c t : Bs} {r : ByteArray} (h : 0 < r.size) (hx : r[0].toNat ≠ 43) : pEnd a b c t (Ls r) = none := by rw [Ls_cons h]; simp [pEnd, hx]
theorem end_none {a b c t : Bs} {r : ByteArray} (h : 0 < r.size) (hx : r[0].toNat = 43) (hp : pBld (tl1 (Ls r)) = none) : pEnd a b c t (Ls r) = none := by rw [Ls_cons h]; simp [pEnd, hx, hp]
theorem end_some {a b c t : Bs} {r : ByteArray} (h : 0 < r.size) (hx : r[0].toNat = 43) {d : Bs} (hp : pBld (tl1 (Ls r)) = some d) : pEnd a b c t (Ls r) = some ⟨a, b, c, [], t, d⟩ := by rw [Ls_cons h]; simp [pEnd, hx, hp]

attribute [local go_sem] setCell_drewN

set_option maxRecDepth 100000 in
set_option maxHeartbeats 8000000 in
theorem parse_any (s : ByteArray) (w : World) (hs : s.size < 2097152) (hp : 0 < s.size) (hx0 : s[0].toNat = 118) :
    Calls Tryf.prog 17 #[.string s] w fun e w' => POk (tl1 (Ls s)) e ∧ Below w.heap.size w w' := by
  have he := empty_not hp
  have hb0 : ((s[0].toNat : Int) != 118) = false := by simp; omega
  clear hx0
  have HL1 : Hid (Ls (s.extract 1 s.size) = tl1 (Ls s)) := Ls_drop s 1
  have HZ1 : Hid ((s.extract 1 s.size).size = s.size - 1) := size_extract s 1 s.size (Nat.le_refl _)
  go_enter Tryf.func17, Tryf.ntmps17
  go_wp2_with fail
  refine (parseInt_any (s.extract 1 s.size) _ (by rw [HZ1.out]; omega)).mono ?_
  rw [HL1.out]
  rintro e w1 ⟨hres, n1, rfl⟩
  rcases hres with ⟨hn, t, r, rfl⟩ | ⟨ta, r1, h1, hr1, rfl⟩
  · have HF : Hid (parse (tl1 (Ls s)) = none) := parse_none hn
    clear hn
    go_wp2_with fail
    exact bodyPost_ret (v := .tuple #[.agg #[.string t, .string ⟨#[]⟩, .string ⟨#[]⟩, .string ⟨#[]⟩, .string ⟨#[]⟩, .string ⟨#[]⟩], .bool false]) (by simp [results, Tryf.results17, go_sem]) rfl ⟨.inl ⟨HF.out, t, ⟨#[]⟩, ⟨#[]⟩, ⟨#[]⟩, ⟨#[]⟩, ⟨#[]⟩, rfl⟩, below_drewN ((Below.refl _ _).alloc (Nat.le_refl _) _) _⟩
  have HP1 : Hid (parse (tl1 (Ls s)) = pMinor (Ls ta) (Ls r1)) := parse_some h1
  have hr1s : r1.size < 2097152 := by have := HZ1.out; omega
  clear h1 hr1 HL1 HZ1
  by_cases hz1 : r1.size = 0
  · have he1 := empty_yes hz1
    have HF : Hid (parse (tl1 (Ls s)) = some ⟨Ls ta, [48], [48], [46, 48, 46, 48], [], []⟩) := HP1.out.trans (minor_nil hz1)
    clear hz1
    go_wp2_with fail
    exact bodyPost_ret (v := .tuple #[.agg #[.string ta, .string ⟨#[48]⟩, .string ⟨#[48]⟩, .string ⟨#[46, 48, 46, 48]⟩, .string ⟨#[]⟩, .string ⟨#[]⟩], .bool true]) (by simp [results, Tryf.results17, go_sem]) rfl ⟨.inr ⟨ta, ⟨#[48]⟩, ⟨#[48]⟩, ⟨#[46, 48, 46, 48]⟩, ⟨#[]⟩, ⟨#[]⟩, HF.out, rfl⟩, below_drewN ((Below.refl _ _).alloc (Nat.le_refl _) _) _⟩
  have hp1 : 0 < r1.size := by omega
  have he1 := empty_not hp1
  by_cases hx1 : r1[0].toNat = 46
  rotate_left
  · have hb1 : ((r1[0].toNat : Int) != 46) = true := by simp; omega
    have HF : Hid (parse (tl1 (Ls s)) = none) := HP1.out.trans (minor_no hp1 hx1)
    clear hx1
    go_wp2_with fail
    exact bodyPost_ret (v := .tuple #[.agg #[.string ta, .string ⟨#[]⟩, .string ⟨#[]⟩, .string ⟨#[]⟩, .string ⟨#[]⟩, .string ⟨#[]⟩], .bool false]) (by simp [results, Tryf.results17, go_sem]) rfl ⟨.inl ⟨HF.out, ta, ⟨#[]⟩, ⟨#[]⟩, ⟨#[]⟩, ⟨#[]⟩, ⟨#[]⟩, rfl⟩, below_drewN ((Below.refl _ _).alloc (Nat.le_refl _) _) _⟩
  have hb1 : ((r1[0].toNat : Int) != 46) = false := by simp; omega
  have HX1 : Hid (r1[0].toNat = 46) := hx1
  have HL2 : Hid (Ls (r1.extract 1 r1.size) = tl1 (Ls r1)) := Ls_drop r1 1
  have HZ2 : Hid ((r1.extract 1 r1.size).size = r1.size - 1) := size_extract r1 1 r1.size (Nat.le_refl _)
  clear hx1 hz1
  go_wp2_with fail
  refine (parseInt_any (r1.extract 1 r1.size) _ (by rw [HZ2.out]; omega)).mono ?_
  rw [HL2.out]
  rintro e w1 ⟨hres, n2, rfl⟩
  rcases hres with ⟨hn, t, r, rfl⟩ | ⟨tb, r2, h2, hr2, rfl⟩
  · have HF : Hid (parse (tl1 (Ls s)) = none) := HP1.out.trans (minor_none hp1 HX1.out hn)
    clear hn
    go_wp2_with fail
    exact bodyPost_ret (v := .tuple #[.agg #[.string ta, .string t, .string ⟨#[]⟩, .string ⟨#[]⟩, .string ⟨#[]⟩, .string ⟨#[]⟩], .bool false]) (by simp [results, Tryf.results17, go_sem]) rfl ⟨.inl ⟨HF.out, ta, t, ⟨#[]⟩, ⟨#[]⟩, ⟨#[]⟩, ⟨#[]⟩, rfl⟩, below_drewN ((Below.refl _ _).alloc (Nat.le_refl _) _) _⟩
  have HP2 : Hid (parse (tl1 (Ls s)) = pPatch (Ls ta) (Ls tb) (Ls r2)) := HP1.out.trans (minor_some hp1 HX1.out h2)
  have hr2s : r2.size < 2097152 := by have := HZ2.out; omega
  clear h2 hr2 HL2 HZ2 HP1 HX1
  by_cases hz2 : r2.size = 0
  · have he2 := empty_yes hz2
    have HF : Hid (parse (tl1 (Ls s)) = some ⟨Ls ta, Ls tb, [48], [46, 48], [], []⟩) := HP2.out.trans (patch_nil hz2)
    clear hz2
    go_wp2_with fail
    exact bodyPost_ret (v := .tuple #[.agg #[.string ta, .string tb, .string ⟨#[48]⟩, .string ⟨#[46, 48]⟩, .string ⟨#[]⟩, .string ⟨#[]⟩], .bool true]) (by simp [results, Tryf.results17, go_sem]) rfl ⟨.inr ⟨ta, tb, ⟨#[48]⟩, ⟨#[46, 48]⟩, ⟨#[]⟩, ⟨#[]⟩, HF.out, rfl⟩, below_drewN ((Below.refl _ _).alloc (Nat.le_refl _) _) _⟩
  have hp2 : 0 < r2.size := by omega
  have he2 := empty_not hp2
  by_cases hx2 : r2[0].toNat = 46
  rotate_left
  · have hb2 : ((r2[0].toNat : Int) != 46) = true := by simp; omega
    have HF : Hid (parse (tl1 (Ls s)) = none) := HP2.out.trans (patch_no hp2 hx2)
    clear hx2
    go_wp2_with fail
    exact bodyPost_ret (v := .tuple #[.agg #[.string ta, .string tb, .string ⟨#[]⟩, .string ⟨#[]⟩, .string ⟨#[]⟩, .string ⟨#[]⟩], .bool false]) (by simp [results, Tryf.results17, go_sem]) rfl ⟨.inl ⟨HF.out, ta, tb, ⟨#[]⟩, ⟨#[]⟩, ⟨#[]⟩, ⟨#[]⟩, rfl⟩, below_drewN ((Below.refl _ _).alloc (Nat.le_refl _) _) _⟩
  have hb2 : ((r2[0].toNat : Int) != 46) = false := by simp; omega
  have HX2 : Hid (r2[0].toNat = 46) := hx2
  have HL3 : Hid (Ls (r2.extract 1 r2.size) = tl1 (Ls r2)) := Ls_drop r2 1
  have HZ3 : Hid ((r2.extract 1 r2.size).size = r2.size - 1) := size_extract r2 1 r2.size (Nat.le_refl _)
  clear hx2 hz2
  go_wp2_with fail
  refine (parseInt_any (r2.extract 1 r2.size) _ (by rw [HZ3.out]; omega)).mono ?_
  rw [HL3.out]
  rintro e w1 ⟨hres, n3, rfl⟩
  rcases hres with ⟨hn, t, r, rfl⟩ | ⟨tc, r3, h3, hr3, rfl⟩
  · have HF : Hid (parse (tl1 (Ls s)) = none) := HP2.out.trans (patch_none hp2 HX2.out hn)
    clear hn
    go_wp2_with fail
    exact bodyPost_ret (v := .tuple #[.agg #[.string ta, .string tb, .string t, .string ⟨#[]⟩, .string ⟨#[]⟩, .string ⟨#[]⟩], .bool false]) (by simp [results, Tryf.results17, go_sem]) rfl ⟨.inl ⟨HF.out, ta, tb, t, ⟨#[]⟩, ⟨#[]⟩, ⟨#[]⟩, rfl⟩, below_drewN ((Below.refl _ _).alloc (Nat.le_refl _) _) _⟩
  have HP3 : Hid (parse (tl1 (Ls s)) = pTail (Ls ta) (Ls tb) (Ls tc) (Ls r3)) := HP2.out.trans (patch_some hp2 HX2.out h3)
  have hr3s : r3.size < 2097152 := by have := HZ3.out; omega
  clear h3 hr3 HL3 HZ3 HP2 HX2
  by_cases hpre : ∃ h : 0 < r3.size, r3[0].toNat = 45
  · obtain ⟨hp3, hx3⟩ := hpre
    have hb3 : ((r3[0].toNat : Int) == 45) = true := by simp; omega
    have hb3z : decide ((0 : Int) < (r3.size : Int)) = true := by simp; omega
    have HX3 : Hid (r3[0].toNat = 45) := hx3
    clear hx3
    go_wp2_with fail
    refine (parsePre_any r3 _ hr3s hp3 HX3.out).mono ?_
    rintro e w1 ⟨hres, n4, rfl⟩
    rcases hres with ⟨hn, t, r, rfl⟩ | ⟨tp, r4, h4, hr4, rfl⟩
    · have HF : Hid (parse (tl1 (Ls s)) = none) := HP3.out.trans (tail_pre_none hp3 HX3.out hn)
      clear hn
      go_wp2_with fail
      exact bodyPost_ret (v := .tuple #[.agg #[.string ta, .string tb, .string tc, .string ⟨#[]⟩, .string t, .string ⟨#[]⟩], .bool false]) (by simp [results, Tryf.results17, go_sem]) rfl ⟨.inl ⟨HF.out, ta, tb, tc, ⟨#[]⟩, t, ⟨#[]⟩, rfl⟩, below_drewN ((Below.refl _ _).alloc (Nat.le_refl _) _) _⟩
    have HP4 : Hid (parse (tl1 (Ls s)) = pEnd (Ls ta) (Ls tb) (Ls tc) (Ls tp) (Ls r4)) := HP3.out.trans (tail_pre_some hp3 HX3.out h4)
    have hr4s : r4.size < 2097152 := by omega
    clear h4 hr4 HP3 HX3
    by_cases hz4 : r4.size = 0
    · have he4 := empty_yes hz4
      have hg4 : decide (0 < r4.size) = false := by rw [hz4]; rfl
      have HF : Hid (parse (tl1 (Ls s)) = some ⟨Ls ta, Ls tb, Ls tc, [], Ls tp, []⟩) := HP4.out.trans (end_nil hz4)
      clear hz4
      go_wp2_with fail
      exact bodyPost_ret (v := .tuple #[.agg #[.string ta, .string tb, .string tc, .string ⟨#[]⟩, .string tp, .string ⟨#[]⟩], .bool true]) (by simp [results, Tryf.results17, go_sem]) rfl ⟨.inr ⟨ta, tb, tc, ⟨#[]⟩, tp, ⟨#[]⟩, HF.out, rfl⟩, below_drewN ((Below.refl _ _).alloc (Nat.le_refl _) _) _⟩
    have hp4 : 0 < r4.size := by omega
    have he4 := empty_not hp4
    clear hz4
    have hg4z : decide ((0 : Int) < (r4.size : Int)) = true := by simp; omega
    by_cases hx4 : r4[0].toNat = 43
    rotate_left
    · have hb4 : ((r4[0].toNat : Int) == 43) = false := by simp; omega
      have HF : Hid (parse (tl1 (Ls s)) = none) := HP4.out.trans (end_no hp4 hx4)
      clear hx4
      go_wp2_with fail
      exact bodyPost_ret (v := .tuple #[.agg #[.string ta, .string tb, .string tc, .string ⟨#[]⟩, .string tp, .string ⟨#[]⟩], .bool false]) (by simp [results, Tryf.results17, go_sem]) rfl ⟨.inl ⟨HF.out, ta, tb, tc, ⟨#[]⟩, tp, ⟨#[]⟩, rfl⟩, below_drewN ((Below.refl _ _).alloc (Nat.le_refl _) _) _⟩
    have hb4 : ((r4[0].toNat : Int) == 43) = true := by simp; omega
    have HX4 : Hid (r4[0].toNat = 43) := hx4
    clear hx4
    go_wp2_with fail
    refine (parseBld_any r4 _ hr4s hp4 HX4.out).mono ?_
    rintro e w1 ⟨hres, n5, rfl⟩
    rcases hres with ⟨hn, t, r, rfl⟩ | ⟨td, r5, h5, hr5, rfl⟩
    · have HF : Hid (parse (tl1 (Ls s)) = none) := HP4.out.trans (end_none hp4 HX4.out hn)
      clear hn
      go_wp2_with fail
      exact bodyPost_ret (v := .tuple #[.agg #[.string ta, .string tb, .string tc, .string ⟨#[]⟩, .string tp, .string t], .bool false]) (by simp [results, Tryf.results17, go_sem]) rfl ⟨.inl ⟨HF.out, ta, tb, tc, ⟨#[]⟩, tp, t, rfl⟩, below_drewN ((Below.refl _ _).alloc (Nat.le_refl _) _) _⟩
    have HF : Hid (parse (tl1 (Ls s)) = some ⟨Ls ta, Ls tb, Ls tc, [], Ls tp, Ls td⟩) := HP4.out.trans (end_some hp4 HX4.out h5)
    have he5 := empty_yes hr5
    clear h5 hr5
    go_wp2_with fail
    exact bodyPost_ret (v := .tuple #[.agg #[.string ta, .string tb, .string tc, .string ⟨#[]⟩, .string tp, .string td], .bool true]) (by simp [results, Tryf.results17, go_sem]) rfl ⟨.inr ⟨ta, tb, tc, ⟨#[]⟩, tp, td, HF.out, rfl⟩, below_drewN ((Below.refl _ _).alloc (Nat.le_refl _) _) _⟩
  · have HP4 : Hid (parse (tl1 (Ls s)) = pEnd (Ls ta) (Ls tb) (Ls tc) [] (Ls r3)) := HP3.out.trans (tail_plain (fun h hx => hpre ⟨h, hx⟩))
    have hguard : (decide (0 < r3.size) = false ∧ r3.size = 0) ∨ (∃ h : 0 < r3.size, ((r3[0].toNat : Int) == 45) = false) := by
      by_cases h : 0 < r3.size
      · exact .inr ⟨h, by have : r3[0].toNat ≠ 45 := fun hx => hpre ⟨h, hx⟩; simp; omega⟩
      · exact .inl ⟨by simpa using h, by omega⟩
    clear hpre HP3
    rcases hguard with ⟨hg, hz⟩ | ⟨hp3, hg⟩
    · have HF : Hid (parse (tl1 (Ls s)) = some ⟨Ls ta, Ls tb, Ls tc, [], [], []⟩) := HP4.out.trans (end_nil hz)
      have he3 := empty_yes hz
      clear hz
      go_wp2_with fail
      exact bodyPost_ret (v := .tuple #[.agg #[.string ta, .string tb, .string tc, .string ⟨#[]⟩, .string ⟨#[]⟩, .string ⟨#[]⟩], .bool true]) (by simp [results, Tryf.results17, go_sem]) rfl ⟨.inr ⟨ta, tb, tc, ⟨#[]⟩, ⟨#[]⟩, ⟨#[]⟩, HF.out, rfl⟩, below_drewN ((Below.refl _ _).alloc (Nat.le_refl _) _) _⟩
    · have he3 := empty_not hp3
      have hg4z : decide ((0 : Int) < (r3.size : Int)) = true := by simp; omega
      by_cases hx4 : r3[0].toNat = 43
      rotate_left
      · have hb4 : ((r3[0].toNat : Int) == 43) = false := by simp; omega
        have HF : Hid (parse (tl1 (Ls s)) = none) := HP4.out.trans (end_no hp3 hx4)
        clear hx4
        go_wp2_with fail
        exact bodyPost_ret (v := .tuple #[.agg #[.string ta, .string tb, .string tc, .string ⟨#[]⟩, .string ⟨#[]⟩, .string ⟨#[]⟩], .bool false]) (by simp [results, Tryf.results17, go_sem]) rfl ⟨.inl ⟨HF.out, ta, tb, tc, ⟨#[]⟩, ⟨#[]⟩, ⟨#[]⟩, rfl⟩, below_drewN ((Below.refl _ _).alloc (Nat.le_refl _) _) _⟩
      have hb4 : ((r3[0].toNat : Int) == 43) = true := by simp; omega
      have HX4 : Hid (r3[0].toNat = 43) := hx4
      clear hx4
      go_wp2_with fail
      refine (parseBld_any r3 _ hr3s hp3 HX4.out).mono ?_
      rintro e w1 ⟨hres, n5, rfl⟩
      rcases hres with ⟨hn, t, r, rfl⟩ | ⟨td, r5, h5, hr5, rfl⟩
      · have HF : Hid (parse (tl1 (Ls s)) = none) := HP4.out.trans (end_none hp3 HX4.out hn)
        clear hn
        go_wp2_with fail
        exact bodyPost_ret (v := .tuple #[.agg #[.string ta, .string tb, .string tc, .string ⟨#[]⟩, .string ⟨#[]⟩, .string t], .bool false]) (by simp [results, Tryf.results17, go_sem]) rfl ⟨.inl ⟨HF.out, ta, tb, tc, ⟨#[]⟩, ⟨#[]⟩, t, rfl⟩, below_drewN ((Below.refl _ _).alloc (Nat.le_refl _) _) _⟩
      have HF : Hid (parse (tl1 (Ls s)) = some ⟨Ls ta, Ls tb, Ls tc, [], [], Ls td⟩) := HP4.out.trans (end_some hp3 HX4.out h5)
      have he5 := empty_yes hr5
      clear h5 hr5
      go_wp2_with fail
      exact bodyPost_ret (v := .tuple #[.agg #[.string ta, .string tb, .string tc, .string ⟨#[]⟩, .string ⟨#[]⟩, .string td], .bool true]) (by simp [results, Tryf.results17, go_sem]) rfl ⟨.inr ⟨ta, tb, tc, ⟨#[]⟩, ⟨#[]⟩, td, HF.out, rfl⟩, below_drewN ((Below.refl _ _).alloc (Nat.le_refl _) _) _⟩
end Go.Proofs.Qxb6608811aFmt.Parse
