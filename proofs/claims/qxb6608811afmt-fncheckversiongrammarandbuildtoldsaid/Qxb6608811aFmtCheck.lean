import Derived.Test.Qxb6608811aFmtErr
namespace Go.Proofs.Qxb6608811aFmt.CheckV
open Go.ChangeShapes Go.WideShapes Go.ChangeAt Go.RowKit Qx11 Leaf PInt PPre Parse Callers Compare Err
open Go.Extern.Stop Go.Stop Go.Extern

/-- what CheckVersion hands back -/
def COk (l : Bs) (e : Ending) : Prop :=
  ((cv l).1 = true ∧ e = .returned (.tuple #[.bool (cv l).2, .nilIface])) ∨ (cv l = (false, false) ∧ ∃ a, e = .returned (.tuple #[.bool false, .iface 45 (.pointer (some a))]))

set_option maxRecDepth 100000 in
set_option maxHeartbeats 4000000 in
theorem check_any (F : Interp) (s : ByteArray) (w : World) (hF : F.answers w.tape) (hs : s.size < 2097100) :
    Calls Tryf.prog 6 #[.string s] w fun e w' => COk (Ls s) e ∧ Below w.heap.size w w' := by
  have hsum : ¬ 9223372036854775807 < 1 + s.size := by omega
  have HF : Hid (F.answers w.tape) := hF
  clear hF
  go_enter Tryf.func6, Tryf.ntmps6
  go_wp2_with fail
  obtain ⟨v, hv⟩ : ∃ v : ByteArray, v = (⟨#[118]⟩ : ByteArray) ++ s := ⟨_, rfl⟩
  have hL : Ls v = 118 :: Ls s := by rw [hv, Ls_append]; rfl
  have hvs : v.size = s.size + 1 := by rw [← Ls_len, hL, List.length_cons, Ls_len]
  have hvp : 0 < v.size := by omega
  have hx : v[0].toNat = 118 := by
    have h := Ls_cons hvp
    rw [hL] at h
    simp only [List.cons.injEq] at h
    rw [← h.1]; rfl
  have ht : tl1 (Ls v) = Ls s := by rw [hL]; rfl
  rw [← hv]
  have HL : Hid (Ls v = 118 :: Ls s) := hL
  have HX : Hid (v[0].toNat = 118) := hx
  have HT : Hid (tl1 (Ls v) = Ls s) := ht
  have hvz : v.size < 2097152 := by omega
  clear hv hL hx ht hvs
  refine (canon_any v _ hvz hvp HX.out).mono ?_
  rintro e w1 ⟨⟨r1, rfl, hr1, hr1s⟩, hb1⟩
  have HB1 : Hid (Below w.heap.size w w1) := hb1
  have HR1 : Hid (Ls r1 = canonL (Ls s)) := by rw [HT.out] at hr1; exact hr1
  clear hr1 hb1
  go_wp2_with fail
  refine (build_any v _ hvz hvp HX.out).mono ?_
  rintro e w2 ⟨⟨r2, rfl, hr2, hr2s⟩, hb2⟩
  have HB2 : Hid (Below w.heap.size w w2) := HB1.out.trans (hb2.mono HB1.out.size)
  have HR2 : Hid (Ls r2 = bldL (Ls s)) := by rw [HT.out] at hr2; exact hr2
  clear hr2 hb2 HB1
  have hsum2 : ¬ 9223372036854775807 < r1.size + r2.size := by omega
  have hw2 : w.heap.size ≤ w2.heap.size := HB2.out.size
  have HT2 : Hid (w2.tape = w.tape) := HB2.out.tape
  have HEQ : Hid ((r1 ++ r2).toList = canonL (Ls s) ++ bldL (Ls s)) := by show _ = _; rw [tl, Ls_append, HR1.out, HR2.out]
  have HVT : Hid (v.toList = 118 :: Ls s) := by show _ = _; rw [tl, HL.out]
  clear HR1 HR2
  have HE1 : Hid (∀ o, Calls Tryf.prog 12 #[.string fm1, .slice (some ⟨w2.heap.size, 0, none⟩) 1 1] (w2.alloc (.cells #[.iface 9 (.string s)] o)) fun e w' => (∃ a, e = .returned (.iface 45 (.pointer (some a)))) ∧ Below w.heap.size w w') := by
    intro o
    refine (errorf1 F s w2.heap.size _ (by show F.answers w2.tape; rw [HT2.out]; exact HF.out) (by simp)).mono ?_
    rintro e w' ⟨ha, hb⟩
    exact ⟨ha, (HB2.out.alloc hw2 _).trans (hb.mono (by simp; omega))⟩
  by_cases hfull : ∃ p, parse (Ls s) = some p ∧ p.short = []
  rotate_left
  · have hne : canonL (Ls s) ++ bldL (Ls s) ≠ 118 :: Ls s := by
      cases hp : parse (Ls s) with
      | none => exact canon_none hp
      | some p => exact canon_short hp (fun h => hfull ⟨p, hp, h⟩)
    have HCV : Hid (cv (Ls s) = (false, false)) := by
      show cv (Ls s) = _
      unfold cv
      cases hp : parse (Ls s) with
      | none => rfl
      | some p => simp only; rw [if_neg (fun h => hfull ⟨p, hp, h⟩)]
    have hb : (!(r1 ++ r2).toList == v.toList) = true := by rw [HEQ.out, HVT.out]; simpa using hne
    clear hne hfull
    unfold fm1 at HE1
    go_wp2_with fail
    refine (HE1.out _).mono ?_
    rintro e w3 ⟨⟨a, rfl⟩, hb3⟩
    have HB3 : Hid (Below w.heap.size w w3) := hb3
    clear hb3
    go_wp2_with fail
    go_ret2
    exact ⟨.inr ⟨HCV.out, a, rfl⟩, HB3.out⟩
  obtain ⟨p, hp, hps⟩ := hfull
  have hb : (!(r1 ++ r2).toList == v.toList) = false := by rw [HEQ.out, HVT.out, canon_full hp hps]; simp
  have HP : Hid (parse (tl1 (Ls v)) = some p) := by rw [HT.out]; exact hp
  have HCV : Hid (cv (Ls s) = if p.maj = [49] then (true, newer p.min p.pat) else (false, false)) := by
    show cv (Ls s) = _
    unfold cv; rw [hp]; simp only; rw [if_pos hps]
  have HN : Hid (∀ n, n = cmp p.min p.pat p.pre → decide (0 < n) = newer p.min p.pat) := by
    rintro n rfl
    rcases parse_facts hp with ⟨_, ha⟩ | ⟨h, _⟩
    · exact cmp_newer p.pre ha.nb ha.nc
    · exact absurd hps h
  clear hp hps HE1
  go_wp2_with fail
  refine (major_any v p _ hvz hvp HX.out HP.out).mono ?_
  rintro e w3 ⟨⟨r3, rfl, hr3⟩, hb3⟩
  have HB3 : Hid (Below w.heap.size w w3) := HB2.out.trans (hb3.mono hw2)
  have hw3 : w.heap.size ≤ w3.heap.size := HB3.out.size
  have HT3 : Hid (w3.tape = w.tape) := HB3.out.tape
  have HR3 : Hid (r3.toList = 118 :: p.maj) := by show _ = _; rw [tl, hr3]
  clear hr3 hb3 HB2
  by_cases hm : p.maj = [49]
  rotate_left
  · have hbm : (!r3.toList == [118, 49]) = true := by rw [HR3.out]; simpa using hm
    have HC : Hid (cv (Ls s) = (false, false)) := by show _ = _; rw [HCV.out, if_neg hm]
    have HE2 : Hid (∀ o, Calls Tryf.prog 12 #[.string fm2, .slice (some ⟨w3.heap.size, 0, none⟩) 1 1] (w3.alloc (.cells #[.iface 9 (.string s)] o)) fun e w' => (∃ a, e = .returned (.iface 45 (.pointer (some a)))) ∧ Below w.heap.size w w') := by
      intro o
      refine (errorf2 F s w3.heap.size _ (by show F.answers w3.tape; rw [HT3.out]; exact HF.out) (by simp)).mono ?_
      rintro e w' ⟨ha, hb⟩
      exact ⟨ha, (HB3.out.alloc hw3 _).trans (hb.mono (by simp; omega))⟩
    unfold fm2 at HE2
    clear hm
    go_wp2_with fail
    refine (HE2.out _).mono ?_
    rintro e w4 ⟨⟨a, rfl⟩, hb4⟩
    have HB4 : Hid (Below w.heap.size w w4) := hb4
    clear hb4
    go_wp2_with fail
    go_ret2
    exact ⟨.inr ⟨HC.out, a, rfl⟩, HB4.out⟩
  have hbm : (!r3.toList == [118, 49]) = false := by rw [HR3.out, hm]; rfl
  have HC : Hid (cv (Ls s) = (true, newer p.min p.pat)) := by show _ = _; rw [HCV.out, if_pos hm]
  have HM : Hid (p.maj = [49]) := hm
  clear hm
  go_wp2_with fail
  refine (compare_any v p _ hvz hvp HX.out HP.out HM.out).mono ?_
  rintro e w4 ⟨⟨n, rfl, hn⟩, hb4⟩
  have HB4 : Hid (Below w.heap.size w w4) := HB3.out.trans (hb4.mono hw3)
  have HNN : Hid (decide (0 < n) = newer p.min p.pat) := HN.out n hn
  clear hb4 hn
  go_wp2_with fail
  go_ret2
  refine ⟨.inl ⟨by rw [HC.out], ?_⟩, HB4.out⟩
  rw [HC.out, ← HNN.out]
  rfl
end Go.Proofs.Qxb6608811aFmt.CheckV
