/-
  'Rows.FnReleaseMadeIsFreeOfTheOrderVersionsWereMadeSaid': the frame after the guide's frames, turned to three slices of int32s, an int32, a slice of strings and a slice of int32s.
-/
import Derived.Test.Qxb6613555aRows
import Derived.WalkKit
import Derived.ProofKit
import Derived.OpenShut
import Derived.ShutString
import Derived.ChangeOld
import Derived.Below
import Derived.Test.Qxb6613555aOpen
import Derived.Test.Qxb6613555aMain8
import Derived.Test.Qxb6613555aClosed8
namespace Go.Proofs.Qxb6613555a.fnReleaseMadeIsFreeOfTheOrderVersionsWereMade
open Go.ChangeShapes Go.WideShapes Go.ChangeAt Go.RowKit
set_option linter.unusedVariables false

theorem own : ownKnob Try.prog.godebug = none := by kernel_rfl
theorem laidOut : laidOutB Try.prog = true := by kernel_rfl

set_option maxRecDepth 100000 in
theorem lifted (os : Os) (started : os.Started) (H : Type) (enc : TypeId × Value → H) :
    ReturnsInHanded {} Try.checked os 8 .any (Rows.fnReleaseMadeIsFreeOfTheOrderVersionsWereMadeSpec.pre6 enc Try.prog Try.f8 Rows.fnReleaseMadeIsFreeOfTheOrderVersionsWereMadeRow.domain false) (Rows.fnReleaseMadeIsFreeOfTheOrderVersionsWereMadeSpec.post enc Try.prog Try.f8 false true false false) := by
  refine returnsInHanded_of_change (C := Try.checked) own started (by kernel_rfl) Try.func8
    (ChangeSpec.witness6 (enc := enc) (C := Try.checked) false ⟨#[], #[.slice none 0 0, .slice none 0 0, .slice none 0 0, .int .i32 0, .slice none 0 0, .slice none 0 0], []⟩ 8 (by kernel_rfl) (by kernel_rfl) (by kernel_rfl) (by kernel_rfl)) ?_
  intro W base args ds gs before hval0 hW hcnd _
  have hval : ∀ (j : Nat) t v, Try.f8.params[j]? = some t → args[j]? = some v → Value.okWide Try.prog W .any base t v := hval0
  have hW' := hW
  obtain ⟨p, q, hA0, hV, rfl, hfz, hnd⟩ := hW
  have hA : DataW.TrodAll enc Try.prog W 0 (fun _ => true) true Try.f8.params.toList args.toList ds p := hA0
  rw [Try.params8] at hA hval
  obtain ⟨v0, vs0, d0, ds0, p0, q0, hargs, rfl, rfl, h0, r0⟩ := trodAll_cons hA
  obtain ⟨v1, vs1, d1, ds1, p1, q1, rfl, rfl, rfl, h1, r1⟩ := trodAll_cons r0
  obtain ⟨v2, vs2, d2, ds2, p2, q2, rfl, rfl, rfl, h2, r2⟩ := trodAll_cons r1
  obtain ⟨v3, vs3, d3, ds3, p3, q3, rfl, rfl, rfl, h3, r3⟩ := trodAll_cons r2
  obtain ⟨v4, vs4, d4, ds4, p4, q4, rfl, rfl, rfl, h4, r4⟩ := trodAll_cons r3
  obtain ⟨v5, vs5, d5, ds5, p5, q5, rfl, rfl, rfl, h5, r5⟩ := trodAll_cons r4
  obtain ⟨rfl, rfl, rfl⟩ := trodAll_nil r5
  obtain rfl : args = #[v0, v1, v2, v3, v4, v5] := by cases args; simp_all
  obtain ⟨rfl, rfl⟩ := trodVars_none hV
  obtain ⟨a0, len0, cap0, rfl⟩ := okWide_slice Try.underlying46 (hval 0 46 v0 rfl rfl)
  obtain ⟨a1, len1, cap1, rfl⟩ := okWide_slice Try.underlying46 (hval 1 46 v1 rfl rfl)
  obtain ⟨a2, len2, cap2, rfl⟩ := okWide_slice Try.underlying46 (hval 2 46 v2 rfl rfl)
  obtain ⟨a4, len4, cap4, rfl⟩ := okWide_slice Try.underlying52 (hval 4 52 v4 rfl rfl)
  obtain ⟨a5, len5, cap5, rfl⟩ := okWide_slice Try.underlying46 (hval 5 46 v5 rfl rfl)
  have k0 := h0
  have k1 := h1
  have k2 := h2
  have k4 := h4
  have k5 := h5
  have lt0 : ∀ x ∈ p0, x.block < W.heap.size := by obtain ⟨m, hm⟩ := k0; exact DataW.trod_lt m _ _ _ hm
  have lt1 : ∀ x ∈ p1, x.block < W.heap.size := by obtain ⟨m, hm⟩ := k1; exact DataW.trod_lt m _ _ _ hm
  have lt2 : ∀ x ∈ p2, x.block < W.heap.size := by obtain ⟨m, hm⟩ := k2; exact DataW.trod_lt m _ _ _ hm
  have lt4 : ∀ x ∈ p4, x.block < W.heap.size := by obtain ⟨m, hm⟩ := k4; exact DataW.trod_lt m _ _ _ hm
  have lt5 : ∀ x ∈ p5, x.block < W.heap.size := by obtain ⟨m, hm⟩ := k5; exact DataW.trod_lt m _ _ _ hm
  obtain ⟨z0, f0, w0⟩ : len0 ≤ maxLen ∧ ∃ f, Base.IRow W a0 len0 f := by obtain ⟨fuel, hf⟩ := h0; exact Open.ints_row hf
  obtain ⟨z1, f1, w1⟩ : len1 ≤ maxLen ∧ ∃ f, Base.IRow W a1 len1 f := by obtain ⟨fuel, hf⟩ := h1; exact Open.ints_row hf
  obtain ⟨z2, f2, w2⟩ : len2 ≤ maxLen ∧ ∃ f, Base.IRow W a2 len2 f := by obtain ⟨fuel, hf⟩ := h2; exact Open.ints_row hf
  obtain ⟨z4, f4, w4⟩ : len4 ≤ maxLen ∧ ∃ f, Base.SRow W a4 len4 f := by obtain ⟨fuel, hf⟩ := h4; exact Open.strs_row hf
  obtain ⟨z5, f5, w5⟩ : len5 ≤ maxLen ∧ ∃ f, Base.IRow W a5 len5 f := by obtain ⟨fuel, hf⟩ := h5; exact Open.ints_row hf
  obtain ⟨n3, rfl, rfl, rfl, w3⟩ := open_int Try.underlying21 (hval 3 21 v3 rfl rfl) h3
  clear hA0 hval0
  refine (Main.main8 a0 a1 a2 a5 a4 len0 len1 len2 len5 len4 cap0 cap1 cap2 cap5 cap4 n3 f0 f1 f2 f5 f4 W z0 z1 z2 z5 z4 (Open.wf_i32 w3) w0 w1 w2 w4 w5).mono fun e W' ⟨he, bel⟩ => ?_
  subst he
  exact ⟨_, rfl, _, _, _, [], _, [], hW', trodAll_mk1 (shut_bool Try.underlying4 _), (trodAll_cons_mk (Below.trod laidOut (by kernel_rfl) (of_decide_eq_true (by kernel_rfl)) k0 bel lt0) (trodAll_cons_mk (Below.trod laidOut (by kernel_rfl) (of_decide_eq_true (by kernel_rfl)) k1 bel lt1) (trodAll_cons_mk (Below.trod laidOut (by kernel_rfl) (of_decide_eq_true (by kernel_rfl)) k2 bel lt2) (trodAll_cons_mk (shut_int Try.underlying21 w3) (trodAll_cons_mk (Below.trod laidOut (by kernel_rfl) (of_decide_eq_true (by kernel_rfl)) k4 bel lt4) (trodAll_cons_mk (Below.trod laidOut (by kernel_rfl) (of_decide_eq_true (by kernel_rfl)) k5 bel lt5) trodAll_mk0)))))), rfl, bel.frame _, fun h => by cases h⟩

theorem over : Rows.fnReleaseMadeIsFreeOfTheOrderVersionsWereMadeRow.holds Try.pinned (OpenSpec.ofChange Rows.fnReleaseMadeIsFreeOfTheOrderVersionsWereMadeSpec) :=
  OpenClaim.holds_of_wide 8 Try.f8 rfl rfl rfl rfl rfl rfl rfl ⟨rfl, rfl, rfl, rfl, rfl⟩ rfl rfl rfl rfl rfl (by kernel_rfl) Try.func8 Closed8.closed
    (of_decide_eq_true (by kernel_rfl)) (by unfold Func.isWrapper; first | (rw [if_pos (by decide +kernel)]; kernel_rfl) | (rw [if_neg (by decide +kernel)]; exact ⟨rfl, rfl⟩))
    (fun os started H enc _ => lifted os started H enc)

/-- ████ THE STATEMENT ████ -/
theorem proved : Rows.FnReleaseMadeIsFreeOfTheOrderVersionsWereMadeSaid := over
#print axioms proved
end Go.Proofs.Qxb6613555a.fnReleaseMadeIsFreeOfTheOrderVersionsWereMade
