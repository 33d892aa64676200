/-
  'Rows.FnInfoAtAnyCutSaid': the frame after the guide's frames, turned to a string, a slice of structs and an integer.
-/
import Derived.Test.Qxb6613588aRows
import Derived.WalkKit
import Derived.ProofKit
import Derived.OpenShut
import Derived.ShutString
import Derived.ChangeOld
import Derived.Below
import Derived.Test.Qxb6613588aOpen
import Derived.Test.Qxb6613588aZero
import Derived.Test.Qxb6613588aClosed
namespace Go.Proofs.Qxb6613588a.fnInfoAtAnyCut
open Go.ChangeShapes Go.WideShapes Go.ChangeAt Go.RowKit
open Go.ChangeMaps (open_string shut_string)
set_option linter.unusedVariables false

theorem own : ownKnob Try.prog.godebug = none := by kernel_rfl
theorem laidOut : laidOutB Try.prog = true := by kernel_rfl

theorem walk (s0 : ByteArray) (a1 : Option Addr) (len1 cap1 : Nat) (a2 : Int) (w : World) (w0 : s0.size ≤ maxLen) (w1 : len1 ≤ maxLen ∧ (0 < len1 → ∃ (S : Base.Specs) (b o : Nat), a1 = some ⟨b, o, none⟩ ∧ b < w.heap.size ∧ ∀ i, i < len1 → Base.Decl S w b o i)) :
    Calls Try.prog 7 #[.string s0, .slice a1 len1 cap1, .int .i64 a2] w fun e w' => e = .returned (.bool true) ∧ Below w.heap.size w w' := by
  by_cases h0 : 0 < len1
  · obtain ⟨S, b, o, rfl, hb, hS⟩ := w1.2 h0
    exact Main.main_pos S s0 b o len1 cap1 a2 w h0 w1.1 w0 hb hS
  · obtain rfl : len1 = 0 := by omega
    exact Zero.main_zero s0 a1 cap1 a2 w w0

set_option maxRecDepth 100000 in
theorem lifted (os : Os) (started : os.Started) (H : Type) (enc : TypeId × Value → H) :
    ReturnsInHanded {} Try.checked os 7 .any (Rows.fnInfoAtAnyCutSpec.pre6 enc Try.prog Try.f7 Rows.fnInfoAtAnyCutRow.domain false) (Rows.fnInfoAtAnyCutSpec.post enc Try.prog Try.f7 false true false false) := by
  refine returnsInHanded_of_change (C := Try.checked) own started (by kernel_rfl) Try.func7
    (ChangeSpec.witness6 (enc := enc) (C := Try.checked) false ⟨#[], #[.string ⟨#[]⟩, .slice none 0 0, .int .i64 0], []⟩ 8 (by kernel_rfl) (by kernel_rfl) (by kernel_rfl) (by kernel_rfl)) ?_
  intro W base args ds gs before hval0 hW hcnd _
  have hval : ∀ (j : Nat) t v, Try.f7.params[j]? = some t → args[j]? = some v → Value.okWide Try.prog W .any base t v := hval0
  have hW' := hW
  obtain ⟨p, q, hA0, hV, rfl, hfz, hnd⟩ := hW
  have hA : DataW.TrodAll enc Try.prog W 0 (fun _ => true) true Try.f7.params.toList args.toList ds p := hA0
  rw [Try.params7] at hA hval
  obtain ⟨v0, vs0, d0, ds0, p0, q0, hargs, rfl, rfl, h0, r0⟩ := trodAll_cons hA
  obtain ⟨v1, vs1, d1, ds1, p1, q1, rfl, rfl, rfl, h1, r1⟩ := trodAll_cons r0
  obtain ⟨v2, vs2, d2, ds2, p2, q2, rfl, rfl, rfl, h2, r2⟩ := trodAll_cons r1
  obtain ⟨rfl, rfl, rfl⟩ := trodAll_nil r2
  obtain rfl : args = #[v0, v1, v2] := by cases args; simp_all
  obtain ⟨rfl, rfl⟩ := trodVars_none hV
  obtain ⟨s0, rfl, rfl, rfl, w0⟩ := open_string Try.underlying9 (hval 0 9 v0 rfl rfl) h0
  obtain ⟨a1, len1, cap1, rfl⟩ := okWide_slice Try.underlying24 (hval 1 24 v1 rfl rfl)
  have k1 := h1
  have lt1 : ∀ x ∈ p1, x.block < W.heap.size := by obtain ⟨m, hm⟩ := k1; exact DataW.trod_lt m _ _ _ hm
  have w1 : len1 ≤ maxLen ∧ (0 < len1 → ∃ (S : Base.Specs) (b o : Nat), a1 = some ⟨b, o, none⟩ ∧ b < W.heap.size ∧ ∀ i, i < len1 → Base.Decl S W b o i) := by
    obtain ⟨fuel, hf⟩ := h1
    exact Open.specs_row hf
  obtain ⟨a2, rfl, rfl, rfl, w2⟩ := open_int Try.underlying3 (hval 2 3 v2 rfl rfl) h2
  clear hA0 hval0
  refine (walk s0 a1 len1 cap1 a2 W w0 w1).mono fun e W' ⟨he, bel⟩ => ?_
  subst he
  exact ⟨_, rfl, _, _, _, [], _, [], hW', trodAll_mk1 (shut_bool Try.underlying4 _), (trodAll_cons_mk (shut_string Try.underlying9 w0) (trodAll_cons_mk (Below.trod laidOut (by kernel_rfl) (of_decide_eq_true (by kernel_rfl)) k1 bel lt1) (trodAll_cons_mk (shut_int Try.underlying3 w2) trodAll_mk0))), rfl, bel.frame _, fun h => by cases h⟩

theorem over : Rows.fnInfoAtAnyCutRow.holds Try.pinned (OpenSpec.ofChange Rows.fnInfoAtAnyCutSpec) :=
  OpenClaim.holds_of_wide 7 Try.f7 rfl rfl rfl rfl rfl rfl rfl ⟨rfl, rfl, rfl, rfl, rfl⟩ rfl rfl rfl rfl rfl (by kernel_rfl) Try.func7 Closed.closed
    (of_decide_eq_true (by kernel_rfl)) (by unfold Func.isWrapper; first | (rw [if_pos (by decide +kernel)]; kernel_rfl) | (rw [if_neg (by decide +kernel)]; exact ⟨rfl, rfl⟩))
    (fun os started H enc _ => lifted os started H enc)

/-- ████ THE STATEMENT ████ -/
theorem proved : Rows.FnInfoAtAnyCutSaid := over
#print axioms proved
end Go.Proofs.Qxb6613588a.fnInfoAtAnyCut
