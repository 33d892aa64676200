/-
  'Rows.FnLowSurrogateAtSpelledUnitIgnoresCaseAndTailSaid': the guide's frame (written by program), its hole filled.
-/
import Derived.Test.Qxb6608652aRows
import Derived.WalkKit
import Derived.ProofKit
import Derived.OpenShut
import Derived.ShutString
import Derived.ChangeOld
import Derived.Below
import Derived.Test.Qxb6608652aSpelled
namespace Go.Proofs.Qxb6608652a.fnLowSurrogateAtSpelledUnitIgnoresCaseAndTail
open Go.ChangeShapes Go.WideShapes Go.ChangeAt Go.RowKit
open Go.ChangeMaps (open_string shut_string)
set_option linter.unusedVariables false

theorem own : ownKnob Try.prog.godebug = none := by kernel_rfl
theorem laidOut : laidOutB Try.prog = true := by kernel_rfl

/-- WHAT THE WALK IS TOLD OF A SLICE OF INTEGERS THAT CAME IN: it is nil; or it leads to a row of 'cap' cells, the numbers 'zs' (the first 'len' are its elements, the rest its spare room), each fitting its kind. -/
def IsRow (k : IntKind) (w : World) (a : Option Addr) (len cap : Nat) (zs : List Int) : Prop :=
  (a = none ∧ len = 0 ∧ cap = 0 ∧ zs = []) ∨
  ∃ x, a = some x ∧ len ≤ cap ∧ cap ≤ maxLen ∧ zs.length = cap ∧ (∀ i, i < zs.length → w.cell? (x.add i) = some (.int k (zs.getD i 0))) ∧ ∀ n ∈ zs, (Lit.int k n).wf = true

theorem take_cells {w : World} {x : Addr} {len cap : Nat} {z : List Int} (hlc : len ≤ cap) (hzl : z.length = cap) (hcell : ∀ i, i < z.length → w.cell? (x.add i) = some (.int .u8 (z.getD i 0))) :
    ∀ j v, ((z.take len).map (Value.int .u8))[j]? = some v → w.cell? (x.add j) = some v := by
  intro j v hv
  have hj : j < len := by have := (List.getElem?_eq_some_iff.1 hv).1; simp at this; omega
  rw [hcell j (by omega), ← hv]
  simp [hj, show j < z.length from by omega]

/-! ### STEP 1: THE WALK: the Go text returns true, AND WRITES NOTHING THAT WAS THERE: 'Below w.heap.size w w'' (Derived/Below.lean: '.refl', '.alloc', '.drew', '.setCell' at a new block, '.trans'). Open each 'IsRow' by 'rcases' AHEAD of 'go_enter'; part every test ahead of the walk. -/
theorem walk (a0 : Option Addr) (len0 cap0 : Nat) (z0 : List Int) (a1 : Option Addr) (len1 cap1 : Nat) (z1 : List Int) (w : World) (w0 : IsRow .u8 w a0 len0 cap0 z0) (w1 : IsRow .u8 w a1 len1 cap1 z1) :
    Calls Try.prog 5 #[.slice a0 len0 cap0, .slice a1 len1 cap1] w fun e w' => e = .returned (.bool true) ∧ Below w.heap.size w w' := by
  have row_le : ∀ {a : Option Addr} {l c : Nat} {z : List Int}, IsRow .u8 w a l c z → l ≤ maxLen := by
    intro a l c z h
    rcases h with ⟨_, rfl, _, _⟩ | ⟨_, _, h1, h2, _⟩
    · omega
    · omega
  by_cases hn2 : 1048576 < len0 + len1
  · exact Spelled.long a0 a1 len0 cap0 len1 cap1 w (row_le w0) (row_le w1) hn2
  · rcases w0 with ⟨rfl, rfl, rfl, rfl⟩ | ⟨x, rfl, hlc, hcm, hzl, hcell, hwz⟩
    · exact Spelled.short_nil a1 len1 cap1 w (by omega)
    · by_cases hn : len0 < 6
      · refine Spelled.short ((z0.take len0).map (Value.int .u8)) x len0 cap0 a1 len1 cap1 w hn (by omega) (by simp; omega) (ints_oneCell _ _) ?_
        exact take_cells hlc hzl hcell
      · obtain ⟨b, off, spot⟩ := x
        have hspot : spot = none := by simpa [Addr.add] using World.cell?_spot (hcell 0 (by omega))
        subst hspot
        have hc : ∀ j, j < z0.length → w.cell? ⟨b, off + j, none⟩ = some (.int .u8 (z0.getD j 0)) := fun j hj => by rw [← add_plain]; exact hcell j hj
        have hz : ∀ i, 0 ≤ z0.getD i 0 ∧ z0.getD i 0 ≤ 255 := by
          intro i
          by_cases hi : i < z0.length
          · have : z0.getD i 0 ∈ z0 := by rw [List.getD_eq_getElem?_getD, List.getElem?_eq_getElem hi]; exact List.getElem_mem hi
            exact bounds_u8 (hwz _ this)
          · rw [List.getD_eq_getElem?_getD, List.getElem?_eq_none (by omega)]; simp
        rcases w1 with ⟨rfl, rfl, rfl, rfl⟩ | ⟨y, rfl, hlc1, hcm1, hzl1, hcell1, hwz1⟩
        · exact Spelled.main z0 b off len0 cap0 none 0 0 [] w (by omega) (by omega) hlc hcm hzl hz hc rfl (fun _ => ⟨rfl, rfl⟩) (by simp) (by simp)
        · exact Spelled.main z0 b off len0 cap0 (some y) len1 cap1 ((z1.take len1).map (Value.int .u8)) w (by omega) (by omega) hlc hcm hzl hz hc (by simp; omega) (fun h => by cases h) (ints_oneCell _ _) (fun ad h => by cases h; exact take_cells hlc1 hzl1 hcell1)

/-! ### THE ROW's STEP: WRITTEN OUT: LEAVE IT -/
set_option maxRecDepth 100000 in
theorem lifted (os : Os) (started : os.Started) (H : Type) (enc : TypeId × Value → H) :
    ReturnsInHanded {} Try.checked os 5 .any (Rows.fnLowSurrogateAtSpelledUnitIgnoresCaseAndTailSpec.pre6 enc Try.prog Try.f5 Rows.fnLowSurrogateAtSpelledUnitIgnoresCaseAndTailRow.domain false) (Rows.fnLowSurrogateAtSpelledUnitIgnoresCaseAndTailSpec.post enc Try.prog Try.f5 false true false false) := by
  refine returnsInHanded_of_change (C := Try.checked) own started (by kernel_rfl) Try.func5
    (ChangeSpec.witness6 (enc := enc) (C := Try.checked) false ⟨#[], #[.slice none 0 0, .slice none 0 0], []⟩ 8 (by kernel_rfl) (by kernel_rfl) (by kernel_rfl) (by kernel_rfl)) ?_
  intro W base args ds gs before hval0 hW hcnd _
  have hval : ∀ (j : Nat) t v, Try.f5.params[j]? = some t → args[j]? = some v → Value.okWide Try.prog W .any base t v := hval0
  have hW' := hW
  obtain ⟨p, q, hA0, hV, rfl, hfz, hnd⟩ := hW
  have hA : DataW.TrodAll enc Try.prog W 0 (fun _ => true) true Try.f5.params.toList args.toList ds p := hA0
  rw [Try.params5] at hA hval
  obtain ⟨v0, vs0, d0, ds0, p0, q0, hargs, rfl, rfl, h0, r0⟩ := trodAll_cons hA
  obtain ⟨v1, vs1, d1, ds1, p1, q1, rfl, rfl, rfl, h1, r1⟩ := trodAll_cons r0
  obtain ⟨rfl, rfl, rfl⟩ := trodAll_nil r1
  obtain rfl : args = #[v0, v1] := by cases args; simp_all
  obtain ⟨rfl, rfl⟩ := trodVars_none hV
  obtain ⟨a0, len0, cap0, rfl⟩ := okWide_slice Try.underlying22 (hval 0 22 v0 rfl rfl)
  have k0 := h0
  have lt0 : ∀ x ∈ p0, x.block < W.heap.size := by obtain ⟨m, hm⟩ := k0; exact DataW.trod_lt m _ _ _ hm
  obtain ⟨z0, w0⟩ : ∃ zs, IsRow .u8 W a0 len0 cap0 zs := by
    obtain ⟨fuel, hf⟩ := h0
    rcases open_ints Try.underlying22 Try.underlying5 (by kernel_rfl) hf with ⟨hcs, _⟩ | ⟨x, l, c, zs, hcs, _, hl, hm, hz, _, hcell, hwz⟩
    · simp [Value.cells] at hcs
      obtain ⟨rfl, rfl, rfl⟩ := hcs
      exact ⟨[], .inl ⟨rfl, rfl, rfl, rfl⟩⟩
    · simp [Value.cells] at hcs
      obtain ⟨rfl, rfl, rfl⟩ := hcs
      exact ⟨zs, .inr ⟨_, rfl, hl, hm, by simpa using hz, hcell, hwz⟩⟩
  obtain ⟨a1, len1, cap1, rfl⟩ := okWide_slice Try.underlying22 (hval 1 22 v1 rfl rfl)
  have k1 := h1
  have lt1 : ∀ x ∈ p1, x.block < W.heap.size := by obtain ⟨m, hm⟩ := k1; exact DataW.trod_lt m _ _ _ hm
  obtain ⟨z1, w1⟩ : ∃ zs, IsRow .u8 W a1 len1 cap1 zs := by
    obtain ⟨fuel, hf⟩ := h1
    rcases open_ints Try.underlying22 Try.underlying5 (by kernel_rfl) hf with ⟨hcs, _⟩ | ⟨x, l, c, zs, hcs, _, hl, hm, hz, _, hcell, hwz⟩
    · simp [Value.cells] at hcs
      obtain ⟨rfl, rfl, rfl⟩ := hcs
      exact ⟨[], .inl ⟨rfl, rfl, rfl, rfl⟩⟩
    · simp [Value.cells] at hcs
      obtain ⟨rfl, rfl, rfl⟩ := hcs
      exact ⟨zs, .inr ⟨_, rfl, hl, hm, by simpa using hz, hcell, hwz⟩⟩
  clear hA0 hval0
  refine (walk a0 len0 cap0 z0 a1 len1 cap1 z1 W w0 w1).mono fun e W' ⟨he, bel⟩ => ?_
  subst he
  exact ⟨_, rfl, _, _, _, [], _, [], hW', trodAll_mk1 (shut_bool Try.underlying4 _), (trodAll_cons_mk (Below.trod laidOut (by kernel_rfl) (of_decide_eq_true (by kernel_rfl)) k0 bel lt0) (trodAll_cons_mk (Below.trod laidOut (by kernel_rfl) (of_decide_eq_true (by kernel_rfl)) k1 bel lt1) trodAll_mk0)), rfl, bel.frame _, fun h => by cases h⟩

theorem over : Rows.fnLowSurrogateAtSpelledUnitIgnoresCaseAndTailRow.holds Try.pinned (OpenSpec.ofChange Rows.fnLowSurrogateAtSpelledUnitIgnoresCaseAndTailSpec) :=
  OpenClaim.holds_of_wide 5 Try.f5 rfl rfl rfl rfl rfl rfl rfl ⟨rfl, rfl, rfl, rfl, rfl⟩ rfl rfl rfl rfl rfl (by kernel_rfl) Try.func5 (by kernel_rfl)
    (of_decide_eq_true (by kernel_rfl)) (by unfold Func.isWrapper; first | (rw [if_pos (by decide +kernel)]; kernel_rfl) | (rw [if_neg (by decide +kernel)]; exact ⟨rfl, rfl⟩))
    (fun os started H enc _ => lifted os started H enc)

/-- ████ THE STATEMENT ████ -/
theorem proved : Rows.FnLowSurrogateAtSpelledUnitIgnoresCaseAndTailSaid := over
#print axioms proved
end Go.Proofs.Qxb6608652a.fnLowSurrogateAtSpelledUnitIgnoresCaseAndTail
