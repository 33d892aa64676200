import Derived.Test.Qxb6613555aBase
import Derived.Deep.Strs
import Derived.OpenShut
/- the arguments opened -/
namespace Go.Proofs.Qxb6613555a.Open
open Go.ChangeShapes Go.WideShapes Go.ChangeAt Go.RowKit Go.Deep Base

theorem und46 : Try.prog.underlying 46 = some (.slice 21) := by kernel_rfl
theorem und21 : Try.prog.underlying 21 = some (.int .i32) := by kernel_rfl
theorem und52 : Try.prog.underlying 52 = some (.slice 9) := by kernel_rfl
theorem und9 : Try.prog.underlying 9 = some .string := by kernel_rfl
theorem of21 : Try.prog.cellsOf 21 = 1 := by kernel_rfl
theorem of9 : Try.prog.cellsOf 9 = 1 := by kernel_rfl
theorem wf_i32 {n : Int} (h : (Lit.int .i32 n).wf = true) : -2147483648 ≤ n ∧ n ≤ 2147483647 := by
  simp [Lit.wf, IntKind.min, IntKind.max, IntKind.bits, IntKind.signed] at h
  omega

theorem nilSmall : (⟨#[]⟩ : ByteArray).size ≤ maxLen := by decide
variable {H : Type} {enc : TypeId × Value → H} {w : World} {base : Nat} {spare : Nat → Bool} {held : Bool}
/-- a slice of int32s -/
theorem ints_row {fuel : Nat} {a : Option Addr} {n c : Nat} {x : DataW H × List MemPlace} (h : DataW.trod enc Try.prog w base spare held fuel 46 [.slice a n c] = some x) : n ≤ maxLen ∧ ∃ f, IRow w a n f := by
  rcases open_ints und46 und21 of21 h with ⟨hcs, _⟩ | ⟨ad, len, cap, zs, hcs, _, hl, hm, hmm, _, hx, hz⟩
  · simp at hcs
    obtain ⟨rfl, rfl, rfl⟩ := hcs
    exact ⟨by unfold maxLen; omega, fun _ => 0, fun h => by omega, fun _ => ⟨by show (-2147483648 : Int) ≤ 0; omega, by show (0 : Int) ≤ 2147483647; omega⟩⟩
  · simp at hcs
    obtain ⟨rfl, rfl, rfl⟩ := hcs
    have hlm : n ≤ zs.length := by rw [hmm]; split <;> omega
    refine ⟨by omega, fun i => zs.getD i 0, fun h0 => ?_, fun i => ?_⟩
    · obtain ⟨b, o, sp⟩ := ad
      have hsp : sp = none := by simpa [Addr.add] using World.cell?_spot (hx 0 (by omega))
      subst hsp
      exact ⟨b, o, rfl, fun i hi => by have := hx i (by omega); rw [WideShapes.add_plain] at this; exact this⟩
    · by_cases hi : i < zs.length
      · refine wf_i32 (hz _ ?_)
        show zs.getD i 0 ∈ zs
        rw [List.getD_eq_getElem?_getD, List.getElem?_eq_getElem hi]; exact List.getElem_mem hi
      · show -2147483648 ≤ zs.getD i 0 ∧ zs.getD i 0 ≤ 2147483647
        rw [List.getD_eq_getElem?_getD, List.getElem?_eq_none (by omega)]; exact ⟨by decide, by decide⟩
/-- a slice of strings -/
theorem strs_row {fuel : Nat} {a : Option Addr} {n c : Nat} {x : DataW H × List MemPlace} (h : DataW.trod enc Try.prog w base spare held fuel 52 [.slice a n c] = some x) : n ≤ maxLen ∧ ∃ P, SRow w a n P := by
  rcases open_strs und52 und9 of9 h with ⟨hcs, _⟩ | ⟨ad, len, cap, m, P, hcs, _, hl, hm, hmm, _, hx⟩
  · simp at hcs
    obtain ⟨rfl, rfl, rfl⟩ := hcs
    exact ⟨by unfold maxLen; omega, fun _ => ⟨#[]⟩, fun h => by omega, fun _ => nilSmall⟩
  · simp at hcs
    obtain ⟨rfl, rfl, rfl⟩ := hcs
    have hlm : n ≤ m := by rw [hmm]; split <;> omega
    refine ⟨by omega, fun i => if i < m then P i else ⟨#[]⟩, fun h0 => ?_, fun i => ?_⟩
    · obtain ⟨b, o, sp⟩ := ad
      have hsp : sp = none := by simpa [Addr.add] using World.cell?_spot (hx 0 (by omega)).1
      subst hsp
      exact ⟨b, o, rfl, fun i hi => by have := (hx i (by omega)).1; rw [WideShapes.add_plain] at this; show _ = some (Value.string (if i < m then P i else ⟨#[]⟩)); rw [if_pos (by omega)]; exact this⟩
    · show (if i < m then P i else ⟨#[]⟩).size ≤ maxLen
      by_cases hi : i < m
      · rw [if_pos hi]; exact (hx i hi).2
      · rw [if_neg hi]; exact nilSmall
end Go.Proofs.Qxb6613555a.Open
