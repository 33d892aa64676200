import Derived.Test.Qxb6613588aBase
import Derived.Deep.Strs
/- the argument opened -/
namespace Go.Proofs.Qxb6613588a.Open
open Go.ChangeShapes Go.WideShapes Go.ChangeAt Go.RowKit Go.Deep Base

theorem und24 : Try.prog.underlying 24 = some (.slice 69) := by kernel_rfl
theorem und67 : Try.prog.underlying 67 = some (.slice 71) := by kernel_rfl
theorem und57 : Try.prog.underlying 57 = some (.slice 9) := by kernel_rfl
theorem und9 : Try.prog.underlying 9 = some .string := by kernel_rfl
theorem und3 : Try.prog.underlying 3 = some (.int .i64) := by kernel_rfl
theorem of69 : Try.prog.cellsOf 69 = 3 := by kernel_rfl
theorem of71 : Try.prog.cellsOf 71 = 4 := by kernel_rfl
theorem of9 : Try.prog.cellsOf 9 = 1 := by kernel_rfl
theorem of3 : Try.prog.cellsOf 3 = 1 := by kernel_rfl
theorem of67 : Try.prog.cellsOf 67 = 1 := by kernel_rfl
theorem of57 : Try.prog.cellsOf 57 = 1 := by kernel_rfl

section
variable {H : Type} {enc : TypeId × Value → H} {w : World} {base : Nat} {spare : Nat → Bool} {held : Bool}

theorem strs_row {fuel : Nat} {cs : List Value} {x : DataW H × List MemPlace} (h : DataW.trod enc Try.prog w base spare held fuel 57 cs = some x) : ∃ a n c, cs = [.slice a n c] ∧ StrRow w a n c := by
  rcases open_strs und57 und9 of9 h with ⟨rfl, _⟩ | ⟨a, len, cap, m, P, rfl, _, hl, hm, hmm, _, hx⟩
  · exact ⟨none, 0, 0, rfl, Nat.le_refl _, by unfold maxLen; omega, fun h => by omega⟩
  · have hlm : len ≤ m := by rw [hmm]; split <;> omega
    refine ⟨some a, len, cap, rfl, hl, hm, fun h0 => ?_⟩
    obtain ⟨b, o, sp⟩ := a
    have hsp : sp = none := by simpa [Addr.add] using World.cell?_spot (hx 0 (by omega)).1
    subst hsp
    exact ⟨b, o, P, rfl, fun j hj => by have := hx j (by omega); rw [WideShapes.add_plain] at this; exact this⟩

set_option maxRecDepth 100000 in
theorem imp_one {fuel : Nat} {v0 v1 v2 v3 : Value} {x : DataW H × List MemPlace} (h : DataW.trod enc Try.prog w base spare held fuel 71 [v0, v1, v2, v3] = some x) :
    ∃ q : ByteArray × ByteArray × Int × Int, v0 = .string q.1 ∧ v1 = .string q.2.1 ∧ v2 = .int .i64 q.2.2.1 ∧ v3 = .int .i64 q.2.2.2 ∧ q.1.size ≤ maxLen ∧ q.2.1.size ≤ maxLen := by
  obtain ⟨xs, n', _, _, _, hxl, hf⟩ := DataW.trod_struct Try.underlying71 h
  have hxl : xs.length = 4 := hxl
  match xs, hxl, hf with
  | [y0, y1, y2, y3], _, hf =>
    have f0 := hf 0 _ rfl
    have f1 := hf 1 _ rfl
    have f2 := hf 2 _ rfl
    have f3 := hf 3 _ rfl
    simp [of9, of3] at f0 f1 f2 f3
    obtain ⟨s0, e0, _, l0⟩ := DataW.trod_string und9 f0
    obtain ⟨s1, e1, _, l1⟩ := DataW.trod_string und9 f1
    obtain ⟨i2, e2, _⟩ := DataW.trod_int und3 f2
    obtain ⟨i3, e3, _⟩ := DataW.trod_int und3 f3
    simp at e0 e1 e2 e3
    exact ⟨(s0, s1, i2, i3), e0, e1, e2, e3, l0, l1⟩

theorem imps_row {fuel : Nat} {cs : List Value} {x : DataW H × List MemPlace} (h : DataW.trod enc Try.prog w base spare held fuel 67 cs = some x) : ∃ a n c, cs = [.slice a n c] ∧ ImpRow w a n c := by
  rcases open_slice und67 h with ⟨rfl, _⟩ | ⟨a, len, cap, m, f, D, Pl, rfl, _, hl, hm, hmm, _, hx⟩
  · exact ⟨none, 0, 0, rfl, Nat.le_refl _, by unfold maxLen; omega, fun h => by omega⟩
  · have hlm : len ≤ m := by rw [hmm]; split <;> omega
    refine ⟨some a, len, cap, rfl, hl, hm, fun h0 => ?_⟩
    rw [of71] at hx
    have each : ∀ j, j < len → ∃ q : ByteArray × ByteArray × Int × Int, (w.cell? (a.add (j * 4)) = some (.string q.1) ∧ w.cell? ((a.add (j * 4)).add 1) = some (.string q.2.1) ∧ w.cell? ((a.add (j * 4)).add 2) = some (.int .i64 q.2.2.1) ∧ w.cell? ((a.add (j * 4)).add 3) = some (.int .i64 q.2.2.2)) ∧ q.1.size ≤ maxLen ∧ q.2.1.size ≤ maxLen := fun j hj => by
      obtain ⟨cs', h1, h2⟩ := hx j (by omega)
      obtain ⟨_, hlen, hc⟩ := World.cells?_some h1
      match cs', hlen, hc, h2 with
      | [v0, v1, v2, v3], _, hc, h2 =>
        obtain ⟨q, rfl, rfl, rfl, rfl, l0, l1⟩ := imp_one h2
        exact ⟨q, ⟨by simpa [Addr.add] using hc 0 (by omega), by simpa using hc 1 (by omega), by simpa using hc 2 (by omega), by simpa using hc 3 (by omega)⟩, l0, l1⟩
    obtain ⟨b, o, sp⟩ := a
    have hsp : sp = none := by
      obtain ⟨q, hq, _⟩ := each 0 h0
      simpa [Addr.add] using World.cell?_spot hq.1
    subst hsp
    obtain ⟨Q, hQ⟩ := choose_lt (α := ByteArray × ByteArray × Int × Int) each
    refine ⟨b, o, fun j => (Q j).1, fun j => (Q j).2.1, fun j => (Q j).2.2.1, fun j => (Q j).2.2.2, rfl, fun j hj => ?_⟩
    obtain ⟨⟨q0, q1, q2, q3⟩, l0, l1⟩ := hQ j hj
    simp only [WideShapes.add_plain] at q0 q1 q2 q3
    exact ⟨q0, q1, q2, q3, l0, l1⟩

/-- a declaration -/
theorem decl_row {fuel : Nat} {v0 v1 v2 : Value} {x : DataW H × List MemPlace} (h : DataW.trod enc Try.prog w base spare held fuel 69 [v0, v1, v2] = some x) :
    ∃ q : Int × (Option Addr × Nat × Nat) × (Option Addr × Nat × Nat), v0 = .int .i64 q.1 ∧ v1 = .slice q.2.1.1 q.2.1.2.1 q.2.1.2.2 ∧ v2 = .slice q.2.2.1 q.2.2.2.1 q.2.2.2.2 ∧ ImpRow w q.2.1.1 q.2.1.2.1 q.2.1.2.2 ∧ StrRow w q.2.2.1 q.2.2.2.1 q.2.2.2.2 := by
  obtain ⟨y0, y1, y2, n, _, _, f0, f1, f2⟩ := trod_struct3 Try.underlying69 h
  simp [of67, of3, of57] at f0 f1 f2
  obtain ⟨i, e0, _⟩ := DataW.trod_int und3 f0
  obtain ⟨a1, n1, c1, e1, r1⟩ := imps_row f1
  obtain ⟨a2, n2, c2, e2, r2⟩ := strs_row f2
  simp at e0 e1 e2
  exact ⟨(i, (a1, n1, c1), (a2, n2, c2)), e0, e1, e2, r1, r2⟩

/-- the argument -/
theorem specs_row {fuel : Nat} {a : Option Addr} {n c : Nat} {x : DataW H × List MemPlace} (h : DataW.trod enc Try.prog w base spare held fuel 24 [.slice a n c] = some x) :
    n ≤ maxLen ∧ (0 < n → ∃ (S : Specs) (b o : Nat), a = some ⟨b, o, none⟩ ∧ b < w.heap.size ∧ ∀ i, i < n → Decl S w b o i) := by
  rcases open_slice und24 h with ⟨hcs, _⟩ | ⟨ad, len, cap, m, f, D, Pl, hcs, _, hl, hm, hmm, _, hx⟩
  · simp at hcs
    obtain ⟨rfl, rfl, rfl⟩ := hcs
    exact ⟨by unfold maxLen; omega, fun h => by omega⟩
  · simp at hcs
    obtain ⟨rfl, rfl, rfl⟩ := hcs
    have hlm : n ≤ m := by rw [hmm]; split <;> omega
    refine ⟨by omega, fun h0 => ?_⟩
    rw [of69] at hx
    have each : ∀ j, j < n → ∃ q : Int × (Option Addr × Nat × Nat) × (Option Addr × Nat × Nat), w.cell? (ad.add (j * 3)) = some (.int .i64 q.1) ∧ w.cell? ((ad.add (j * 3)).add 1) = some (.slice q.2.1.1 q.2.1.2.1 q.2.1.2.2) ∧ w.cell? ((ad.add (j * 3)).add 2) = some (.slice q.2.2.1 q.2.2.2.1 q.2.2.2.2) ∧ ImpRow w q.2.1.1 q.2.1.2.1 q.2.1.2.2 ∧ StrRow w q.2.2.1 q.2.2.2.1 q.2.2.2.2 := fun j hj => by
      obtain ⟨cs', h1, h2⟩ := hx j (by omega)
      obtain ⟨_, hlen, hc⟩ := World.cells?_some h1
      match cs', hlen, hc, h2 with
      | [v0, v1, v2], _, hc, h2 =>
        obtain ⟨q, rfl, rfl, rfl, r1, r2⟩ := decl_row h2
        exact ⟨q, by simpa [Addr.add] using hc 0 (by omega), by simpa using hc 1 (by omega), by simpa using hc 2 (by omega), r1, r2⟩
    obtain ⟨b, o, sp⟩ := ad
    have hsp : sp = none := by
      obtain ⟨q, hq, _⟩ := each 0 h0
      simpa [Addr.add] using World.cell?_spot hq
    subst hsp
    obtain ⟨Q, hQ⟩ := choose_lt (α := Int × (Option Addr × Nat × Nat) × (Option Addr × Nat × Nat)) each
    refine ⟨⟨fun j => (Q j).1, fun j => (Q j).2.1.1, fun j => (Q j).2.1.2.1, fun j => (Q j).2.1.2.2, fun j => (Q j).2.2.1, fun j => (Q j).2.2.2.1, fun j => (Q j).2.2.2.2⟩, b, o, rfl, ?_, fun i hi => ?_⟩
    · obtain ⟨h1, _⟩ := hQ 0 h0
      rcases Nat.lt_or_ge b w.heap.size with h2 | h2
      · exact h2
      · simp [Addr.add, World.cell?, Array.getElem?_eq_none h2] at h1
    · obtain ⟨q0, q1, q2, r1, r2⟩ := hQ i hi
      simp only [WideShapes.add_plain] at q0 q1 q2
      exact ⟨q0, q1, q2, r1, r2⟩
end
end Go.Proofs.Qxb6613588a.Open
