import Derived.Test.Qxb6613555aRows
import Derived.WalkKit
import Derived.ProofKit
import Derived.WalkSpells
import Derived.WalkLawsBesides
import Derived.Below
import Derived.OneCell
import Derived.Deep.AppendLies
/- a block of memory that is known cell by cell -/
namespace Go.Proofs.Qxb6613555a.Base
open Go.ChangeShapes Go.WideShapes Go.ChangeAt Go.RowKit

/-- block g holds n cells, cell i the value F i; nothing of it is frozen -/
def Blk (w : World) (g : Nat) (t : TypeId) (n : Nat) (F : Nat → Value) : Prop :=
  ∃ cs : Array Value, w.heap[g]? = some (Obj.cells cs t (0, 0)) ∧ cs.size = n ∧ ∀ i, i < n → cs[i]? = some (F i)

variable {w w' : World} {g n i B : Nat} {t : TypeId} {F G : Nat → Value}

theorem Blk.cell (h : Blk w g t n F) (hi : i < n) : w.cell? ⟨g, i, none⟩ = some (F i) := by
  obtain ⟨cs, h1, _, h3⟩ := h
  simp [World.cell?, h1, h3 i hi]
theorem Blk.frozen (h : Blk w g t n F) (i : Nat) : w.frozen? ⟨g, i, none⟩ = false := by
  obtain ⟨cs, h1, _, h3⟩ := h
  simp [World.frozen?, h1]
theorem Blk.lt (h : Blk w g t n F) : g < w.heap.size := by
  obtain ⟨cs, h1, _, _⟩ := h
  exact (Array.getElem?_eq_some_iff.1 h1).1
theorem Blk.congr (h : Blk w g t n F) (e : ∀ i, i < n → F i = G i) : Blk w g t n G := by
  obtain ⟨cs, h1, h2, h3⟩ := h
  exact ⟨cs, h1, h2, fun i hi => by rw [h3 i hi, e i hi]⟩
theorem Blk.same (h : Blk w g t n F) (e : w'.heap[g]? = w.heap[g]?) : Blk w' g t n F := by
  obtain ⟨cs, h1, h2, h3⟩ := h
  exact ⟨cs, e.trans h1, h2, h3⟩
theorem Blk.alloc (h : Blk w g t n F) (o : Obj) : Blk (w.alloc o) g t n F := h.same (Below.heap_alloc w o g h.lt)
theorem Blk.drew (h : Blk w g t n F) : Blk w.drew g t n F := h
theorem Blk.below (h : Blk w g t n F) (hb : Below B w w') (hg : g < B) : Blk w' g t n F := h.same (hb.block g hg)
theorem Blk.other (h : Blk w g t n F) {a : Addr} (hne : g ≠ a.block) (v : Value) : Blk (w.setCell a v) g t n F := h.same (Below.heap_setCell w a v g hne)
theorem Blk.grown (h : Blk w g t n F) {o : Option Nat} (hg : w.grownBy w' o) (hne : some g ≠ o) : Blk w' g t n F := h.same (hg.block g h.lt hne)
theorem Blk.set (h : Blk w g t n F) (hi : i < n) (v : Value) : Blk (w.setCell ⟨g, i, none⟩ v) g t n (fun j => if j = i then v else F j) := by
  obtain ⟨cs, h1, h2, h3⟩ := h
  refine ⟨cs.setIfInBounds i v, by simp [World.setCell, Array.getElem?_modify, h1], by simp [h2], fun j hj => ?_⟩
  by_cases e : j = i
  · subst e; simp [h2, hj]
  · simp [e, Array.getElem?_setIfInBounds_ne (Ne.symm e), h3 j hj]
theorem Blk.made (w : World) (z : Value) (n : Nat) (t : TypeId) : Blk (w.alloc (.cells (madeCells #[z] n) t)) w.heap.size t n (fun _ => z) := by
  refine ⟨_, heap_alloc_new w _, ?_, fun i hi => ?_⟩
  · simp [madeCells]
  · simp [madeCells, hi, Nat.mod_one]

/-- a slice of int32s that came in -/
def IRow (w : World) (a : Option Addr) (n : Nat) (f : Nat → Int) : Prop :=
  (0 < n → ∃ b o, a = some ⟨b, o, none⟩ ∧ ∀ i, i < n → w.cell? ⟨b, o + i, none⟩ = some (.int .i32 (f i))) ∧ ∀ i, -2147483648 ≤ f i ∧ f i ≤ 2147483647
/-- a slice of strings that came in -/
def SRow (w : World) (a : Option Addr) (n : Nat) (P : Nat → ByteArray) : Prop :=
  (0 < n → ∃ b o, a = some ⟨b, o, none⟩ ∧ ∀ i, i < n → w.cell? ⟨b, o + i, none⟩ = some (.string (P i))) ∧ ∀ i, (P i).size ≤ maxLen
theorem cell_lt {w : World} {a : Addr} {v : Value} (h : w.cell? a = some v) : a.block < w.heap.size := by
  rcases Nat.lt_or_ge a.block w.heap.size with h1 | h1
  · exact h1
  · simp [World.cell?, Array.getElem?_eq_none h1] at h
theorem below_cell {w w' : World} (hb : Below w.heap.size w w') {a : Addr} {v : Value} (h : w.cell? a = some v) : w'.cell? a = some v := (hb.cell (p := a) (cell_lt h)).trans h
theorem IRow.below {a : Option Addr} {f : Nat → Int} (h : IRow w a n f) (hb : Below w.heap.size w w') : IRow w' a n f :=
  ⟨fun h0 => by obtain ⟨b, o, e, hc⟩ := h.1 h0; exact ⟨b, o, e, fun i hi => below_cell hb (hc i hi)⟩, h.2⟩
theorem SRow.below {a : Option Addr} {P : Nat → ByteArray} (h : SRow w a n P) (hb : Below w.heap.size w w') : SRow w' a n P :=
  ⟨fun h0 => by obtain ⟨b, o, e, hc⟩ := h.1 h0; exact ⟨b, o, e, fun i hi => below_cell hb (hc i hi)⟩, h.2⟩
/-- at one place of it -/
theorem IRow.at {a : Option Addr} {f : Nat → Int} (h : IRow w a n f) (hi : i < n) : ∃ b o, a = some ⟨b, o, none⟩ ∧ ∀ i, i < n → w.cell? ⟨b, o + i, none⟩ = some (.int .i32 (f i)) := h.1 (by omega)

/-- what zzMVTOPremise asks -/
structure Prem (N M I : Nat) (sl hl : Nat) (n : Int) (ho mi : Nat → Int) : Prop where
  sl : sl = N
  hl : hl = N
  n0 : 0 ≤ n
  nN : n < N
  mi0 : ∀ j, j < M → 0 ≤ mi j ∧ mi j < I
  miD : ∀ j k, j < k → k < M → mi j ≠ mi k
  hoM : ∀ i : Nat, i < N → -1 ≤ ho i ∧ ho i < M
  hoN : ∀ i : Nat, i < N → 0 ≤ ho i → n < i
end Go.Proofs.Qxb6613555a.Base
