import Derived.Test.Qxb6613588aInv
/- two rows of one kind, one of them held in a declaration -/
namespace Go.Proofs.Qxb6613588a.Rows2
open Go.ChangeShapes Go.WideShapes Go.ChangeAt Go.RowKit Base Mem Qxb6613588a.Inv

/-- the declaration's block, its list in cell 3 -/
def DRow (w : World) (D : Nat) (t : TypeId) (dt : Value) : Prop := ∃ cs : Array Value, cs.size = 10 ∧ w.heap[D]? = some (Obj.cells cs t (0, 0)) ∧ cs[3]? = some dt
variable {w w' W w1 : World} {D B s g cap j m n1 : Nat} {t e td : TypeId} {dt tv u : Value} {xs1 xs2 ys : List Value}
theorem DRow.cell (h : DRow w D t dt) : w.cell? ⟨D, 3, none⟩ = some dt := by
  obtain ⟨cs, _, h, hc⟩ := h
  simp [World.cell?, h, hc]
theorem DRow.frozen (h : DRow w D t dt) : w.frozen? ⟨D, 3, none⟩ = false := by
  obtain ⟨cs, _, h, hc⟩ := h
  exact frozen_no h
theorem DRow.lt (h : DRow w D t dt) : D < w.heap.size := by
  obtain ⟨cs, _, h, hc⟩ := h
  exact (Array.getElem?_eq_some_iff.1 h).1
theorem DRow.alloc (h : DRow w D t dt) (o : Obj) : DRow (w.alloc o) D t dt := by
  obtain ⟨cs, h0, h, hc⟩ := h
  exact ⟨cs, h0, heap_alloc_cells h o, hc⟩
theorem DRow.grown (h : DRow w D t dt) {o : Option Nat} (hg : w.grownBy w' o) (hne : some D ≠ o) : DRow w' D t dt := by
  obtain ⟨cs, h0, h, hc⟩ := h
  exact ⟨cs, h0, grown_heap hg h hne, hc⟩
theorem DRow.set (h : DRow w D t dt) (u : Value) : DRow (w.setCell ⟨D, 3, none⟩ u) D t u := by
  obtain ⟨cs, h0, h, hc⟩ := h
  refine ⟨cs.setIfInBounds 3 u, by simp [h0], ?_, ?_⟩
  · simp [World.setCell, Array.getElem?_modify, h]
  · simp [h0]
theorem DRow.ne (h : DRow w D td dt) (ho : w.ownsRow B e s u j xs1) (hne : td ≠ e) : some D ≠ u.ownBlock := by
  obtain ⟨cs, h0, h, hc⟩ := h
  exact own_ne ho h hne

theorem drow_new (w : World) (o1 : Obj) (t : TypeId) (x0 x1 x2 x3 x4 x5 x6 x7 x8 x9 : Value) : DRow ((w.alloc o1).alloc (Obj.cells #[x0, x1, x2, x3, x4, x5, x6, x7, x8, x9] t (0, 0))) (w.heap.size + 1) t x3 := by
  refine ⟨#[x0, x1, x2, x3, x4, x5, x6, x7, x8, x9], rfl, ?_, rfl⟩
  have := heap_alloc_new (w.alloc o1) (Obj.cells #[x0, x1, x2, x3, x4, x5, x6, x7, x8, x9] t (0, 0))
  simpa using this

theorem heap_new {w : World} {n : Nat} (h : w.heap.size = n) (o : Obj) : (w.alloc o).heap[n]? = some o := by subst h; exact heap_alloc_new w o
theorem new_cells {w : World} {n : Nat} (h : w.heap.size = n) (cs : Array Value) (t : TypeId) (fr : Nat × Nat) : ∀ j u, cs.toList[j]? = some u → (w.alloc (Obj.cells cs t fr)).cell? ((⟨n, 0, none⟩ : Addr).add j) = some u :=
  World.news_of_block (heap_new h _)
theorem cell_three {w : World} {F : Nat} {x y z : Value} {t : TypeId} {fr : Nat × Nat} (h : w.heap[F]? = some (Obj.cells #[x, y, z] t fr)) : w.cell? ⟨F, 2, none⟩ = some z := by simp [World.cell?, h]
theorem cell_lt {w : World} {a : Addr} {v : Value} (h : w.cell? a = some v) : a.block < w.heap.size := by
  rcases Nat.lt_or_ge a.block w.heap.size with h1 | h1
  · exact h1
  · simp [World.cell?, Array.getElem?_eq_none h1] at h

theorem grown_drew {w w1 : World} {o : Option Nat} (h : w.drew.grownBy w1 o) : w.grownBy w1 o := ⟨h.os, h.tape, h.output, h.size, h.block⟩
theorem DRow.drew (h : DRow w D t dt) : DRow w.drew D t dt := h
theorem cell_four {w : World} {g : Nat} {x0 x1 x2 x3 : Value} {t : TypeId} {fr : Nat × Nat} (h : w.heap[g]? = some (Obj.cells #[x0, x1, x2, x3] t fr)) :
    w.cell? ⟨g, 0, none⟩ = some x0 ∧ w.cell? ⟨g, 1, none⟩ = some x1 ∧ w.cell? ⟨g, 2, none⟩ = some x2 ∧ w.cell? ⟨g, 3, none⟩ = some x3 := by simp [World.cell?, h]

theorem frozen_alloc_drew {w : World} {a : Addr} (h : w.frozen? a = false) (hl : a.block < w.heap.size) (o : Obj) : (w.alloc o).drew.frozen? a = false := by
  have e : (w.alloc o).drew.heap[a.block]? = w.heap[a.block]? := Below.heap_alloc w o a.block hl
  unfold World.frozen? at h ⊢
  rw [e]; exact h

/-- append to the declaration's list -/
theorem step1 (hne : td ≠ e) (r1 : W.ownsRow B e s dt j xs1) (r2 : W.ownsRow B e s tv m xs2) (ap : Apart dt tv) (hd : DRow W D td dt) (hBD : B ≤ D) {oe : Obj} (hg : (W.alloc oe).grownBy w1 dt.ownBlock)
    (hat : dt.ownBlock = some g ∨ g = W.heap.size + 1) (ho : w1.ownsRow B e s (.slice (some ⟨g, 0, none⟩) n1 cap) n1 ys) :
    DRow (w1.setCell ⟨D, 3, none⟩ (.slice (some ⟨g, 0, none⟩) n1 cap)) D td (.slice (some ⟨g, 0, none⟩) n1 cap) ∧
    (w1.setCell ⟨D, 3, none⟩ (.slice (some ⟨g, 0, none⟩) n1 cap)).ownsRow B e s (.slice (some ⟨g, 0, none⟩) n1 cap) n1 ys ∧
    (w1.setCell ⟨D, 3, none⟩ (.slice (some ⟨g, 0, none⟩) n1 cap)).ownsRow B e s tv m xs2 ∧ Apart (.slice (some ⟨g, 0, none⟩) n1 cap) tv ∧
    KeepT [e, td] W (w1.setCell ⟨D, 3, none⟩ (.slice (some ⟨g, 0, none⟩) n1 cap)) ∧ Below B W (w1.setCell ⟨D, 3, none⟩ (.slice (some ⟨g, 0, none⟩) n1 cap)) ∧
    (∀ (x : Nat) (cs : Array Value) (t : TypeId) (fr : Nat × Nat), W.heap[x]? = some (Obj.cells cs t fr) → some x ≠ dt.ownBlock → x ≠ D → (w1.setCell ⟨D, 3, none⟩ (.slice (some ⟨g, 0, none⟩) n1 cap)).heap[x]? = some (Obj.cells cs t fr)) := by
  have hD1 : DRow w1 D td dt := (hd.alloc oe).grown hg (hd.ne r1 hne)
  obtain ⟨r2', ap'⟩ := two_rows (n := n1) (cap := cap) (owns_alloc r2 oe) ap hg (by simpa using hat)
  have hlt := hd.lt
  have hn1 : (Value.slice (some ⟨g, 0, none⟩) n1 cap).ownBlock ≠ some D := fun h => hD1.ne ho hne h.symm
  refine ⟨hD1.set _, ownsRow_setCell_other ho (a := ⟨D, 3, none⟩) hn1 _, ownsRow_setCell_other r2' (a := ⟨D, 3, none⟩) (fun h => hD1.ne r2' hne h.symm) _, ap', ?_, ?_, ?_⟩
  · obtain ⟨cs, h0, h, hc⟩ := hD1
    exact ((((KeepT.refl [] W).alloc _).trans (keep_grown (owns_alloc r1 _) hg)).trans (keep_setCell (o := 3) h _)).mono (by simp)
  · exact (((Below.refl B W).alloc (by omega) _).grown hg (by simp; omega) (own_le r1)).setCell hBD _
  · intro x cs t fr hx hxd hxD
    rw [Below.heap_setCell w1 ⟨D, 3, none⟩ _ x hxD]
    exact grown_heap hg (heap_alloc_cells hx _) hxd

/-- .. and then to the other -/
theorem step2 (hne : td ≠ e) (hd : DRow W D td dt) (r1 : W.ownsRow B e s dt j xs1) (r2 : W.ownsRow B e s tv m xs2) (ap : Apart dt tv) (hBD : B ≤ D) {oe : Obj} (hg : (W.alloc oe).grownBy w1 tv.ownBlock)
    (hat : tv.ownBlock = some g ∨ g = W.heap.size + 1) : DRow w1 D td dt ∧ w1.ownsRow B e s dt j xs1 ∧ Apart dt (.slice (some ⟨g, 0, none⟩) n1 cap) ∧ KeepT [e, td] W w1 ∧ Below B W w1 := by
  obtain ⟨r1', ap'⟩ := two_rows (n := n1) (cap := cap) (owns_alloc r1 oe) ap.symm hg (by simpa using hat)
  have hlt := hd.lt
  exact ⟨(hd.alloc oe).grown hg (hd.ne r2 hne), r1', ap'.symm, (((KeepT.refl [] W).alloc _).trans (keep_grown (owns_alloc r2 _) hg)).mono (by simp), ((Below.refl B W).alloc (by omega) _).grown hg (by simp; omega) (own_le r2)⟩
end Go.Proofs.Qxb6613588a.Rows2
