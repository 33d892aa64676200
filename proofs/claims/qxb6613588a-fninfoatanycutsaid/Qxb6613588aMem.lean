import Derived.Test.Qxb6613588aBase
import Derived.Deep.AppendLies
import Derived.OneCell
import Derived.Maps.AppendAt
/- memory: what a step keeps, told by the blocks' element types -/
namespace Go.Proofs.Qxb6613588a.Mem
open Go.ChangeShapes Go.WideShapes Go.ChangeAt Go.RowKit Base

theorem info77 : (Try.prog.info? 77).map (fun i => (i.zero, i.size, i.bytes)) = some (some .nilIface, 1, 16) := by kernel_rfl
theorem info46 : (Try.prog.info? 46).map (fun i => (i.zero, i.size, i.bytes)) = some (some (.pointer none), 1, 8) := by kernel_rfl
theorem info62 : (Try.prog.info? 62).map (fun i => (i.zero, i.size, i.bytes)) = some (some (.pointer none), 1, 8) := by kernel_rfl
theorem info45 : (Try.prog.info? 45).map (fun i => (i.zero, i.size, i.bytes)) = some (some (.agg #[.string ⟨#[]⟩, .string ⟨#[]⟩, .int .i64 0, .int .i64 0]), 4, 48) := by kernel_rfl

/-- every block whose element type is not among ts is as it was -/
structure KeepT (ts : List TypeId) (w w' : World) : Prop where
  size : w.heap.size ≤ w'.heap.size
  block : ∀ (g : Nat) (cs : Array Value) (t : TypeId) (fr : Nat × Nat), w.heap[g]? = some (Obj.cells cs t fr) → t ∉ ts → w'.heap[g]? = some (Obj.cells cs t fr)

theorem KeepT.refl (ts : List TypeId) (w : World) : KeepT ts w w := ⟨Nat.le_refl _, fun _ _ _ _ h _ => h⟩
theorem KeepT.trans {ts us : List TypeId} {a b c : World} (h : KeepT ts a b) (k : KeepT us b c) : KeepT (ts ++ us) a c :=
  ⟨Nat.le_trans h.size k.size, fun g cs t fr hg ht => k.block g cs t fr (h.block g cs t fr hg (fun e => ht (List.mem_append.2 (.inl e)))) (fun e => ht (List.mem_append.2 (.inr e)))⟩
theorem KeepT.mono {ts us : List TypeId} {a b : World} (h : KeepT ts a b) (hs : ∀ t ∈ ts, t ∈ us) : KeepT us a b :=
  ⟨h.size, fun g cs t fr hg ht => h.block g cs t fr hg (fun e => ht (hs t e))⟩
theorem KeepT.alloc {ts : List TypeId} {a w : World} (h : KeepT ts a w) (o : Obj) : KeepT ts a (w.alloc o) :=
  ⟨by have := h.size; simp; omega, fun g cs t fr hg ht => by
    have h1 := h.block g cs t fr hg ht
    rw [Below.heap_alloc w o g (Array.getElem?_eq_some_iff.1 h1).1]; exact h1⟩
theorem KeepT.drew {ts : List TypeId} {a w : World} (h : KeepT ts a w) : KeepT ts a w.drew := ⟨h.size, h.block⟩
theorem keep_grown {w w' : World} {B : Nat} {e : TypeId} {s : Nat} {v : Value} {n : Nat} {xs : List Value} (ho : w.ownsRow B e s v n xs) (hg : w.grownBy w' v.ownBlock) : KeepT [e] w w' := by
  refine ⟨hg.size, fun g cs t fr h ht => ?_⟩
  rw [hg.block g (Array.getElem?_eq_some_iff.1 h).1 ?_]
  · exact h
  · intro e1
    rcases ho.2 with ⟨rfl, _⟩ | ⟨g', cap, cur, rfl, _, hh, _⟩
    · simp [Value.ownBlock] at e1
    · simp [Value.ownBlock] at e1
      subst e1
      rw [h] at hh
      simp at hh
      exact ht (by simp [hh.2.1])
theorem keep_setCell {w : World} {g o : Nat} {cs : Array Value} {t : TypeId} {fr : Nat × Nat} (h : w.heap[g]? = some (.cells cs t fr)) (u : Value) : KeepT [t] w (w.setCell ⟨g, o, none⟩ u) := by
  refine ⟨by simp [World.setCell], fun g' cs' t' fr' h' ht => ?_⟩
  rw [Below.heap_setCell w ⟨g, o, none⟩ u g' ?_]
  · exact h'
  · rintro rfl
    rw [h] at h'
    simp at h'
    exact ht (by simp [h'.2.1])
theorem KeepT.owns {ts : List TypeId} {w w' : World} (h : KeepT ts w w') {B : Nat} {e : TypeId} {s : Nat} {v : Value} {n : Nat} {xs : List Value} (ho : w.ownsRow B e s v n xs) (he : e ∉ ts) : w'.ownsRow B e s v n xs := by
  refine ⟨ho.1, ?_⟩
  rcases ho.2 with h0 | ⟨g, cap, cur, rfl, hb, hg, rest⟩
  · exact .inl h0
  · exact .inr ⟨g, cap, cur, rfl, hb, h.block g cur e _ hg he, rest⟩
/-- an owned row that is not empty, written out -/
theorem owns_form {w : World} {B : Nat} {e : TypeId} {s : Nat} {v : Value} {n : Nat} {xs : List Value} (ho : w.ownsRow B e s v n xs) (hn : 0 < n) : ∃ g cap, v = .slice (some ⟨g, 0, none⟩) n cap ∧ B ≤ g ∧ g < w.heap.size ∧ n ≤ cap ∧ cap ≤ maxLen := by
  rcases ho.2 with ⟨_, h0⟩ | ⟨g, cap, cur, rfl, hb, hg, hnc, hcm, _⟩
  · omega
  · exact ⟨g, cap, rfl, hb, (Array.getElem?_eq_some_iff.1 hg).1, hnc, hcm⟩
/-- .. or of whatever length -/
theorem owns_cases {w : World} {B : Nat} {e : TypeId} {s : Nat} {v : Value} {n : Nat} {xs : List Value} (ho : w.ownsRow B e s v n xs) : (v = .slice none 0 0 ∧ n = 0) ∨ ∃ g cap, v = .slice (some ⟨g, 0, none⟩) n cap ∧ B ≤ g ∧ g < w.heap.size := by
  rcases ho.2 with h0 | ⟨g, cap, cur, rfl, hb, hg, hnc, hcm, _⟩
  · exact .inl h0
  · exact .inr ⟨g, cap, rfl, hb, (Array.getElem?_eq_some_iff.1 hg).1⟩
theorem cell_new1 (w : World) (x : Value) (n : Nat) : ∀ j u, [x][j]? = some u → (w.alloc (.cells #[x] n)).cell? ((⟨w.heap.size, 0, none⟩ : Addr).add j) = some u := by
  intro j u hj
  match j, hj with
  | 0, hj => simp at hj; subst hj; simp [Addr.add]
/-- a block of three cells, its middle one written -/
theorem set3 {w : World} {g : Nat} {x y z u : Value} {t : TypeId} (h : w.heap[g]? = some (.cells #[x, y, z] t (0, 0))) : (w.setCell ⟨g, 1, none⟩ u).heap[g]? = some (.cells #[x, u, z] t (0, 0)) := by
  simp [World.setCell, Array.getElem?_modify, h]
theorem below_of {B : Nat} {w w' : World} {o : Option Nat} (hg : w.grownBy w' o) (hB : B ≤ w.heap.size) (ho : ∀ k, o = some k → B ≤ k) : Below B w w' := (Below.refl _ _).grown hg hB ho
theorem own_le {w : World} {B : Nat} {e : TypeId} {s : Nat} {v : Value} {n : Nat} {xs : List Value} (ho : w.ownsRow B e s v n xs) : ∀ k, v.ownBlock = some k → B ≤ k := fun k hk => (ho.lt k hk).1
theorem row_some {P : Program} {t : TypeId} {z : Option Value} {a b : Nat} (h : (P.info? t).map (fun i => (i.zero, i.size, i.bytes)) = some (z, a, b)) : ∃ i, P.info? t = some i ∧ i.zero = z ∧ i.size = a ∧ i.bytes = b := by
  obtain ⟨i, hi, he⟩ := Option.map_eq_some_iff.1 h
  simp at he
  exact ⟨i, hi, he⟩
theorem grown_heap {w w' : World} {o : Option Nat} (hg : w.grownBy w' o) {g : Nat} {cs : Array Value} {t : TypeId} {fr : Nat × Nat} (h : w.heap[g]? = some (Obj.cells cs t fr)) (hne : some g ≠ o) : w'.heap[g]? = some (Obj.cells cs t fr) :=
  (hg.block g (Array.getElem?_eq_some_iff.1 h).1 hne).trans h
theorem own_ne {w : World} {B : Nat} {e : TypeId} {s : Nat} {v : Value} {n : Nat} {xs : List Value} (ho : w.ownsRow B e s v n xs) {g : Nat} {cs : Array Value} {t : TypeId} {fr : Nat × Nat} (h : w.heap[g]? = some (Obj.cells cs t fr)) (ht : t ≠ e) : some g ≠ v.ownBlock := by
  intro e1
  rcases ho.2 with ⟨rfl, _⟩ | ⟨g', cap, cur, rfl, _, hh, _⟩
  · simp [Value.ownBlock] at e1
  · simp [Value.ownBlock] at e1
    subst e1
    rw [h] at hh
    simp at hh
    exact ht hh.2.1
theorem heap_alloc_cells {w : World} {g : Nat} {cs : Array Value} {t : TypeId} {fr : Nat × Nat} (h : w.heap[g]? = some (Obj.cells cs t fr)) (o : Obj) : (w.alloc o).heap[g]? = some (Obj.cells cs t fr) :=
  (Below.heap_alloc w o g (Array.getElem?_eq_some_iff.1 h).1).trans h
theorem frozen_no {w : World} {g o : Nat} {cs : Array Value} {t : TypeId} (h : w.heap[g]? = some (Obj.cells cs t (0, 0))) : w.frozen? ⟨g, o, none⟩ = false := by
  simp [World.frozen?, h]
theorem owns_grown {w w' : World} {B : Nat} {e : TypeId} {s : Nat} {v : Value} {n : Nat} {xs : List Value} (ho : w.ownsRow B e s v n xs) {o : Option Nat} (hg : w.grownBy w' o) (hne : ∀ k, v.ownBlock = some k → o ≠ some k) : w'.ownsRow B e s v n xs := by
  refine ⟨ho.1, ?_⟩
  rcases ho.2 with h0 | ⟨g, cap, cur, rfl, hb, hh, rest⟩
  · exact .inl h0
  · exact .inr ⟨g, cap, cur, rfl, hb, grown_heap hg hh (fun e => hne g rfl e.symm), rest⟩
theorem owns_alloc {w : World} {B : Nat} {e : TypeId} {s : Nat} {v : Value} {n : Nat} {xs : List Value} (ho : w.ownsRow B e s v n xs) (o : Obj) : (w.alloc o).ownsRow B e s v n xs := by
  refine ⟨ho.1, ?_⟩
  rcases ho.2 with h0 | ⟨g, cap, cur, rfl, hb, hh, rest⟩
  · exact .inl h0
  · exact .inr ⟨g, cap, cur, rfl, hb, heap_alloc_cells hh o, rest⟩
theorem owns_lt {w : World} {B : Nat} {e : TypeId} {s : Nat} {v : Value} {n : Nat} {xs : List Value} (ho : w.ownsRow B e s v n xs) : ∀ k, v.ownBlock = some k → k < w.heap.size := fun k hk => (ho.lt k hk).2
end Go.Proofs.Qxb6613588a.Mem
