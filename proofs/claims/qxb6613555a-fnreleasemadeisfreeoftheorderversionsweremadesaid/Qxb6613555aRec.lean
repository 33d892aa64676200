import Derived.Test.Qxb6613555aBase
import Derived.Deep.OwnRows
import Derived.Deep.AppendLies
import Derived.Maps.AppendAt
/- rows of structs in memory; what a step keeps, told by element types -/
namespace Go.Proofs.Qxb6613555a.Rec
open Go.ChangeShapes Go.WideShapes Go.ChangeAt Go.RowKit Base

theorem run_make_rec {P : Program} (t e : TypeId) (i : TypeInfo) (z : Value) (s : Nat) (ht : P.underlying t = some (.slice e)) (hi : P.info? e = some i) (hz : i.zero = some z) (hsize : i.size = s)
    (kl kc : IntKind) (n : Nat) (hbytes : i.bytes * n ≤ 281474976710656) (h63 : n ≤ 9223372036854775807) (w : World) :
    (Instr.makeSlice t (.int kl (n : Int)) (.int kc (n : Int))).run P w = .ok (.slice (some ⟨w.heap.size, 0, none⟩) n n) (w.alloc (.cells (madeCells z.cells (n * s)) e)) := by
  have hb' : (i.bytes : Int) * (n : Int) ≤ 281474976710656 := by
    have h : ((i.bytes * n : Nat) : Int) ≤ 281474976710656 := by omega
    rwa [Int.natCast_mul] at h
  have hr := run_make (P := P) w t e i z ht hi hz kl kc n n (by omega) (Int.le_refl _) hb' (by omega)
  simp only [Int.toNat_natCast, hsize] at hr
  exact hr
theorem wpList_make_rec {P : Program} (w : World) {ops : Array Oper} {rest : List Oper} {o : Oper} {a : Act} {Q : Exit → Act → World → Prop}
    (hg : o.guard = none) (l c : Operand) (t : TypeId) (hop : o.op = Op.makeSlice t l c)
    (e : TypeId) (i : TypeInfo) (z : Value) (s : Nat) (ht : P.underlying t = some (.slice e)) (hi : P.info? e = some i) (hz : i.zero = some z) (hsize : i.size = s)
    (kl kc : IntKind) (n : Nat) (hl : a.eval l = .int kl (n : Int)) (hc : a.eval c = .int kc (n : Int)) (hbytes : i.bytes * n ≤ 281474976710656) (h63 : n ≤ 9223372036854775807)
    (hK : wpList P ops Q rest (a.put o.dst (.slice (some ⟨w.heap.size, 0, none⟩) n n)) (w.alloc (.cells (madeCells z.cells (n * s)) e))) :
    wpList P ops Q (o :: rest) a w := by
  refine wpList_plain hg fun K hK' => ?_
  have hrun := run_make_rec (P := P) t e i z s ht hi hz hsize kl kc n hbytes h63 w
  unfold Oper.wp
  simp [execOp, hop, hl, hc, hrun, Result.andThen]
  exact hK' _ _ hK

/-- block g holds n structs of s cells -/
def Rec (w : World) (g : Nat) (t : TypeId) (n s : Nat) (F : Nat → Nat → Value) : Prop := Blk w g t (n * s) (fun c => F (c / s) (c % s))
variable {w w' : World} {g n s i k : Nat} {t : TypeId} {F G : Nat → Nat → Value}

theorem off_lt (hi : i < n) (hk : k < s) : i * s + k < n * s :=
  Nat.lt_of_lt_of_le (Nat.add_lt_add_left hk _) (by rw [← Nat.succ_mul]; exact Nat.mul_le_mul_right s hi)
theorem off_div (hk : k < s) : (i * s + k) / s = i := by
  rw [Nat.mul_comm, Nat.mul_add_div (by omega), Nat.div_eq_of_lt hk, Nat.add_zero]
theorem off_mod (hk : k < s) : (i * s + k) % s = k := by
  rw [Nat.mul_comm, Nat.mul_add_mod, Nat.mod_eq_of_lt hk]
theorem Rec.cell (h : Rec w g t n s F) (hi : i < n) (hk : k < s) : w.cell? ⟨g, i * s + k, none⟩ = some (F i k) := by
  have := Blk.cell h (off_lt hi hk)
  rwa [off_div hk, off_mod hk] at this
theorem Rec.cell0 (h : Rec w g t n s F) (hi : i < n) (hs : 0 < s) : w.cell? ⟨g, i * s, none⟩ = some (F i 0) := h.cell hi hs
theorem Rec.frozen (h : Rec w g t n s F) (o : Nat) : w.frozen? ⟨g, o, none⟩ = false := Blk.frozen h o
theorem Rec.lt (h : Rec w g t n s F) : g < w.heap.size := Blk.lt h
theorem Rec.congr (h : Rec w g t n s F) (e : ∀ i k, i < n → k < s → F i k = G i k) (hs : 0 < s) : Rec w g t n s G :=
  Blk.congr h fun c hc => e _ _ (by rw [Nat.div_lt_iff_lt_mul hs]; exact hc) (Nat.mod_lt _ hs)
theorem Rec.set (h : Rec w g t n s F) (hi : i < n) (hk : k < s) (v : Value) : Rec (w.setCell ⟨g, i * s + k, none⟩ v) g t n s (fun x y => if x = i ∧ y = k then v else F x y) := by
  refine (Blk.set h (off_lt hi hk) v).congr fun c hc => ?_
  by_cases e : c = i * s + k
  · subst e; simp [off_div hk, off_mod hk]
  · show _ = (if c / s = i ∧ c % s = k then v else F (c / s) (c % s))
    rw [if_neg e, if_neg]
    rintro ⟨h1, h2⟩
    apply e
    have := Nat.div_add_mod c s
    rw [← this, h1, h2, Nat.mul_comm]
theorem Rec.set0 (h : Rec w g t n s F) (hi : i < n) (hs : 0 < s) (v : Value) : Rec (w.setCell ⟨g, i * s, none⟩ v) g t n s (fun x y => if x = i ∧ y = 0 then v else F x y) := h.set hi hs v
/-- what make lays -/
theorem Rec.made (w : World) (z : Value) (n s : Nat) (t : TypeId) (hz : z.cells.size = s) : Rec (w.alloc (.cells (madeCells z.cells (n * s)) t)) w.heap.size t n s (fun _ k => z.cells[k]!) := by
  refine ⟨_, heap_alloc_new w _, by simp [madeCells], fun i hi => ?_⟩
  simp [madeCells, hi, hz]
/-- f with one struct put in -/
def upd (F : Nat → Nat → Value) (i : Nat) (v : Nat → Value) : Nat → Nat → Value := fun x y => if x = i then v y else F x y
theorem upd_at (F : Nat → Nat → Value) (i : Nat) (v : Nat → Value) (y : Nat) : upd F i v i y = v y := by simp [upd]
theorem upd_ne (F : Nat → Nat → Value) {i x : Nat} (v : Nat → Value) (y : Nat) (h : x ≠ i) : upd F i v x y = F x y := by simp [upd, h]

/-- every block whose element type is not among ts is as it was -/
structure KeepT (ts : List TypeId) (w w' : World) : Prop where
  size : w.heap.size ≤ w'.heap.size
  block : ∀ (g : Nat) (cs : Array Value) (t : TypeId) (fr : Nat × Nat), w.heap[g]? = some (Obj.cells cs t fr) → t ∉ ts → w'.heap[g]? = some (Obj.cells cs t fr)
theorem KeepT.refl (ts : List TypeId) (w : World) : KeepT ts w w := ⟨Nat.le_refl _, fun _ _ _ _ h _ => h⟩
theorem KeepT.trans {ts us : List TypeId} {a b c : World} (h : KeepT ts a b) (k : KeepT us b c) : KeepT (ts ++ us) a c :=
  ⟨Nat.le_trans h.size k.size, fun g cs t fr hg ht => k.block g cs t fr (h.block g cs t fr hg (fun e => ht (List.mem_append.2 (.inl e)))) (fun e => ht (List.mem_append.2 (.inr e)))⟩
theorem KeepT.mono {ts us : List TypeId} {a b : World} (h : KeepT ts a b) (hs : ∀ t ∈ ts, t ∈ us) : KeepT us a b :=
  ⟨h.size, fun g cs t fr hg ht => h.block g cs t fr hg (fun e => ht (hs t e))⟩
theorem KeepT.trans' {ts : List TypeId} {a b c : World} (h : KeepT ts a b) (k : KeepT ts b c) : KeepT ts a c := (h.trans k).mono (by simp)
theorem KeepT.alloc {ts : List TypeId} {a w : World} (h : KeepT ts a w) (o : Obj) : KeepT ts a (w.alloc o) :=
  ⟨by have := h.size; simp; omega, fun g cs t fr hg ht => by
    have h1 := h.block g cs t fr hg ht
    rw [Below.heap_alloc w o g (Array.getElem?_eq_some_iff.1 h1).1]; exact h1⟩
theorem KeepT.drew {ts : List TypeId} {a w : World} (h : KeepT ts a w) : KeepT ts a w.drew := ⟨h.size, h.block⟩
theorem keep_grown {w w' : World} {B : Nat} {e : TypeId} {s : Nat} {v : Value} {n : Nat} {xs : List Value} (ho : w.ownsRow B e s v n xs) (hg : w.grownBy w' v.ownBlock) : KeepT [e] w w' := by
  refine ⟨hg.size, fun g cs t fr h ht => ?_⟩
  rw [hg.block g (Array.getElem?_eq_some_iff.1 h).1 ?_]
  · exact h
  · intro e1
    rcases ho.2 with ⟨rfl, _⟩ | ⟨g', cap, cur, rfl, _, hh, _⟩
    · simp [Value.ownBlock] at e1
    · simp [Value.ownBlock] at e1
      subst e1
      rw [h] at hh
      simp at hh
      exact ht (by simp [hh.2.1])
theorem Blk.keepSet {n : Nat} {F : Nat → Value} (h : Blk w g t n F) (o : Nat) (u : Value) : KeepT [t] w (w.setCell ⟨g, o, none⟩ u) := by
  obtain ⟨cs, h, _, _⟩ := h
  refine ⟨by simp [World.setCell], fun g' cs' t' fr' h' ht => ?_⟩
  rw [Below.heap_setCell w ⟨g, o, none⟩ u g' ?_]
  · exact h'
  · rintro rfl
    rw [h] at h'
    simp at h'
    exact ht (by simp [h'.2.1])
theorem Rec.keepSet (h : Rec w g t n s F) (o : Nat) (u : Value) : KeepT [t] w (w.setCell ⟨g, o, none⟩ u) := Blk.keepSet h o u
theorem Blk.keep {n : Nat} {F : Nat → Value} {ts : List TypeId} (h : Blk w g t n F) (k : KeepT ts w w') (ht : t ∉ ts) : Blk w' g t n F := by
  obtain ⟨cs, h1, h2, h3⟩ := h
  exact ⟨cs, k.block g cs t _ h1 ht, h2, h3⟩
theorem Rec.keep {ts : List TypeId} (h : Rec w g t n s F) (k : KeepT ts w w') (ht : t ∉ ts) : Rec w' g t n s F := Blk.keep h k ht
theorem KeepT.owns {ts : List TypeId} (h : KeepT ts w w') {B : Nat} {e : TypeId} {s : Nat} {v : Value} {n : Nat} {xs : List Value} (ho : w.ownsRow B e s v n xs) (he : e ∉ ts) : w'.ownsRow B e s v n xs := by
  refine ⟨ho.1, ?_⟩
  rcases ho.2 with h0 | ⟨g, cap, cur, rfl, hb, hg, rest⟩
  · exact .inl h0
  · exact .inr ⟨g, cap, cur, rfl, hb, h.block g cur e _ hg he, rest⟩
theorem own_le {w : World} {B : Nat} {e : TypeId} {s : Nat} {v : Value} {n : Nat} {xs : List Value} (ho : w.ownsRow B e s v n xs) : ∀ k, v.ownBlock = some k → B ≤ k := fun k hk => (ho.lt k hk).1
theorem owns_lt {w : World} {B : Nat} {e : TypeId} {s : Nat} {v : Value} {n : Nat} {xs : List Value} (ho : w.ownsRow B e s v n xs) : ∀ k, v.ownBlock = some k → k < w.heap.size := fun k hk => (ho.lt k hk).2
theorem grown_heap {w w' : World} {o : Option Nat} (hg : w.grownBy w' o) {g : Nat} {cs : Array Value} {t : TypeId} {fr : Nat × Nat} (h : w.heap[g]? = some (Obj.cells cs t fr)) (hne : some g ≠ o) : w'.heap[g]? = some (Obj.cells cs t fr) :=
  (hg.block g (Array.getElem?_eq_some_iff.1 h).1 hne).trans h
theorem heap_alloc_cells {w : World} {g : Nat} {cs : Array Value} {t : TypeId} {fr : Nat × Nat} (h : w.heap[g]? = some (Obj.cells cs t fr)) (o : Obj) : (w.alloc o).heap[g]? = some (Obj.cells cs t fr) :=
  (Below.heap_alloc w o g (Array.getElem?_eq_some_iff.1 h).1).trans h
theorem owns_grown {w w' : World} {B : Nat} {e : TypeId} {s : Nat} {v : Value} {n : Nat} {xs : List Value} (ho : w.ownsRow B e s v n xs) {o : Option Nat} (hg : w.grownBy w' o) (hne : ∀ k, v.ownBlock = some k → o ≠ some k) : w'.ownsRow B e s v n xs := by
  refine ⟨ho.1, ?_⟩
  rcases ho.2 with h0 | ⟨g, cap, cur, rfl, hb, hh, rest⟩
  · exact .inl h0
  · exact .inr ⟨g, cap, cur, rfl, hb, grown_heap hg hh (fun e => hne g rfl e.symm), rest⟩
theorem owns_alloc {w : World} {B : Nat} {e : TypeId} {s : Nat} {v : Value} {n : Nat} {xs : List Value} (ho : w.ownsRow B e s v n xs) (o : Obj) : (w.alloc o).ownsRow B e s v n xs := by
  refine ⟨ho.1, ?_⟩
  rcases ho.2 with h0 | ⟨g, cap, cur, rfl, hb, hh, rest⟩
  · exact .inl h0
  · exact .inr ⟨g, cap, cur, rfl, hb, heap_alloc_cells hh o, rest⟩
theorem row_some {P : Program} {t : TypeId} {z : Option Value} {a b : Nat} (h : (P.info? t).map (fun i => (i.zero, i.size, i.bytes)) = some (z, a, b)) : ∃ i, P.info? t = some i ∧ i.zero = z ∧ i.size = a ∧ i.bytes = b := by
  obtain ⟨i, hi, he⟩ := Option.map_eq_some_iff.1 h
  simp at he
  exact ⟨i, hi, he⟩
/-- one cell of an owned row -/
theorem owns_cell {w : World} {B : Nat} {e : TypeId} {s : Nat} {g n cap : Nat} {xs : List Value} (ho : w.ownsRow B e s (.slice (some ⟨g, 0, none⟩) n cap) n xs) {j : Nat} {u : Value} (hj : xs[j]? = some u) : w.cell? ⟨g, j, none⟩ = some u := by
  rcases ho.2 with ⟨h0, _⟩ | ⟨g', cap', cur, he, hb, hh, _, _, hc, ht⟩
  · cases h0
  · obtain ⟨rfl, rfl⟩ : g = g' ∧ cap = cap' := by simpa using he
    rw [cell_of_row w g j cur e _ hh]
    rw [← ht, List.getElem?_take] at hj
    split at hj
    · simpa using hj
    · cases hj

theorem info91 : (Try.prog.info? 91).map (fun i => (i.zero, i.size, i.bytes)) = some (some (.agg #[.int .i32 0, .int .u8 0, .int .i32 0, .int .i32 0, .int .i32 0]), 5, 20) := by kernel_rfl
theorem info154 : (Try.prog.info? 154).map (fun i => (i.zero, i.size, i.bytes)) = some (some (.agg #[.string ⟨#[]⟩, .slice none 0 0]), 2, 40) := by kernel_rfl
theorem info162 : (Try.prog.info? 162).map (fun i => (i.zero, i.size, i.bytes)) = some (some (.agg #[.int .i32 0, .int .i32 0, .int .i32 0]), 3, 12) := by kernel_rfl
theorem info160 : (Try.prog.info? 160).map (fun i => (i.zero, i.size, i.bytes)) = some (some (.agg #[.int .i32 0, .int .i32 0, .int .i32 0, .int .i32 0, .int .i32 0]), 5, 20) := by kernel_rfl
theorem info62 : (Try.prog.info? 62).map (fun i => (i.zero, i.size, i.bytes)) = some (some (.agg #[.int .u8 0, .int .i32 0, .string ⟨#[]⟩, .int .i32 0, .bool false]), 5, 32) := by kernel_rfl
theorem info179 : (Try.prog.info? 179).map (fun i => (i.zero, i.size, i.bytes)) = some (some (.agg #[.int .i32 0, .int .u8 0, .int .i32 0, .string ⟨#[]⟩, .int .i32 0, .bool false]), 6, 40) := by kernel_rfl
theorem info21 : (Try.prog.info? 21).map (fun i => (i.zero, i.size, i.bytes)) = some (some (.int .i32 0), 1, 4) := by kernel_rfl
theorem size108 : (Try.prog.info? 108).map (fun i => i.size) = some 11 := by kernel_rfl
end Go.Proofs.Qxb6613555a.Rec
