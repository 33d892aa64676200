import Derived.Test.Qxb6613588aMem
/- the three adders of declarations -/
namespace Go.Proofs.Qxb6613588a.Add
open Go.ChangeShapes Go.WideShapes Go.ChangeAt Go.RowKit Base Mem

theorem cell_mid {w : World} {F : Nat} {x y z : Value} {t : TypeId} {fr : Nat × Nat} (h : w.heap[F]? = some (Obj.cells #[x, y, z] t fr)) : w.cell? ⟨F, 1, none⟩ = some y := by simp [World.cell?, h]

def AddPost (B F k : Nat) (x z : Value) (ds : List Value) (w : World) (y : Value) (e : Ending) (w' : World) : Prop :=
  e = .returned (.tuple #[]) ∧ ∃ g cap, w'.heap[F]? = some (.cells #[x, .slice (some ⟨g, 0, none⟩) (k + 1) cap, z] 38 (0, 0)) ∧ w'.ownsRow B 77 1 (.slice (some ⟨g, 0, none⟩) (k + 1) cap) (k + 1) (ds ++ [y]) ∧ KeepT [38, 77] w w' ∧ Below B w w'

theorem add_end {B F k g cap : Nat} {x z dv y : Value} {ds : List Value} {w w1 : World} (hF : w.heap[F]? = some (.cells #[x, dv, z] 38 (0, 0))) (hB : B ≤ F) (ho : w.ownsRow B 77 1 dv k ds)
    (hown : w1.ownsRow B 77 1 (.slice (some ⟨g, 0, none⟩) (k + 1) cap) (k + 1) (ds ++ [y])) (hg : (w.alloc (.cells #[y] 77)).grownBy w1 dv.ownBlock) :
    AddPost B F k x z ds w y (.returned (.tuple #[])) (w1.setCell ⟨F, 1, none⟩ (.slice (some ⟨g, 0, none⟩) (k + 1) cap)) := by
  have hF1 : w1.heap[F]? = some (.cells #[x, dv, z] 38 (0, 0)) := grown_heap hg (heap_alloc_cells hF _) (own_ne ho hF (by decide))
  have hBw : B ≤ w.heap.size := by have := (Array.getElem?_eq_some_iff.1 hF).1; omega
  refine ⟨rfl, g, cap, set3 hF1, ?_, ?_, ?_⟩
  · exact ownsRow_setCell_other hown (a := ⟨F, 1, none⟩) (fun h => own_ne hown hF1 (by decide) h.symm) _
  · exact ((((KeepT.refl [] w).alloc _).trans (keep_grown (owns_alloc ho _) hg)).trans (keep_setCell (o := 1) hF1 _)).mono (by simp)
  · exact (((Below.refl B w).alloc hBw _).grown hg (by simp; omega) (own_le ho)).setCell hB _

set_option maxRecDepth 100000 in
set_option maxHeartbeats 2000000 in
theorem add23 (B F k : Nat) (ad : Addr) (x z dv : Value) (ds : List Value) (w : World) (hF : w.heap[F]? = some (.cells #[x, dv, z] 38 (0, 0))) (hB : B ≤ F) (ho : w.ownsRow B 77 1 dv k ds) (hk : k < 1048576) :
    Calls Try.prog 23 #[.pointer (some ⟨F, 0, none⟩), .pointer (some ad)] w (AddPost B F k x z ds w (.iface 52 (.pointer (some ad)))) := by
  have hc := cell_mid hF
  have hFl : F < w.heap.size := (Array.getElem?_eq_some_iff.1 hF).1
  have HF : Hid (w.heap[F]? = some (.cells #[x, dv, z] 38 (0, 0))) := hF
  have HO : Hid (w.ownsRow B 77 1 dv k ds) := ho
  clear hF ho
  obtain ⟨i, hi, hz, hs, hb⟩ := row_some info77
  go_enter Try.func23, Try.ntmps23
  go_wp2_with (at_builtin; refine wpList_append_lies _ rfl _ _ _ rfl B 77 i .nilIface 1 16 Try.underlying35 hi hz hs hb rfl (by omega) dv k ds (by rfl) (owns_alloc HO.out _) ⟨w.heap.size, 0, none⟩ 1 1 [.iface 52 (.pointer (some ad))] (by rfl) rfl (cell_new1 w _ _) (by simp [Value.oneCell']) (by omega) (by unfold maxLen; omega) (by omega) (by simp; omega) (w.heap.size + 1) (by simp) ?_; intro g cap w1 hown hgrow hat hlt; have h1 := grown_heap hgrow (heap_alloc_cells HF.out _) (own_ne HO.out HF.out (by decide)); have hfr := frozen_no (o := 1) h1; have hc1 := cell_mid h1; have HH := And.intro hown hgrow; clear hown hgrow hat h1)
  go_end0
  exact add_end HF.out hB HO.out HH.1 HH.2
set_option maxRecDepth 100000 in
set_option maxHeartbeats 2000000 in
theorem add28 (B F k : Nat) (ad : Addr) (x z dv : Value) (ds : List Value) (w : World) (hF : w.heap[F]? = some (.cells #[x, dv, z] 38 (0, 0))) (hB : B ≤ F) (ho : w.ownsRow B 77 1 dv k ds) (hk : k < 1048576) :
    Calls Try.prog 28 #[.pointer (some ⟨F, 0, none⟩), .pointer (some ad)] w (AddPost B F k x z ds w (.iface 59 (.pointer (some ad)))) := by
  have hc := cell_mid hF
  have hFl : F < w.heap.size := (Array.getElem?_eq_some_iff.1 hF).1
  have HF : Hid (w.heap[F]? = some (.cells #[x, dv, z] 38 (0, 0))) := hF
  have HO : Hid (w.ownsRow B 77 1 dv k ds) := ho
  clear hF ho
  obtain ⟨i, hi, hz, hs, hb⟩ := row_some info77
  go_enter Try.func28, Try.ntmps28
  go_wp2_with (at_builtin; refine wpList_append_lies _ rfl _ _ _ rfl B 77 i .nilIface 1 16 Try.underlying35 hi hz hs hb rfl (by omega) dv k ds (by rfl) (owns_alloc HO.out _) ⟨w.heap.size, 0, none⟩ 1 1 [.iface 59 (.pointer (some ad))] (by rfl) rfl (cell_new1 w _ _) (by simp [Value.oneCell']) (by omega) (by unfold maxLen; omega) (by omega) (by simp; omega) (w.heap.size + 1) (by simp) ?_; intro g cap w1 hown hgrow hat hlt; have h1 := grown_heap hgrow (heap_alloc_cells HF.out _) (own_ne HO.out HF.out (by decide)); have hfr := frozen_no (o := 1) h1; have hc1 := cell_mid h1; have HH := And.intro hown hgrow; clear hown hgrow hat h1)
  go_end0
  exact add_end HF.out hB HO.out HH.1 HH.2
set_option maxRecDepth 100000 in
set_option maxHeartbeats 2000000 in
theorem add32 (B F k : Nat) (ad : Addr) (x z dv : Value) (ds : List Value) (w : World) (hF : w.heap[F]? = some (.cells #[x, dv, z] 38 (0, 0))) (hB : B ≤ F) (ho : w.ownsRow B 77 1 dv k ds) (hk : k < 1048576) :
    Calls Try.prog 32 #[.pointer (some ⟨F, 0, none⟩), .pointer (some ad)] w (AddPost B F k x z ds w (.iface 72 (.pointer (some ad)))) := by
  have hc := cell_mid hF
  have hFl : F < w.heap.size := (Array.getElem?_eq_some_iff.1 hF).1
  have HF : Hid (w.heap[F]? = some (.cells #[x, dv, z] 38 (0, 0))) := hF
  have HO : Hid (w.ownsRow B 77 1 dv k ds) := ho
  clear hF ho
  obtain ⟨i, hi, hz, hs, hb⟩ := row_some info77
  go_enter Try.func32, Try.ntmps32
  go_wp2_with (at_builtin; refine wpList_append_lies _ rfl _ _ _ rfl B 77 i .nilIface 1 16 Try.underlying35 hi hz hs hb rfl (by omega) dv k ds (by rfl) (owns_alloc HO.out _) ⟨w.heap.size, 0, none⟩ 1 1 [.iface 72 (.pointer (some ad))] (by rfl) rfl (cell_new1 w _ _) (by simp [Value.oneCell']) (by omega) (by unfold maxLen; omega) (by omega) (by simp; omega) (w.heap.size + 1) (by simp) ?_; intro g cap w1 hown hgrow hat hlt; have h1 := grown_heap hgrow (heap_alloc_cells HF.out _) (own_ne HO.out HF.out (by decide)); have hfr := frozen_no (o := 1) h1; have hc1 := cell_mid h1; have HH := And.intro hown hgrow; clear hown hgrow hat h1)
  go_end0
  exact add_end HF.out hB HO.out HH.1 HH.2
end Go.Proofs.Qxb6613588a.Add
