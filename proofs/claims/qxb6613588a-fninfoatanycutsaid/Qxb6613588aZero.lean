import Derived.Test.Qxb6613588aMain
namespace Go.Proofs.Qxb6613588a.Zero
open Go.ChangeShapes Go.WideShapes Go.ChangeAt Go.RowKit Base Mem Qxb6613588a.Add Info Qxb6613588a.Inv Rows2 Count Size Bytes Main

set_option maxRecDepth 100000 in
set_option maxHeartbeats 2000000 in
theorem build_zero (path : ByteArray) (a : Option Addr) (c : Nat) (w : World) :
    Calls Try.prog 15 #[.string path, .slice a 0 c] w fun e w' => e = .returned (.tuple #[.pointer (some ⟨w.heap.size, 0, none⟩), .slice none 0 0, .slice none 0 0, .slice none 0 0]) ∧ w' = w.alloc (.cells #[.string path, .slice none 0 0, .slice none 0 0] 38) := by
  go_enter Try.func15, Try.ntmps15
  go_wp2_with fail
  refine wp_loop_rounds 1 ?_
  rw [rounds_succ]
  go_wp2_with fail
  refine bodyPost_ret (v := .tuple #[.pointer (some ⟨w.heap.size, 0, none⟩), .slice none 0 0, .slice none 0 0, .slice none 0 0]) (by simp [results, Try.results15, go_sem]) rfl ⟨rfl, rfl⟩

set_option maxRecDepth 100000 in
set_option maxHeartbeats 8000000 in
theorem main_zero (path : ByteArray) (a : Option Addr) (c : Nat) (k : Int) (w : World) (hp : path.size ≤ maxLen) :
    Calls Try.prog 7 #[.string path, .slice a 0 c, .int .i64 k] w fun e w' => e = .returned (.bool true) ∧ Below w.heap.size w w' := by
  go_enter Try.func7, Try.ntmps7
  go_wp2_with fail
  refine (bytes_zero path a c k w hp).mono ?_
  rintro e w ⟨⟨rb, rfl⟩, rfl⟩
  cases rb
  · go_wp2_with fail
    go_ret
    exact ⟨rfl, Below.refl _ _⟩
  go_wp2_with fail
  refine (size_zero path a c w).mono ?_
  rintro e w ⟨⟨r, rfl⟩, rfl⟩
  by_cases hr : 1048576 < r
  · have hr' : decide (1048576 < r) = true := by simpa using hr
    go_wp2_with fail
    go_ret
    exact ⟨rfl, Below.refl _ _⟩
  have hr' : decide (1048576 < r) = false := by simpa using hr
  by_cases hk0 : k < 0
  · have hk' : decide (k < 0) = true := by simpa using hk0
    go_wp2_with fail
    go_ret
    exact ⟨rfl, Below.refl _ _⟩
  have hk' : decide (k < 0) = false := by simpa using hk0
  by_cases hk1 : 0 < k
  · have hk1' : decide (0 < k) = true := by simpa using hk1
    go_wp2_with fail
    go_ret
    exact ⟨rfl, Below.refl _ _⟩
  obtain rfl : k = 0 := by omega
  clear hk0 hk' hk1
  go_wp2_with fail
  refine (count_zero a 0 c w).mono ?_
  rintro e w ⟨⟨x1, x2, rfl⟩, rfl⟩
  go_wp2_with fail
  refine (build_zero path a c w).mono ?_
  rintro e w1 ⟨rfl, rfl⟩
  go_wp2_with fail
  refine (count_zero a 0 c _).mono ?_
  rintro e w1 ⟨⟨x3, x4, rfl⟩, rfl⟩
  go_wp2_with fail
  refine (info_none w.heap.size none 0 0 0 0 _ (cell_two (cell_mid (heap_alloc_new w _)) _ _) (by unfold maxLen; omega) (fun h => by omega) (fun i hi => by omega)).mono ?_
  rintro e w3 ⟨rfl, rfl⟩
  go_wp2_with fail
  refine (info_none (w.heap.size + 1) none 0 0 0 0 _ (cell_mid (heap_alloc_cells (heap_new (by simp) _) _)) (by unfold maxLen; omega) (fun h => by omega) (fun i hi => by omega)).mono ?_
  rintro e w3 ⟨rfl, rfl⟩
  go_wp2_with fail
  refine (info_none (w.heap.size + 1 + 1) none 0 0 0 0 _ (cell_mid (heap_new (by simp) _)) (by unfold maxLen; omega) (fun h => by omega) (fun i hi => by omega)).mono ?_
  rintro e w3 ⟨rfl, rfl⟩
  go_wp2_with fail
  go_ret
  exact ⟨rfl, (((Below.refl _ _).alloc (Nat.le_refl _) _).alloc (by simp) _).alloc (by simp; omega) _⟩
end Go.Proofs.Qxb6613588a.Zero
