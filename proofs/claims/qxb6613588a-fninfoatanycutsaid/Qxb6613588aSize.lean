import Derived.Test.Qxb6613588aBase
namespace Go.Proofs.Qxb6613588a.Size
open Go.ChangeShapes Go.WideShapes Go.ChangeAt Go.RowKit Base

set_option maxHeartbeats 1000000 in
theorem add_any (n x : Int) (w : World) (h0 : 0 ≤ n) (h1 : n ≤ 1048577) (hx : 0 ≤ x) :
    Calls Try.prog 30 #[.int .i64 n, .int .i64 x] w fun e w' => (∃ r, 0 ≤ r ∧ r ≤ 1048577 ∧ e = .returned (.int .i64 r)) ∧ w' = w := by
  by_cases c1 : 1048576 < n
  · have hb : decide (1048576 < n) = true := by simpa using c1
    go_enter Try.func30, Try.ntmps30
    go_wp2
    go_ret
    exact ⟨⟨_, by omega, by omega, rfl⟩, rfl⟩
  · have hb : decide (1048576 < n) = false := by simpa using c1
    by_cases c2 : 1048576 - n < x
    · go_enter Try.func30, Try.ntmps30
      go_wp2
      go_ret
      exact ⟨⟨_, by omega, by omega, rfl⟩, rfl⟩
    · go_enter Try.func30, Try.ntmps30
      go_wp2
      go_ret
      exact ⟨⟨n + x, by omega, by omega, rfl⟩, rfl⟩

set_option maxHeartbeats 1000000 in
theorem words_any (n x : Int) (w : World) (h0 : 0 ≤ n) (h1 : n ≤ 1048577) (hx : 0 ≤ x) :
    Calls Try.prog 31 #[.int .i64 n, .int .i64 x] w fun e w' => (∃ r, 0 ≤ r ∧ r ≤ 1048577 ∧ e = .returned (.int .i64 r)) ∧ w' = w := by
  by_cases c1 : 1048576 < n
  · have hb : decide (1048576 < n) = true := by simpa using c1
    go_enter Try.func31, Try.ntmps31
    go_wp2
    go_ret
    exact ⟨⟨_, by omega, by omega, rfl⟩, rfl⟩
  · have hb : decide (1048576 < n) = false := by simpa using c1
    by_cases c2 : (1048576 - n) / 8 < x
    · go_enter Try.func31, Try.ntmps31
      go_wp2
      go_ret
      exact ⟨⟨_, by omega, by omega, rfl⟩, rfl⟩
    · go_enter Try.func31, Try.ntmps31
      go_wp2
      go_ret
      exact ⟨⟨n + 8 * x, by omega, by omega, rfl⟩, rfl⟩

/-- one call of zzAdd or zzAddWords, in a walk -/
theorem add_len (n : Int) (x : Nat) (w : World) (h0 : 0 ≤ n) (h1 : n ≤ 1048577) :
    Calls Try.prog 30 #[.int .i64 n, .int .i64 (x : Int)] w fun e w' => (∃ r, 0 ≤ r ∧ r ≤ 1048577 ∧ e = .returned (.int .i64 r)) ∧ w' = w := add_any n x w h0 h1 (by omega)
theorem words_len (n : Int) (x : Nat) (w : World) (h0 : 0 ≤ n) (h1 : n ≤ 1048577) :
    Calls Try.prog 31 #[.int .i64 n, .int .i64 (x : Int)] w fun e w' => (∃ r, 0 ≤ r ∧ r ≤ 1048577 ∧ e = .returned (.int .i64 r)) ∧ w' = w := words_any n x w h0 h1 (by omega)

set_option maxRecDepth 100000 in
set_option maxHeartbeats 4000000 in
theorem size_any (S : Specs) (path : ByteArray) (b o n c : Nat) (w : World) (hn : n ≤ 1048576) (hS : ∀ i, i < n → Decl S w b o i) :
    Calls Try.prog 14 #[.string path, .slice (some ⟨b, o, none⟩) n c, .slice none 0 0] w fun e w' => (∃ r, e = .returned (.int .i64 r)) ∧ w' = w := by
  have HS : Hid (∀ i, i < n → Decl S w b o i) := hS
  clear hS
  go_enter Try.func14, Try.ntmps14
  go_wp2_with fail
  refine (add_len 0 path.size _ (by omega) (by omega)).mono ?_
  rintro e w1 ⟨⟨r1, h10, h11, rfl⟩, rfl⟩
  go_wp2_with fail
  refine (words_len r1 n _ h10 h11).mono ?_
  rintro e w1 ⟨⟨r2, h20, h21, rfl⟩, rfl⟩
  go_wp2_with fail
  refine (words_len r2 0 _ h20 h21).mono ?_
  rintro e w1 ⟨⟨r3, h30, h31, rfl⟩, rfl⟩
  by_cases c3 : 1048576 < r3
  · go_wp2_with fail
    go_ret
    exact ⟨⟨_, rfl⟩, rfl⟩
  go_wp2_with fail
  go_loop [7, 8] (fun x v => ∃ (r : Int) (i : Nat), i ≤ n ∧ 0 ≤ r ∧ r ≤ 1048576 ∧ x = .int .i64 r ∧ v = .int .i64 i) (fun _ v => n - (intOf v).toNat)
  case atStart => exact ⟨r3, 0, by omega, h30, by omega, rfl, rfl⟩
  case round =>
    obtain ⟨r, i, hi, hr0, hr1, rfl, rfl⟩ := hrel
    by_cases hlt : i < n
    · have D := HS.out i hlt
      have hin : (i : Int) < (n : Int) := by omega
      have hk1 := D.imps
      have hk2 := D.tys
      have hir := D.ir
      have htr := D.tr
      clear D
      obtain ⟨hil, him, hic⟩ := hir
      obtain ⟨htl, htm, htc⟩ := htr
      unfold maxLen at him htm
      have HIC : Hid _ := hic
      have HTC : Hid _ := htc
      clear hic htc
      go_wp2_with fail
      refine (words_len r (S.In i) _ hr0 (by omega)).mono ?_
      rintro e w1 ⟨⟨r4, h40, h41, rfl⟩, rfl⟩
      go_wp2_with fail
      refine (words_len r4 (S.Tn i) _ h40 h41).mono ?_
      rintro e w1 ⟨⟨r5, h50, h51, rfl⟩, rfl⟩
      by_cases c5 : 1048576 < r5
      · go_wp2_with fail
        go_ret
        exact ⟨⟨_, rfl⟩, rfl⟩
      go_wp2_with fail
      go_loop [7, 9] (fun x v => ∃ (r : Int) (j : Nat), j ≤ S.In i ∧ 0 ≤ r ∧ r ≤ 1048576 ∧ x = .int .i64 r ∧ v = .int .i64 j) (fun _ v => S.In i - (intOf v).toNat)
      case atStart => exact ⟨r5, 0, by omega, h50, by omega, rfl, rfl⟩
      case round =>
        obtain ⟨r6, j, hj, h60, h61, rfl, rfl⟩ := hrel
        by_cases hjl : j < S.In i
        · obtain ⟨b', o', P, F, L, C, ha, hcl⟩ := HIC.out (by omega)
          obtain ⟨q0, q1, _, _, _, _⟩ := hcl j hjl
          have hjn : (j : Int) < (S.In i : Int) := by omega
          rw [ha] at hk1
          clear ha hcl
          go_wp2_with fail
          refine (add_len r6 (P j).size _ h60 (by omega)).mono ?_
          rintro e w1 ⟨⟨r7, h70, h71, rfl⟩, rfl⟩
          go_wp2_with fail
          refine (add_len r7 (F j).size _ h70 h71).mono ?_
          rintro e w1 ⟨⟨r8, h80, h81, rfl⟩, rfl⟩
          by_cases c8 : 1048576 < r8
          · go_wp2_with fail
            go_ret
            exact ⟨⟨_, rfl⟩, rfl⟩
          · go_wp2_with fail
            go_round
            case rel => exact ⟨r8, j + 1, by omega, h80, by omega, rfl, by go_num⟩
            case measure => simp [intOf]; omega
        · go_wp2_with fail
          go_loop [7, 10] (fun x v => ∃ (r : Int) (j : Nat), j ≤ S.Tn i ∧ 0 ≤ r ∧ r ≤ 1048576 ∧ x = .int .i64 r ∧ v = .int .i64 j) (fun _ v => S.Tn i - (intOf v).toNat)
          case atStart => exact ⟨r6, 0, by omega, h60, by omega, rfl, rfl⟩
          case round =>
            obtain ⟨r9, l, hl, h90, h91, rfl, rfl⟩ := hrel
            by_cases hll : l < S.Tn i
            · obtain ⟨b', o', P, ha, hcl⟩ := HTC.out (by omega)
              obtain ⟨q0, _⟩ := hcl l hll
              have hln : (l : Int) < (S.Tn i : Int) := by omega
              rw [ha] at hk2
              clear ha hcl
              go_wp2_with fail
              refine (add_len r9 (P l).size _ h90 (by omega)).mono ?_
              rintro e w1 ⟨⟨r7, h70, h71, rfl⟩, rfl⟩
              by_cases c8 : 1048576 < r7
              · go_wp2_with fail
                go_ret
                exact ⟨⟨_, rfl⟩, rfl⟩
              · go_wp2_with fail
                go_round
                case rel => exact ⟨r7, l + 1, by omega, h70, by omega, rfl, by go_num⟩
                case measure => simp [intOf]; omega
            · go_wp2_with fail
              go_round
              case rel => exact ⟨r9, i + 1, by omega, h90, by omega, rfl, by go_num⟩
              case measure => simp [intOf]; omega
    · go_wp2_with fail
      refine wp_loop_rounds 1 ?_
      rw [rounds_succ]
      go_wp2_with fail
      go_ret
      exact ⟨⟨_, rfl⟩, rfl⟩

set_option maxHeartbeats 1000000 in
theorem size_zero (path : ByteArray) (a : Option Addr) (c : Nat) (w : World) :
    Calls Try.prog 14 #[.string path, .slice a 0 c, .slice none 0 0] w fun e w' => (∃ r, e = .returned (.int .i64 r)) ∧ w' = w := by
  go_enter Try.func14, Try.ntmps14
  go_wp2_with fail
  refine (add_len 0 path.size _ (by omega) (by omega)).mono ?_
  rintro e w1 ⟨⟨r1, h10, h11, rfl⟩, rfl⟩
  go_wp2_with fail
  refine (words_len r1 0 _ h10 h11).mono ?_
  rintro e w1 ⟨⟨r2, h20, h21, rfl⟩, rfl⟩
  go_wp2_with fail
  refine (words_len r2 0 _ h20 h21).mono ?_
  rintro e w1 ⟨⟨r3, h30, h31, rfl⟩, rfl⟩
  by_cases c3 : 1048576 < r3
  · go_wp2_with fail
    go_ret
    exact ⟨⟨_, rfl⟩, rfl⟩
  go_wp2_with fail
  refine wp_loop_rounds 1 ?_
  rw [rounds_succ]
  go_wp2_with fail
  refine wp_loop_rounds 1 ?_
  rw [rounds_succ]
  go_wp2_with fail
  go_ret
  exact ⟨⟨_, rfl⟩, rfl⟩
end Go.Proofs.Qxb6613588a.Size
