import Derived.Test.Qxb6613588aBase
namespace Go.Proofs.Qxb6613588a.Bytes
open Go.ChangeShapes Go.WideShapes Go.ChangeAt Go.RowKit Base

set_option maxRecDepth 100000 in
set_option maxHeartbeats 8000000 in
theorem bytes_any (S : Specs) (path : ByteArray) (b o n c : Nat) (k : Int) (w : World) (hn : n ≤ maxLen) (hp : path.size ≤ maxLen) (hS : ∀ i, i < n → Decl S w b o i) :
    Calls Try.prog 20 #[.string path, .slice (some ⟨b, o, none⟩) n c, .int .i64 k] w fun e w' =>
      (e = .returned (.bool false) ∨ (e = .returned (.bool true) ∧ n + tot S n ≤ 1048576)) ∧ w' = w := by
  unfold maxLen at hn hp
  have HS : Hid (∀ i, i < n → Decl S w b o i) := hS
  clear hS
  by_cases g1 : 1048576 < path.size
  · have h : (1048576 : Int) < (path.size : Int) := by omega
    go_enter Try.func20, Try.ntmps20
    go_wp2
    go_ret
    exact ⟨.inl rfl, rfl⟩
  have h1 : ¬ (1048576 : Int) < (path.size : Int) := by omega
  by_cases g2 : 1048576 < n
  · have h : (1048576 : Int) < (n : Int) := by omega
    go_enter Try.func20, Try.ntmps20
    go_wp2
    go_ret
    exact ⟨.inl rfl, rfl⟩
  have h2 : ¬ (1048576 : Int) < (n : Int) := by omega
  by_cases g3 : 1048576 < path.size + n
  · have h : (1048576 : Int) < (path.size : Int) + (n : Int) := by omega
    go_enter Try.func20, Try.ntmps20
    go_wp2
    go_ret
    exact ⟨.inl rfl, rfl⟩
  have h3 : ¬ (1048576 : Int) < (path.size : Int) + (n : Int) := by omega
  go_enter Try.func20, Try.ntmps20
  go_wp2_with fail
  go_loop [7, 8] (fun x v => ∃ (r : Nat) (i : Nat), i ≤ n ∧ n + tot S i ≤ r ∧ r ≤ 1048576 ∧ x = .int .i64 r ∧ v = .int .i64 i) (fun _ v => n - (intOf v).toNat)
  case atStart => exact ⟨path.size + n, 0, by omega, by simp [tot], by omega, by go_num, rfl⟩
  case round =>
    obtain ⟨r, i, hi, hr0, hr1, rfl, rfl⟩ := hrel
    by_cases hlt : i < n
    · have D := HS.out i hlt
      have hin : (i : Int) < (n : Int) := by omega
      have hk1 := D.imps
      have hk2 := D.tys
      have hir := D.ir
      have htr := D.tr
      clear D
      obtain ⟨hil, him, hic⟩ := hir
      obtain ⟨htl, htm, htc⟩ := htr
      unfold maxLen at him htm
      have HIC : Hid _ := hic
      have HTC : Hid _ := htc
      have HT : Hid (tot S (i + 1) = tot S i + S.In i + S.Tn i) := rfl
      clear hic htc
      by_cases q1 : 1048576 < S.In i
      · have h : (1048576 : Int) < (S.In i : Int) := by omega
        go_wp2_with fail
        go_ret
        exact ⟨.inl rfl, rfl⟩
      have hq1 : ¬ (1048576 : Int) < (S.In i : Int) := by omega
      by_cases q2 : 1048576 < r + S.In i
      · have h : (1048576 : Int) < (r : Int) + (S.In i : Int) := by omega
        go_wp2_with fail
        go_ret
        exact ⟨.inl rfl, rfl⟩
      have hq2 : ¬ (1048576 : Int) < (r : Int) + (S.In i : Int) := by omega
      go_wp2_with fail
      go_loop [7, 9] (fun x v => ∃ (r : Nat) (j : Nat), j ≤ S.In i ∧ n + tot S i + S.In i ≤ r ∧ r ≤ 1048576 ∧ x = .int .i64 r ∧ v = .int .i64 j) (fun _ v => S.In i - (intOf v).toNat)
      case atStart => exact ⟨r + S.In i, 0, by omega, by omega, by omega, by go_num, rfl⟩
      case round =>
        obtain ⟨r6, j, hj, h60, h61, rfl, rfl⟩ := hrel
        by_cases hjl : j < S.In i
        · obtain ⟨b', o', P, F, L, C, ha, hcl⟩ := HIC.out (by omega)
          obtain ⟨p0, p1, _, _, m0, m1⟩ := hcl j hjl
          unfold maxLen at m0 m1
          have hjn : (j : Int) < (S.In i : Int) := by omega
          rw [ha] at hk1
          clear ha hcl
          by_cases a1 : 1048576 < (P j).size
          · have h : (1048576 : Int) < ((P j).size : Int) := by omega
            go_wp2_with fail
            go_ret
            exact ⟨.inl rfl, rfl⟩
          have ha1 : ¬ (1048576 : Int) < ((P j).size : Int) := by omega
          by_cases a2 : 1048576 < r6 + (P j).size
          · have h : (1048576 : Int) < (r6 : Int) + ((P j).size : Int) := by omega
            go_wp2_with fail
            go_ret
            exact ⟨.inl rfl, rfl⟩
          have ha2 : ¬ (1048576 : Int) < (r6 : Int) + ((P j).size : Int) := by omega
          by_cases a3 : 1048576 < (F j).size
          · have h : (1048576 : Int) < ((F j).size : Int) := by omega
            go_wp2_with fail
            go_ret
            exact ⟨.inl rfl, rfl⟩
          have ha3 : ¬ (1048576 : Int) < ((F j).size : Int) := by omega
          by_cases a4 : 1048576 < r6 + (P j).size + (F j).size
          · have h : (1048576 : Int) < (r6 : Int) + ((P j).size : Int) + ((F j).size : Int) := by omega
            go_wp2_with fail
            go_ret
            exact ⟨.inl rfl, rfl⟩
          have ha4 : ¬ (1048576 : Int) < (r6 : Int) + ((P j).size : Int) + ((F j).size : Int) := by omega
          go_wp2_with fail
          go_round
          case rel => exact ⟨r6 + (P j).size + (F j).size, j + 1, by omega, by omega, by omega, by go_num, by go_num⟩
          case measure => simp [intOf]; omega
        · by_cases q3 : 1048576 < S.Tn i
          · have h : (1048576 : Int) < (S.Tn i : Int) := by omega
            go_wp2_with fail
            go_ret
            exact ⟨.inl rfl, rfl⟩
          have hq3 : ¬ (1048576 : Int) < (S.Tn i : Int) := by omega
          by_cases q4 : 1048576 < r6 + S.Tn i
          · have h : (1048576 : Int) < (r6 : Int) + (S.Tn i : Int) := by omega
            go_wp2_with fail
            go_ret
            exact ⟨.inl rfl, rfl⟩
          have hq4 : ¬ (1048576 : Int) < (r6 : Int) + (S.Tn i : Int) := by omega
          go_wp2_with fail
          go_loop [7, 10] (fun x v => ∃ (r : Nat) (j : Nat), j ≤ S.Tn i ∧ n + tot S i + S.In i + S.Tn i ≤ r ∧ r ≤ 1048576 ∧ x = .int .i64 r ∧ v = .int .i64 j) (fun _ v => S.Tn i - (intOf v).toNat)
          case atStart => exact ⟨r6 + S.Tn i, 0, by omega, by omega, by omega, by go_num, rfl⟩
          case round =>
            obtain ⟨r9, l, hl, h90, h91, rfl, rfl⟩ := hrel
            by_cases hll : l < S.Tn i
            · obtain ⟨b', o', P, ha, hcl⟩ := HTC.out (by omega)
              obtain ⟨p0, m0⟩ := hcl l hll
              unfold maxLen at m0
              have hln : (l : Int) < (S.Tn i : Int) := by omega
              rw [ha] at hk2
              clear ha hcl
              by_cases a1 : 1048576 < (P l).size
              · have h : (1048576 : Int) < ((P l).size : Int) := by omega
                go_wp2_with fail
                go_ret
                exact ⟨.inl rfl, rfl⟩
              have ha1 : ¬ (1048576 : Int) < ((P l).size : Int) := by omega
              by_cases a2 : 1048576 < r9 + (P l).size
              · have h : (1048576 : Int) < (r9 : Int) + ((P l).size : Int) := by omega
                go_wp2_with fail
                go_ret
                exact ⟨.inl rfl, rfl⟩
              have ha2 : ¬ (1048576 : Int) < (r9 : Int) + ((P l).size : Int) := by omega
              go_wp2_with fail
              go_round
              case rel => exact ⟨r9 + (P l).size, l + 1, by omega, by omega, by omega, by go_num, by go_num⟩
              case measure => simp [intOf]; omega
            · go_wp2_with fail
              go_round
              case rel => exact ⟨r9, i + 1, by omega, by rw [HT.out]; omega, by omega, rfl, by go_num⟩
              case measure => simp [intOf]; omega
    · obtain rfl : i = n := by omega
      go_wp2_with fail
      go_ret
      exact ⟨.inr ⟨rfl, by omega⟩, rfl⟩

set_option maxHeartbeats 1000000 in
theorem bytes_zero (path : ByteArray) (a : Option Addr) (c : Nat) (k : Int) (w : World) (hp : path.size ≤ maxLen) :
    Calls Try.prog 20 #[.string path, .slice a 0 c, .int .i64 k] w fun e w' => (∃ r, e = .returned (.bool r)) ∧ w' = w := by
  unfold maxLen at hp
  by_cases g1 : 1048576 < path.size
  · have h : (1048576 : Int) < (path.size : Int) := by omega
    go_enter Try.func20, Try.ntmps20
    go_wp2
    go_ret
    exact ⟨⟨_, rfl⟩, rfl⟩
  have h1 : ¬ (1048576 : Int) < (path.size : Int) := by omega
  go_enter Try.func20, Try.ntmps20
  go_wp2_with fail
  refine wp_loop_rounds 1 ?_
  rw [rounds_succ]
  go_wp2_with fail
  go_ret
  exact ⟨⟨_, rfl⟩, rfl⟩
end Go.Proofs.Qxb6613588a.Bytes
