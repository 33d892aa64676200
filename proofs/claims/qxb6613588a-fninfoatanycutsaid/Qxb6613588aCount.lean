import Derived.Test.Qxb6613588aBase
namespace Go.Proofs.Qxb6613588a.Count
open Go.ChangeShapes Go.WideShapes Go.ChangeAt Go.RowKit Base

set_option maxHeartbeats 1000000 in
theorem count_any (S : Specs) (b o n c k : Nat) (w : World) (hn : n ≤ 1048576) (hk : k ≤ n) (hS : ∀ i, i < n → Decl S w b o i) :
    Calls Try.prog 16 #[.slice (some ⟨b, o, none⟩) n c, .int .i64 k] w fun e w' => (∃ x y, e = .returned (.tuple #[.int .i64 x, .int .i64 y, .int .i64 (cnt S k)])) ∧ w' = w := by
  have HS : Hid (∀ i, i < n → Decl S w b o i) := hS
  clear hS
  go_enter Try.func16, Try.ntmps16
  go_wp2
  go_loop [7, 8, 9, 10] (fun x y z v => ∃ (p q : Int) (i : Nat), i ≤ k ∧ x = .int .i64 p ∧ y = .int .i64 q ∧ z = .int .i64 (cnt S i) ∧ v = .int .i64 i) (fun _ _ _ v => k - (intOf v).toNat)
  case atStart => exact ⟨0, 0, 0, by omega, rfl, rfl, rfl, rfl⟩
  case round =>
    obtain ⟨p, q, i, hi, rfl, rfl, rfl, rfl⟩ := hrel
    have hci := cnt_le S i
    by_cases hlt : i < k
    · have D := HS.out i (by omega)
      have hin : (i : Int) < (n : Int) := by omega
      have hk0 := D.kind
      have hk1 := D.imps
      have hk2 := D.tys
      clear D
      by_cases e1 : S.K i = 1
      · have hb : (S.K i == 1) = true := by simpa using e1
        have HC : Hid (cnt S (i + 1) = cnt S i + 1) := by show _ = _; simp [cnt, e1]
        clear e1
        go_wp2_with fail
        go_round
        case rel => exact ⟨p, q, i + 1, by omega, rfl, rfl, by rw [HC.out]; go_num, by go_num⟩
        case measure => simp [intOf]; omega
      · have hb : (S.K i == 1) = false := by simpa using e1
        have HC : Hid (cnt S (i + 1) = cnt S i) := by show _ = _; simp [cnt, e1]
        clear e1
        cases hb2 : (S.K i == 2) with
        | true =>
          go_wp2_with fail
          go_round
          case rel => exact ⟨p, _, i + 1, by omega, rfl, rfl, by rw [HC.out], by go_num⟩
          case measure => simp [intOf]; omega
        | false =>
          go_wp2_with fail
          go_round
          case rel => exact ⟨_, q, i + 1, by omega, rfl, rfl, by rw [HC.out], by go_num⟩
          case measure => simp [intOf]; omega
    · obtain rfl : i = k := by omega
      go_wp2
      go_ret3
      exact ⟨⟨p, q, rfl⟩, rfl⟩

set_option maxHeartbeats 1000000 in
theorem count_zero (a : Option Addr) (n c : Nat) (w : World) :
    Calls Try.prog 16 #[.slice a n c, .int .i64 0] w fun e w' => (∃ x y, e = .returned (.tuple #[.int .i64 x, .int .i64 y, .int .i64 0])) ∧ w' = w := by
  go_enter Try.func16, Try.ntmps16
  go_wp2
  refine wp_loop_rounds 1 ?_
  rw [rounds_succ]
  go_wp2
  go_ret3
  exact ⟨⟨0, 0, rfl⟩, rfl⟩
end Go.Proofs.Qxb6613588a.Count
