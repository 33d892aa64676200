import Derived.Test.Qxb6608652aLow
import Derived.Test.Qxb6608652aPlain2
namespace Go.Proofs.Qxb6608652a.Expect
open Go.ChangeShapes Go.WideShapes Go.ChangeAt Go.RowKit Qx52

set_option maxHeartbeats 1000000 in
theorem flip_any (c : Int) (w : World) (_h0 : 0 ≤ c) (_h1 : c ≤ 255) :
    Calls Try.prog 15 #[.int .u8 c] w fun e w' => e = .returned (.int .u8 (flipc c)) ∧ w' = w := by
  by_cases hl : 97 ≤ c ∧ c ≤ 102
  · have hF : Hid (flipc c = c - 97 + 65) := by show flipc c = _; unfold flipc; omega
    obtain ⟨hl1, hl2⟩ := hl
    go_enter Try.func15, Try.ntmps15
    go_wp2
    go_ret
    exact ⟨by rw [hF.out]; rfl, rfl⟩
  · by_cases hu : 65 ≤ c ∧ c ≤ 70
    · have hF : Hid (flipc c = c - 65 + 97) := by show flipc c = _; unfold flipc; omega
      obtain ⟨hu1, hu2⟩ := hu
      have h97 : c < 97 := by omega
      clear hl
      go_enter Try.func15, Try.ntmps15
      go_wp2
      go_ret
      exact ⟨by rw [hF.out]; rfl, rfl⟩
    · have hF : Hid (flipc c = c) := by show flipc c = _; unfold flipc; omega
      rcases (show c < 65 ∨ (71 ≤ c ∧ c ≤ 96) ∨ 103 ≤ c from by omega) with h | ⟨h, h'⟩ | h
      all_goals
        clear hl hu
        go_enter Try.func15, Try.ntmps15
        go_wp2
        go_ret
        exact ⟨by rw [hF.out]; rfl, rfl⟩

set_option maxHeartbeats 1000000 in
theorem expect_short (a : Option Addr) (n c : Nat) (w : World) (hn : n < 6) :
    Calls Try.prog 14 #[.slice a n c] w fun e w' => e = .returned (.tuple #[.int .i32 0, .bool false]) ∧ w' = w := by
  have hb : decide ((n : Int) < 6) = true := by simp; omega
  go_enter Try.func14, Try.ntmps14
  go_wp2
  go_ret2
  exact ⟨rfl, rfl⟩

set_option maxHeartbeats 1000000 in
theorem expect_long (z : Nat → Int) (b off n c : Nat) (w : World) (hn : 6 ≤ n) (_hnc : n ≤ c) (hz : ∀ i, i < 6 → 0 ≤ z i ∧ z i ≤ 255)
    (hc : ∀ i, i < 6 → w.cell? ⟨b, off + i, none⟩ = some (.int .u8 (z i))) (_hcm : c ≤ maxLen) :
    Calls Try.prog 14 #[.slice (some ⟨b, off, none⟩) n c] w fun e w' => e = .returned (.tuple #[.int .i32 (lsa z).1, .bool (lsa z).2]) ∧ w' = w := by
  unfold maxLen at _hcm
  have h0 : w.cell? ⟨b, off, none⟩ = some (.int .u8 (z 0)) := hc 0 (by omega)
  have h1 := hc 1 (by omega)
  have h6 : (6 : Int) ≤ (n : Int) := by omega
  have hb : decide ((n : Int) < 6) = false := by simp; omega
  have HZ : Hid (∀ i, i < 6 → 0 ≤ z i ∧ z i ≤ 255) := hz
  have HC : Hid (∀ i, i < 6 → w.cell? ⟨b, off + i, none⟩ = some (.int .u8 (z i))) := hc
  clear hz hc
  by_cases e0 : z 0 = 92
  · by_cases e1 : z 1 = 117
    · have b0 : (z 0 != 92) = false := by simp [e0]
      have b1 : (z 1 != 117) = false := by simp [e1]
      have E0 : Hid (z 0 = 92) := e0
      have E1 : Hid (z 1 = 117) := e1
      clear e0 e1
      go_enter Try.func14, Try.ntmps14
      go_wp2_with fail
      go_loop [4, 5] (fun u i => ∃ k : Nat, k ≤ 4 ∧ i = .int .i64 (k + 2) ∧ okN (fun i => z (i + 2)) k ∧ u = .int .i32 (val (fun i => z (i + 2)) k)) (fun _ i => 6 - (intOf i).toNat)
      case atStart => exact ⟨0, by omega, rfl, fun _ h => by omega, rfl⟩
      case round =>
        obtain ⟨k, hk, rfl, hok, rfl⟩ := hrel
        by_cases hlt : k < 4
        · have hzk := HZ.out (k + 2) (by omega)
          have hck : w.cell? ⟨b, off + (k + 2), none⟩ = some (.int .u8 (z (k + 2))) := HC.out (k + 2) (by omega)
          have hvb := val_lt (fun i => z (i + 2)) k (by omega) hok
          have htn : ((k : Int) + 2).toNat = k + 2 := by omega
          have hi1 : (k : Int) + 2 < (n : Int) := by omega
          have HV : Hid (val (fun i => z (i + 2)) (k + 1) = val (fun i => z (i + 2)) k * 16 + hexv (z (k + 2))) := rfl
          obtain ⟨y, hy⟩ : ∃ y, y = z (k + 2) := ⟨_, rfl⟩
          obtain ⟨v, hv⟩ : ∃ v, v = val (fun i => z (i + 2)) k := ⟨_, rfl⟩
          rw [← hy] at hzk hck
          rw [← hv] at hvb
          obtain ⟨hz1, hz2⟩ := hzk
          have HY : Hid (y = z (k + 2)) := hy
          have HVV : Hid (v = val (fun i => z (i + 2)) k) := hv
          have hhl := hexv_lo y
          rw [← hv]
          clear hy hv
          by_cases hneg : hexv y < 0
          · have HF : Hid (lsa z = (0, false)) := lsa_no z k hlt (by rw [← HY.out]; exact hneg)
            go_wp2_with fail
            refine (Leaf.hexdigit_any _ _ hz1 hz2).mono ?_
            rintro e w' ⟨rfl, rfl⟩
            go_wp2
            go_ret2
            exact ⟨by rw [HF.out]; rfl, rfl⟩
          · go_wp2_with fail
            refine (Leaf.hexdigit_any _ _ hz1 hz2).mono ?_
            rintro e w' ⟨rfl, rfl⟩
            go_wp2
            go_round
            case rel => exact ⟨k + 1, by omega, by go_num, okN_succ _ k hok (by show 0 ≤ hexv (z (k + 2)); rw [← HY.out]; omega), by rw [HV.out, ← HY.out, ← HVV.out]⟩
            case measure => simp [intOf]; omega
        · obtain rfl : k = 4 := by omega
          have HF : Hid (lsa z = (val (fun i => z (i + 2)) 4, isLow (val (fun i => z (i + 2)) 4))) := lsa_ok z E0.out E1.out hok
          obtain ⟨v, hv⟩ : ∃ v, v = val (fun i => z (i + 2)) 4 := ⟨_, rfl⟩
          rw [← hv] at HF ⊢
          clear hv hok
          go_wp2_with fail
          refine (Leaf.islow_any _ _).mono ?_
          rintro e w' ⟨rfl, rfl⟩
          go_wp2
          go_ret2
          exact ⟨by rw [HF.out]; rfl, rfl⟩
    · have HF : Hid (lsa z = (0, false)) := lsa_head1 z e1
      have b0 : (z 0 != 92) = false := by simp [e0]
      have b1 : (z 1 != 117) = true := by simp [e1]
      clear e0 e1
      go_enter Try.func14, Try.ntmps14
      go_wp2
      go_ret2
      exact ⟨by rw [HF.out]; rfl, rfl⟩
  · have HF : Hid (lsa z = (0, false)) := lsa_head0 z e0
    have b0 : (z 0 != 92) = true := by simp [e0]
    clear e0
    go_enter Try.func14, Try.ntmps14
    go_wp2
    go_ret2
    exact ⟨by rw [HF.out]; rfl, rfl⟩
end Go.Proofs.Qxb6608652a.Expect
