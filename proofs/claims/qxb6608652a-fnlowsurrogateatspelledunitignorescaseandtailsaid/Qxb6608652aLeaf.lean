import Derived.Test.Qxb6608652aRows
import Derived.Test.Qxb6608652aPlain
import Derived.Test.Qxb6608652aBits
import Derived.WalkKit
import Derived.ProofKit
import Derived.WalkSpells
import Derived.WalkLawsBesides
import Derived.Below
namespace Go.Proofs.Qxb6608652a.Leaf
open Go.ChangeShapes Go.WideShapes Go.ChangeAt Go.RowKit Qx52

theorem ret_int {k : IntKind} {a b : Int} (h : a = b) : Ending.returned (.int k a) = .returned (.int k b) := by rw [h]
theorem ret_bool {a b : Bool} (h : a = b) : Ending.returned (.bool a) = .returned (.bool b) := by rw [h]

theorem islow_any (u : Int) (w : World) :
    Calls Try.prog 18 #[.int .i32 u] w fun e w' => e = .returned (.bool (isLow u)) ∧ w' = w := by
  by_cases h : 56320 ≤ u
  · go_enter Try.func18, Try.ntmps18
    go_wp2
    all_goals go_ret
    exact ⟨ret_bool (by simp [isLow, h]), rfl⟩
  · go_enter Try.func18, Try.ntmps18
    go_wp2
    all_goals go_ret
    exact ⟨ret_bool (by simp [isLow]; omega), rfl⟩

set_option maxHeartbeats 1000000 in
theorem hexdigit_any (c : Int) (w : World) (_h0 : 0 ≤ c) (_h1 : c ≤ 255) :
    Calls Try.prog 17 #[.int .u8 c] w fun e w' => e = .returned (.int .i64 (hexv c)) ∧ w' = w := by
  have hl := hexv_lo c
  go_enter Try.func17, Try.ntmps17
  go_wp2
  go_loop [3] (fun v => ∃ k : Nat, k ≤ 16 ∧ v = .int .i64 k ∧ ∀ j : Nat, j < k → hexv c ≠ (j : Int)) (fun v => 16 - (intOf v).toNat)
  case atStart => exact ⟨0, by omega, rfl, fun j hj => by omega⟩
  case round =>
    obtain ⟨k, hk, rfl, hne⟩ := hrel
    have HN : Hid (∀ j : Nat, j < k → hexv c ≠ (j : Int)) := hne
    clear hne
    by_cases hlt : k < 16
    · by_cases h10 : k < 10
      · by_cases hm : c = 48 + (k : Int)
        · have hb : (c == 48 + (k : Int)) = true := by simpa using hm
          have HM : Hid (c = 48 + (k : Int)) := hm
          clear hm
          go_wp2
          go_ret
          exact ⟨ret_int (by have := HM.out; unfold hexv; omega), rfl⟩
        · have hb : (c == 48 + (k : Int)) = false := by simpa using hm
          go_wp2
          go_round
          case rel => exact ⟨k + 1, by omega, by go_num, hex_step_dec h10 hm HN.out⟩
          case measure => simp [intOf]; omega
      · by_cases hm : c = 97 + (k : Int) - 10
        · have hb : (c == 97 + (k : Int) - 10) = true := by simpa using hm
          have HM : Hid (c = 97 + (k : Int) - 10) := hm
          clear hm
          go_wp2
          go_ret
          exact ⟨ret_int (by have := HM.out; unfold hexv; omega), rfl⟩
        · by_cases hm2 : c = 65 + (k : Int) - 10
          · have hb : (c == 97 + (k : Int) - 10) = false := by simpa using hm
            have hb2 : (c == 65 + (k : Int) - 10) = true := by simpa using hm2
            have HM : Hid (c = 65 + (k : Int) - 10) := hm2
            clear hm2 hm
            go_wp2
            go_ret
            exact ⟨ret_int (by have := HM.out; unfold hexv; omega), rfl⟩
          · have hb : (c == 97 + (k : Int) - 10) = false := by simpa using hm
            have hb2 : (c == 65 + (k : Int) - 10) = false := by simpa using hm2
            go_wp2
            go_round
            case rel => exact ⟨k + 1, by omega, by go_num, hex_step_let (by omega) hm hm2 HN.out⟩
            case measure => simp [intOf]; omega
    · go_wp2
      go_ret
      exact ⟨ret_int (by have h := HN.out; exact (hex_none (by omega) h).symm), rfl⟩


theorem step_val (z : Nat → Int) (k : Nat) (d : Int) (h0 : 0 ≤ val z k ∧ val z k < 4096) (hd : 0 ≤ d ∧ d < 16) (he : hexv (z k) = d) :
    Value.int IntKind.i32 (bits .or .i32 (val z k * 16) d) = .int .i32 (val z (k + 1)) := by
  rw [BitsP.or_join _ _ h0.1 h0.2 hd.1 hd.2]; simp only [val]; rw [he]

set_option maxHeartbeats 1000000 in
theorem codeunit_any (z : Nat → Int) (b off n c : Nat) (w : World) (hn : 4 ≤ n) (hnc : n ≤ c) (hz : ∀ i, i < 4 → 0 ≤ z i ∧ z i ≤ 255)
    (hc : ∀ i, i < 4 → w.cell? ⟨b, off + i, none⟩ = some (.int .u8 (z i))) (hcm : c ≤ maxLen) :
    Calls Try.prog 22 #[.slice (some ⟨b, off, none⟩) n c] w fun e w' => e = .returned (.tuple #[.int .i32 (cu z).1, .bool (cu z).2]) ∧ w' = w := by
  unfold maxLen at hcm
  go_enter Try.func22, Try.ntmps22
  go_wp2
  go_loop [4, 14] (fun u i => ∃ k : Nat, k ≤ 4 ∧ i = .int .i64 k ∧ okN z k ∧ u = .int .i32 (val z k)) (fun _ i => 4 - (intOf i).toNat)
  case atStart => exact ⟨0, by omega, rfl, fun _ h => by omega, rfl⟩
  case round =>
    obtain ⟨k, hk, rfl, hok, rfl⟩ := hrel
    by_cases hlt : k < 4
    · have hzk := hz k hlt
      have hck := hc k hlt
      have hvb := val_lt z k (by omega) hok
      by_cases hd : 48 ≤ z k ∧ z k ≤ 57
      · have he : Hid (hexv (z k) = z k - 48) := by show hexv (z k) = z k - 48; unfold hexv; omega
        obtain ⟨hd1, hd2⟩ := hd
        go_wp2
        go_round
        case rel => exact ⟨k + 1, by omega, by go_num, okN_succ z k hok (by rw [he.out]; omega), step_val z k _ hvb (by omega) he.out⟩
        case measure => simp [intOf]; omega
      · by_cases hl : 97 ≤ z k ∧ z k ≤ 102
        · have he : Hid (hexv (z k) = z k - 97 + 10) := by show hexv (z k) = z k - 97 + 10; unfold hexv; omega
          obtain ⟨hl1, hl2⟩ := hl
          have hd57 : 57 < z k := by omega
          clear hd
          go_wp2
          go_round
          case rel => exact ⟨k + 1, by omega, by go_num, okN_succ z k hok (by rw [he.out]; omega), step_val z k _ hvb (by omega) he.out⟩
          case measure => simp [intOf]; omega
        · by_cases hu : 65 ≤ z k ∧ z k ≤ 70
          · have he : Hid (hexv (z k) = z k - 65 + 10) := by show hexv (z k) = z k - 65 + 10; unfold hexv; omega
            obtain ⟨hu1, hu2⟩ := hu
            have hd57 : 57 < z k := by omega
            have hl97 : z k < 97 := by omega
            clear hd hl
            go_wp2
            go_round
            case rel => exact ⟨k + 1, by omega, by go_num, okN_succ z k hok (by rw [he.out]; omega), step_val z k _ hvb (by omega) he.out⟩
            case measure => simp [intOf]; omega
          · have he : hexv (z k) < 0 := by unfold hexv; omega
            have hfin : Hid (cu z = (0, false)) := cu_no z k hlt he
            clear he
            rcases (show z k < 48 ∨ (58 ≤ z k ∧ z k ≤ 64) ∨ (71 ≤ z k ∧ z k ≤ 96) ∨ 103 ≤ z k from by omega) with h | ⟨h, h'⟩ | ⟨h, h'⟩ | h
            all_goals
              clear hd hl hu
              go_wp2
              go_ret2
              exact ⟨by rw [hfin.out]; rfl, rfl⟩
    · have hfin : Hid (cu z = (val z 4, true)) := by
        obtain rfl : k = 4 := by omega
        exact cu_yes z hok
      obtain rfl : k = 4 := by omega
      go_wp2
      go_ret2
      exact ⟨by rw [hfin.out]; rfl, rfl⟩

end Go.Proofs.Qxb6608652a.Leaf
