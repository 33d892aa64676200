import Derived.Test.Qxb6608811aFmtRows
import Derived.Test.Qxb6608811aFmtPlain2
import Derived.WalkKit
import Derived.ProofKit
import Derived.WalkSpells
import Derived.WalkLawsBesides
import Derived.Below
namespace Go.Proofs.Qxb6608811aFmt.Leaf
open Go.ChangeShapes Go.WideShapes Go.ChangeAt Go.RowKit Qx11

theorem ret_bool {a b : Bool} (h : a = b) : Ending.returned (.bool a) = .returned (.bool b) := by rw [h]
theorem ret_int {k : IntKind} {a b : Int} (h : a = b) : Ending.returned (.int k a) = .returned (.int k b) := by rw [h]

set_option maxHeartbeats 1000000 in
theorem index_any (s : ByteArray) (n : Nat) (w : World) (hs : s.size < 2097152) :
    Calls Tryf.prog 7 #[.string s, .int .u8 n] w fun e w' => e = .returned (.int .i64 (idx n (Ls s))) ∧ w' = w := by
  go_enter Tryf.func7, Tryf.ntmps7
  go_wp2
  go_loop [5] (fun i => ∃ k : Nat, k ≤ s.size ∧ i = .int .i64 k ∧ ∀ c ∈ (Ls s).take k, c.toNat ≠ n) (fun i => s.size - (intOf i).toNat)
  case atStart => exact ⟨0, by omega, rfl, by simp⟩
  case round =>
    obtain ⟨k, hk, rfl, hinv⟩ := hrel
    have HI : Hid (∀ c ∈ (Ls s).take k, c.toNat ≠ n) := hinv
    clear hinv
    by_cases hlt : k < s.size
    · by_cases hx : s[k].toNat = n
      · have hb : ((s[k].toNat : Int) == (n : Int)) = true := by simp [hx]
        have HX : Hid (s[k].toNat = n) := hx
        clear hx
        go_wp2
        go_ret
        exact ⟨ret_int (idx_hit n s k hlt HI.out HX.out).symm, rfl⟩
      · have hb : ((s[k].toNat : Int) == (n : Int)) = false := by simp; omega
        go_wp2
        go_round
        case rel => exact ⟨k + 1, by omega, by go_num, mem_step hlt HI.out hx⟩
        case measure => simp [intOf]; omega
    · go_wp2
      go_ret
      exact ⟨ret_int (idx_none n s (mem_all hlt HI.out)).symm, rfl⟩

set_option maxHeartbeats 1000000 in
theorem alldigits_any (s : ByteArray) (w : World) (hs : s.size < 2097152) :
    Calls Tryf.prog 15 #[.string s] w fun e w' => e = .returned (.bool ((Ls s).all dig)) ∧ w' = w := by
  go_enter Tryf.func15, Tryf.ntmps15
  go_wp2
  go_loop [3] (fun i => ∃ k : Nat, k ≤ s.size ∧ i = .int .i64 k ∧ ∀ c ∈ (Ls s).take k, dig c = true) (fun i => s.size - (intOf i).toNat)
  case atStart => exact ⟨0, by omega, rfl, by simp⟩
  case round =>
    obtain ⟨k, hk, rfl, hinv⟩ := hrel
    have HI : Hid (∀ c ∈ (Ls s).take k, dig c = true) := hinv
    clear hinv
    by_cases hlt : k < s.size
    · cases hx : dig s[k] with
      | false =>
        have HA : Hid ((Ls s).all dig = false) := all_not hlt hx
        rcases (dig_not _).1 hx with h | h
        · have hb : decide ((s[k].toNat : Int) < 48) = true := by simpa using h
          clear h hx
          go_wp2
          go_ret
          exact ⟨ret_bool HA.out.symm, rfl⟩
        · have hb : decide ((s[k].toNat : Int) < 48) = false := by simp; omega
          clear hx
          go_wp2
          go_ret
          exact ⟨ret_bool HA.out.symm, rfl⟩
      | true =>
        have h := (dig_iff _).1 hx
        have hb : decide ((s[k].toNat : Int) < 48) = false := by simp; omega
        obtain ⟨h1, h2⟩ := h
        have HX : Hid (dig s[k] = true) := hx
        clear hx
        go_wp2
        go_round
        case rel => exact ⟨k + 1, by omega, by go_num, dig_step hlt HI.out HX.out⟩
        case measure => simp [intOf]; omega
    · obtain rfl : k = s.size := by omega
      go_wp2
      go_ret
      exact ⟨ret_bool (all_take HI.out).symm, rfl⟩

set_option maxHeartbeats 1000000 in
theorem zident_any (c : UInt8) (w : World) :
    Calls Tryf.prog 16 #[.int .u8 (c.toNat : Int)] w fun e w' => e = .returned (.bool (idc c)) ∧ w' = w := by
  have hi := idc_iff c
  have hlt := c.toNat_lt
  generalize idc c = b at *
  obtain ⟨y, hy⟩ : ∃ y : Int, y = (c.toNat : Int) := ⟨_, rfl⟩
  have hy0 : 0 ≤ y ∧ y ≤ 255 := by omega
  rw [← hy] at hi ⊢
  clear hy hlt
  cases b with
  | true =>
    rcases hi.1 rfl with ⟨h1, h2⟩ | ⟨h1, h2⟩ | ⟨h1, h2⟩ | rfl
    all_goals
      clear hi
      go_enter Tryf.func16, Tryf.ntmps16
      go_wp2
      go_ret
      exact ⟨rfl, rfl⟩
  | false =>
    have hn : ¬ ((48 ≤ y ∧ y ≤ 57) ∨ (97 ≤ y ∧ y ≤ 122) ∨ (65 ≤ y ∧ y ≤ 90) ∨ y = 45) := fun h => by simpa using hi.2 h
    clear hi
    have h45 : (y == 45) = false := by simp; omega
    rcases (show y < 48 ∨ (58 ≤ y ∧ y ≤ 64) ∨ (91 ≤ y ∧ y ≤ 96) ∨ 123 ≤ y from by omega) with h | ⟨h, h'⟩ | ⟨h, h'⟩ | h
    all_goals
      clear hn
      go_enter Tryf.func16, Tryf.ntmps16
      go_wp2
      go_ret
      exact ⟨rfl, rfl⟩

set_option maxHeartbeats 2000000 in
theorem sident_any (c : UInt8) (w : World) :
    Calls Tryf.prog 27 #[.int .u8 (c.toNat : Int)] w fun e w' => e = .returned (.bool (idc c)) ∧ w' = w := by
  have hi := idc_iff c
  have hlt := c.toNat_lt
  generalize idc c = b at *
  obtain ⟨y, hy⟩ : ∃ y : Int, y = (c.toNat : Int) := ⟨_, rfl⟩
  have hy0 : 0 ≤ y ∧ y ≤ 255 := by omega
  rw [← hy] at hi ⊢
  clear hy hlt
  cases b with
  | true =>
    rcases hi.1 rfl with ⟨h1, h2⟩ | ⟨h1, h2⟩ | ⟨h1, h2⟩ | rfl
    all_goals
      clear hi
      go_enter Tryf.func27, Tryf.ntmps27
      go_wp2
      go_ret
      exact ⟨rfl, rfl⟩
  | false =>
    have hn : ¬ ((48 ≤ y ∧ y ≤ 57) ∨ (97 ≤ y ∧ y ≤ 122) ∨ (65 ≤ y ∧ y ≤ 90) ∨ y = 45) := fun h => by simpa using hi.2 h
    clear hi
    have h45 : (y == 45) = false := by simp; omega
    rcases (show y < 48 ∨ (58 ≤ y ∧ y ≤ 64) ∨ (91 ≤ y ∧ y ≤ 96) ∨ 123 ≤ y from by omega) with h | ⟨h, h'⟩ | ⟨h, h'⟩ | h
    all_goals
      clear hn
      go_enter Tryf.func27, Tryf.ntmps27
      go_wp2
      go_ret
      first | exact ⟨rfl, rfl⟩ | (refine ⟨ret_bool ?_, rfl⟩; simp; omega)
end Go.Proofs.Qxb6608811aFmt.Leaf
