import Derived.Test.Qxb6613555aBase
/- the bound on the total length: it answers, and changes nothing -/
namespace Go.Proofs.Qxb6613555a.Bytes
open Go.ChangeShapes Go.WideShapes Go.ChangeAt Go.RowKit Base

/-- it answers true or false; true: no name is long -/
def Answers (I : Nat) (names : Nat → ByteArray) (e : Ending) : Prop := ∃ b, e = .returned (.bool b) ∧ (b = true → ∀ k, k < I → (names k).size ≤ 1048576)
theorem ansF (I : Nat) (names : Nat → ByteArray) : Answers I names (.returned (.bool false)) := ⟨false, rfl, fun h => by cases h⟩
theorem ansT {I : Nat} {names : Nat → ByteArray} (h : ∀ k, k < I → (names k).size ≤ 1048576) : Answers I names (.returned (.bool true)) := ⟨true, rfl, fun _ => h⟩

set_option maxRecDepth 100000 in
set_option maxHeartbeats 4000000 in
theorem bytes25 (na sa ha ma ia : Option Addr) (N sl hl M I nc sc hc mc ic : Nat) (n : Int) (names : Nat → ByteArray) (w : World) (hN : N ≤ maxLen) (hsl : sl ≤ maxLen) (hhl : hl ≤ maxLen) (hM : M ≤ maxLen) (hI : I ≤ maxLen) (rn : SRow w ia I names) :
    Calls Try.prog 25 #[.slice na N nc, .slice sa sl sc, .slice ha hl hc, .int .i32 n, .slice ia I ic, .slice ma M mc] w fun e w' => Answers I names e ∧ w' = w := by
  have RN : Hid (SRow w ia I names) := rn
  clear rn
  unfold maxLen at hN hsl hhl hM hI
  go_enter Try.func25, Try.ntmps25
  go_wp2_with fail
  all_goals first | (go_ret; exact ⟨ansF _ _, rfl⟩) | skip
  rename_i h7 h6 h5 h4 h3 h2 h1 h0 K _
  go_loop [13, 14] (fun z v => ∃ (a : Int) (k : Nat), 0 ≤ a ∧ a ≤ 1048576 ∧ k ≤ I ∧ z = .int .i64 a ∧ v = .int .i64 k ∧ ∀ k', k' < k → (names k').size ≤ 1048576) (fun _ v => I - (intOf v).toNat)
  case atStart => exact ⟨_, 0, by omega, h0, by omega, rfl, rfl, fun k' hk' => by omega⟩
  case round =>
    obtain ⟨a, k, ha0, ha1, hk, rfl, rfl, hsm⟩ := hrel
    have HSM : Hid (∀ k', k' < k → (names k').size ≤ 1048576) := hsm
    clear hsm
    clear h7 h6 h5 h4 h3 h2 h1 h0
    by_cases hkI : k < I
    · have hkII : (k : Int) < (I : Int) := by omega
      obtain ⟨b, o, rfl, hc⟩ := RN.out.1 (by omega)
      have c1 := hc k hkI
      have hs := RN.out.2 k
      unfold maxLen at hs
      clear hc
      by_cases g1 : ((names k).size : Int) ≤ 1048576
      · have g1' : decide ((1048576 : Int) < ((names k).size : Int)) = false := by simp; omega
        by_cases g2 : a + ((names k).size : Int) ≤ 1048576
        · have g2' : decide ((1048576 : Int) < a + ((names k).size : Int)) = false := by simp; omega
          go_wp2_with fail
          go_round
          case rel => exact ⟨_, k + 1, by omega, g2, by omega, rfl, by go_num, fun k' hk' => by
            by_cases e : k' = k
            · subst e; omega
            · exact HSM.out k' (by omega)⟩
          case measure => simp [intOf]; omega
        · have g2' : decide ((1048576 : Int) < a + ((names k).size : Int)) = true := by simp; omega
          go_wp2_with fail
          go_ret
          exact ⟨ansF _ _, rfl⟩
      · have g1' : decide ((1048576 : Int) < ((names k).size : Int)) = true := by simp; omega
        go_wp2_with fail
        go_ret
        exact ⟨ansF _ _, rfl⟩
    · obtain rfl : I = k := by omega
      have hkII : ¬ (I : Int) < (I : Int) := by omega
      go_wp2_with fail
      all_goals (go_ret; first | exact ⟨ansF _ _, rfl⟩ | exact ⟨ansT HSM.out, rfl⟩)

set_option maxRecDepth 100000 in
set_option maxHeartbeats 4000000 in
theorem bytes32 (na sa ha ma ia : Option Addr) (N sl hl M I nc sc hc mc ic : Nat) (n : Int) (names : Nat → ByteArray) (w : World) (hN : N ≤ maxLen) (hsl : sl ≤ maxLen) (hhl : hl ≤ maxLen) (hM : M ≤ maxLen) (hI : I ≤ maxLen) (rn : SRow w ia I names) :
    Calls Try.prog 32 #[.slice na N nc, .slice sa sl sc, .slice ha hl hc, .int .i32 n, .slice ia I ic, .slice ma M mc] w fun e w' => Answers I names e ∧ w' = w := by
  have RN : Hid (SRow w ia I names) := rn
  clear rn
  unfold maxLen at hN hsl hhl hM hI
  go_enter Try.func32, Try.ntmps32
  go_wp2_with fail
  all_goals first | (go_ret; exact ⟨ansF _ _, rfl⟩) | skip
  rename_i h7 h6 h5 h4 h3 h2 h1 h0 K _
  go_loop [13, 14] (fun z v => ∃ (a : Int) (k : Nat), 0 ≤ a ∧ a ≤ 1048576 ∧ k ≤ I ∧ z = .int .i64 a ∧ v = .int .i64 k ∧ ∀ k', k' < k → (names k').size ≤ 1048576) (fun _ v => I - (intOf v).toNat)
  case atStart => exact ⟨_, 0, by omega, h0, by omega, rfl, rfl, fun k' hk' => by omega⟩
  case round =>
    obtain ⟨a, k, ha0, ha1, hk, rfl, rfl, hsm⟩ := hrel
    have HSM : Hid (∀ k', k' < k → (names k').size ≤ 1048576) := hsm
    clear hsm
    clear h7 h6 h5 h4 h3 h2 h1 h0
    by_cases hkI : k < I
    · have hkII : (k : Int) < (I : Int) := by omega
      obtain ⟨b, o, rfl, hc⟩ := RN.out.1 (by omega)
      have c1 := hc k hkI
      have hs := RN.out.2 k
      unfold maxLen at hs
      clear hc
      by_cases g1 : ((names k).size : Int) ≤ 1048576
      · have g1' : decide ((1048576 : Int) < ((names k).size : Int)) = false := by simp; omega
        by_cases g2 : a + ((names k).size : Int) ≤ 1048576
        · have g2' : decide ((1048576 : Int) < a + ((names k).size : Int)) = false := by simp; omega
          go_wp2_with fail
          go_round
          case rel => exact ⟨_, k + 1, by omega, g2, by omega, rfl, by go_num, fun k' hk' => by
            by_cases e : k' = k
            · subst e; omega
            · exact HSM.out k' (by omega)⟩
          case measure => simp [intOf]; omega
        · have g2' : decide ((1048576 : Int) < a + ((names k).size : Int)) = true := by simp; omega
          go_wp2_with fail
          go_ret
          exact ⟨ansF _ _, rfl⟩
      · have g1' : decide ((1048576 : Int) < ((names k).size : Int)) = true := by simp; omega
        go_wp2_with fail
        go_ret
        exact ⟨ansF _ _, rfl⟩
    · obtain rfl : I = k := by omega
      have hkII : ¬ (I : Int) < (I : Int) := by omega
      go_wp2_with fail
      all_goals (go_ret; first | exact ⟨ansF _ _, rfl⟩ | exact ⟨ansT HSM.out, rfl⟩)
end Go.Proofs.Qxb6613555a.Bytes
