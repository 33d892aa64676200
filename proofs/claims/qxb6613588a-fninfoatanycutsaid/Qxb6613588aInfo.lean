import Derived.Test.Qxb6613588aBase
namespace Go.Proofs.Qxb6613588a.Info
open Go.ChangeShapes Go.WideShapes Go.ChangeAt Go.RowKit Base

/-- a declaration that is no info -/
def Other (v : Value) : Prop := ∃ a, v = .iface 59 (.pointer (some a)) ∨ v = .iface 72 (.pointer (some a))

theorem as52 (v : Value) (w : World) : (Instr.typeAssert (.iface 52 v) 77 52 true).run Try.prog w = .ok (.tuple #[v, .bool true]) w := by kernel_rfl
theorem as59 (v : Value) (w : World) : (Instr.typeAssert (.iface 59 v) 77 52 true).run Try.prog w = .ok (.tuple #[.pointer none, .bool false]) w := by kernel_rfl
theorem as72 (v : Value) (w : World) : (Instr.typeAssert (.iface 72 v) 77 52 true).run Try.prog w = .ok (.tuple #[.pointer none, .bool false]) w := by kernel_rfl
attribute [local go_sem] as52 as59 as72

set_option maxHeartbeats 2000000 in
theorem info_none (F : Nat) (da : Option Addr) (g o n c : Nat) (w : World) (hf : w.cell? ⟨F, 1, none⟩ = some (.slice da n c)) (hn : n ≤ maxLen) (hda : 0 < n → da = some ⟨g, o, none⟩)
    (hc : ∀ i, i < n → ∃ v, w.cell? ⟨g, o + i, none⟩ = some v ∧ Other v) :
    Calls Try.prog 21 #[.pointer (some ⟨F, 0, none⟩)] w fun e w' => e = .returned (.pointer none) ∧ w' = w := by
  unfold maxLen at hn
  have HC : Hid (∀ i, i < n → ∃ v, w.cell? ⟨g, o + i, none⟩ = some v ∧ Other v) := hc
  clear hc
  by_cases h0 : n = 0
  · subst h0
    clear hda
    go_enter Try.func21, Try.ntmps21
    go_wp2_with fail
    refine wp_loop_rounds 1 ?_
    rw [rounds_succ]
    go_wp2_with fail
    go_ret
    exact ⟨rfl, rfl⟩
  obtain rfl := hda (by omega)
  clear hda
  go_enter Try.func21, Try.ntmps21
  go_wp2_with fail
  go_loop [12] (fun v => ∃ i : Nat, i ≤ n ∧ v = .int .i64 i) (fun v => n - (intOf v).toNat)
  case atStart => exact ⟨0, by omega, rfl⟩
  case round =>
    obtain ⟨i, hi, rfl⟩ := hrel
    by_cases hlt : i < n
    · obtain ⟨v, hv, a, hov⟩ := HC.out i hlt
      have hin : (i : Int) < (n : Int) := by omega
      rcases hov with rfl | rfl
      · go_wp2_with fail
        go_round
        case rel => exact ⟨i + 1, by omega, by go_num⟩
        case measure => simp [intOf]; omega
      · go_wp2_with fail
        go_round
        case rel => exact ⟨i + 1, by omega, by go_num⟩
        case measure => simp [intOf]; omega
    · go_wp2_with fail
      go_ret
      exact ⟨rfl, rfl⟩

set_option maxHeartbeats 2000000 in
theorem info_hit (F : Nat) (g o n c p A : Nat) (B : Value) (w : World) (hf : w.cell? ⟨F, 1, none⟩ = some (.slice (some ⟨g, o, none⟩) n c)) (hn : n ≤ maxLen) (hp : p < n)
    (hc : ∀ i, i < p → ∃ v, w.cell? ⟨g, o + i, none⟩ = some v ∧ Other v) (hcp : w.cell? ⟨g, o + p, none⟩ = some (.iface 52 (.pointer (some ⟨A, 0, none⟩)))) (hA : w.cell? ⟨A, 0, none⟩ = some B) :
    Calls Try.prog 21 #[.pointer (some ⟨F, 0, none⟩)] w fun e w' => e = .returned B ∧ w' = w := by
  unfold maxLen at hn
  have HC : Hid (∀ i, i < p → ∃ v, w.cell? ⟨g, o + i, none⟩ = some v ∧ Other v) := hc
  clear hc
  go_enter Try.func21, Try.ntmps21
  go_wp2_with fail
  go_loop [12] (fun v => ∃ i : Nat, i ≤ p ∧ v = .int .i64 i) (fun v => n - (intOf v).toNat)
  case atStart => exact ⟨0, by omega, rfl⟩
  case round =>
    obtain ⟨i, hi, rfl⟩ := hrel
    have hin : (i : Int) < (n : Int) := by omega
    by_cases hlt : i < p
    · obtain ⟨v, hv, a, hov⟩ := HC.out i hlt
      rcases hov with rfl | rfl
      · go_wp2_with fail
        go_round
        case rel => exact ⟨i + 1, by omega, by go_num⟩
        case measure => simp [intOf]; omega
      · go_wp2_with fail
        go_round
        case rel => exact ⟨i + 1, by omega, by go_num⟩
        case measure => simp [intOf]; omega
    · obtain rfl : i = p := by omega
      go_wp2_with fail
      go_ret
      exact ⟨rfl, rfl⟩
end Go.Proofs.Qxb6613588a.Info
