import Derived.Test.Qxb6608652aLeaf
namespace Go.Proofs.Qxb6608652a.Low
open Go.ChangeShapes Go.WideShapes Go.ChangeAt Go.RowKit Qx52

set_option maxHeartbeats 1000000 in
theorem low_short (a : Option Addr) (n c : Nat) (w : World) (hn : n < 6) :
    Calls Try.prog 20 #[.slice a n c] w fun e w' => e = .returned (.tuple #[.int .i32 0, .bool false]) ∧ w' = w := by
  have hb : decide ((n : Int) < 6) = true := by simp; omega
  go_enter Try.func20, Try.ntmps20
  go_wp2
  go_ret2
  exact ⟨rfl, rfl⟩

set_option maxHeartbeats 1000000 in
theorem low_long (z : Nat → Int) (b off n c : Nat) (w : World) (hn : 6 ≤ n) (hnc : n ≤ c) (hz : ∀ i, i < 6 → 0 ≤ z i ∧ z i ≤ 255)
    (hc : ∀ i, i < 6 → w.cell? ⟨b, off + i, none⟩ = some (.int .u8 (z i))) (hcm : c ≤ maxLen) :
    Calls Try.prog 20 #[.slice (some ⟨b, off, none⟩) n c] w fun e w' => e = .returned (.tuple #[.int .i32 (lsa z).1, .bool (lsa z).2]) ∧ w' = w := by
  have hcm' := hcm
  unfold maxLen at hcm'
  have h0 : w.cell? ⟨b, off, none⟩ = some (.int .u8 (z 0)) := hc 0 (by omega)
  have h1 := hc 1 (by omega)
  have z0 := hz 0 (by omega)
  have z1 := hz 1 (by omega)
  have C := Leaf.codeunit_any (fun i => z (i + 2)) b (off + 2) (n - 2) (c - 2) w (by omega) (by omega) (fun i hi => hz (i + 2) (by omega)) (fun i hi => by have := hc (i + 2) (by omega); rw [← this, Nat.add_assoc, Nat.add_comm 2 i]) (by omega)
  have h6 : (6 : Int) ≤ (n : Int) := by omega
  have hb : decide ((n : Int) < 6) = false := by simp; omega
  by_cases e0 : z 0 = 92
  · by_cases e1 : z 1 = 117
    · have b0 : (z 0 != 92) = false := by simp [e0]
      have b1 : (z 1 != 117) = false := by simp [e1]
      obtain ⟨r, hr⟩ : ∃ r, r = cu (fun i => z (i + 2)) := ⟨_, rfl⟩
      have hfin : lsa z = (r.1, r.2 && isLow r.1) := by
        unfold lsa; rw [if_pos ⟨e0, e1⟩, hr]
      rw [← hr] at C
      obtain ⟨r1, r2⟩ := r
      have HF : Hid (lsa z = (r1, r2 && isLow r1)) := hfin
      have HC : Hid (Calls Try.prog 22 #[Value.slice (some ⟨b, off + 2, none⟩) (n - 2) (c - 2)] w fun e w' => e = Ending.returned (Value.tuple #[Value.int IntKind.i32 r1, Value.bool r2]) ∧ w' = w) := C
      clear e0 e1 hc hz C hfin hr
      cases r2
      · go_enter Try.func20, Try.ntmps20
        go_wp2_with fail
        refine HC.out.mono ?_
        rintro e w' ⟨rfl, rfl⟩
        go_wp2
        go_ret2
        exact ⟨by rw [HF.out]; simp, rfl⟩
      · by_cases hlo : 56320 ≤ r1
        · have HL : Hid (isLow r1 = decide (r1 ≤ 57343)) := by show isLow r1 = _; simp [isLow, hlo]
          go_enter Try.func20, Try.ntmps20
          go_wp2_with fail
          refine HC.out.mono ?_
          rintro e w' ⟨rfl, rfl⟩
          go_wp2
          go_ret2
          exact ⟨by rw [HF.out, HL.out]; simp, rfl⟩
        · have HL : Hid (isLow r1 = false) := by show isLow r1 = _; simp [isLow, hlo]
          go_enter Try.func20, Try.ntmps20
          go_wp2_with fail
          refine HC.out.mono ?_
          rintro e w' ⟨rfl, rfl⟩
          go_wp2
          go_ret2
          exact ⟨by rw [HF.out, HL.out]; simp, rfl⟩
    · have HF : Hid (lsa z = (0, false)) := by show lsa z = _; unfold lsa; rw [if_neg (fun h => e1 h.2)]
      have b0 : (z 0 != 92) = false := by simp [e0]
      have b1 : (z 1 != 117) = true := by simp [e1]
      clear C hc hz e0 e1
      go_enter Try.func20, Try.ntmps20
      go_wp2
      go_ret2
      exact ⟨by rw [HF.out]; rfl, rfl⟩
  · have HF : Hid (lsa z = (0, false)) := by show lsa z = _; unfold lsa; rw [if_neg (fun h => e0 h.1)]
    have b0 : (z 0 != 92) = true := by simp [e0]
    clear C hc hz e0
    go_enter Try.func20, Try.ntmps20
    go_wp2
    go_ret2
    exact ⟨by rw [HF.out]; rfl, rfl⟩

set_option maxHeartbeats 1000000 in
theorem zlow_short (a : Option Addr) (n c : Nat) (w : World) (hn : n < 6) :
    Calls Try.prog 13 #[.slice a n c] w fun e w' => e = .returned (.tuple #[.int .i32 0, .bool false]) ∧ w' = w := by
  go_enter Try.func13, Try.ntmps13
  go_wp2_with fail
  refine (low_short a n c w hn).mono ?_
  rintro e w' ⟨rfl, rfl⟩
  go_wp2
  go_ret2
  exact ⟨rfl, rfl⟩

set_option maxHeartbeats 1000000 in
theorem zlow_long (z : Nat → Int) (b off n c : Nat) (w : World) (hn : 6 ≤ n) (hnc : n ≤ c) (hz : ∀ i, i < 6 → 0 ≤ z i ∧ z i ≤ 255)
    (hc : ∀ i, i < 6 → w.cell? ⟨b, off + i, none⟩ = some (.int .u8 (z i))) (hcm : c ≤ maxLen) :
    Calls Try.prog 13 #[.slice (some ⟨b, off, none⟩) n c] w fun e w' => e = .returned (.tuple #[.int .i32 (lsa z).1, .bool (lsa z).2]) ∧ w' = w := by
  have C := low_long z b off n c w hn hnc hz hc hcm
  obtain ⟨r, hr⟩ : ∃ r, r = lsa z := ⟨_, rfl⟩
  rw [← hr] at C ⊢
  obtain ⟨r1, r2⟩ := r
  have HC : Hid (Calls Try.prog 20 #[Value.slice (some ⟨b, off, none⟩) n c] w fun e w' => e = Ending.returned (Value.tuple #[Value.int IntKind.i32 r1, Value.bool r2]) ∧ w' = w) := C
  clear C hr hc hz
  go_enter Try.func13, Try.ntmps13
  go_wp2_with fail
  refine HC.out.mono ?_
  rintro e w' ⟨rfl, rfl⟩
  go_wp2
  go_ret2
  exact ⟨rfl, rfl⟩
end Go.Proofs.Qxb6608652a.Low
