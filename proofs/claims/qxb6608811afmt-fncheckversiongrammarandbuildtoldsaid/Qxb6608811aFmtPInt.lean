import Derived.Test.Qxb6608811aFmtLeaf2
import Derived.Deep.QuietTactic
import Derived.BigQuiet
namespace Go.Proofs.Qxb6608811aFmt.PInt
open Go.ChangeShapes Go.WideShapes Go.ChangeAt Go.RowKit Qx11 Leaf

theorem Ls_take (s : ByteArray) (k : Nat) : Ls (s.extract 0 k) = (Ls s).take k := by rw [Ls_extract]; simp [mid]
theorem Ls_drop (s : ByteArray) (k : Nat) : Ls (s.extract k s.size) = (Ls s).drop k := by
  rw [Ls_extract]; unfold mid; rw [List.take_of_length_le (by rw [Ls_len]; omega)]

set_option maxHeartbeats 1000000 in
theorem badnum_any (s : ByteArray) (w : World) (hs : s.size < 2097152) (hp : 0 < s.size) :
    Calls Tryf.prog 28 #[.string s] w fun e w' => e = .returned (.bool (bad (Ls s))) ∧ w' = w := by
  have HB : Hid (bad (Ls s) = (decide (1 < s.size) && (s[0].toNat == 48) && (Ls s).all dig)) := bad_eq s hp
  go_enter Tryf.func28, Tryf.ntmps28
  go_wp2
  go_loop [3] (fun i => ∃ k : Nat, k ≤ s.size ∧ i = .int .i64 k ∧ ∀ c ∈ (Ls s).take k, dig c = true) (fun i => s.size - (intOf i).toNat)
  case atStart => exact ⟨0, by omega, rfl, by simp⟩
  case round =>
    obtain ⟨k, hk, rfl, hinv⟩ := hrel
    have HI : Hid (∀ c ∈ (Ls s).take k, dig c = true) := hinv
    clear hinv
    by_cases hlt : k < s.size
    · have hb0 : decide ((k : Int) < (s.size : Int)) = true := by simp; omega
      have hne : ((k : Int) == (s.size : Int)) = false := by simp; omega
      cases hx : dig s[k] with
      | false =>
        have HF : Hid (bad (Ls s) = false) := by show bad (Ls s) = false; rw [HB.out, all_not hlt hx]; simp
        rcases (dig_not _).1 hx with h | h
        · have hb : decide (48 ≤ (s[k].toNat : Int)) = false := by simp; omega
          clear h hx
          go_wp2
          go_ret
          exact ⟨ret_bool HF.out.symm, rfl⟩
        · have hb : decide (48 ≤ (s[k].toNat : Int)) = true := by simp; omega
          clear hx
          go_wp2
          go_ret
          exact ⟨ret_bool HF.out.symm, rfl⟩
      | true =>
        have h := (dig_iff _).1 hx
        have hb : decide (48 ≤ (s[k].toNat : Int)) = true := by simp; omega
        obtain ⟨h1, h2⟩ := h
        have HX : Hid (dig s[k] = true) := hx
        clear hx
        go_wp2
        go_round
        case rel => exact ⟨k + 1, by omega, by go_num, dig_step hlt HI.out HX.out⟩
        case measure => simp [intOf]; omega
    · obtain rfl : k = s.size := by omega
      have hb0 : decide ((s.size : Int) < (s.size : Int)) = false := by simp
      have HA := all_take HI.out
      by_cases h1 : 1 < s.size
      · have hb1 : decide ((1 : Int) < (s.size : Int)) = true := by simp; omega
        by_cases h48 : s[0].toNat = 48
        · have hb : ((s[0].toNat : Int) == 48) = true := by simp; omega
          have HF : Hid (bad (Ls s) = true) := by show bad (Ls s) = true; rw [HB.out, HA]; simp [h1, h48]
          clear h48 HA
          go_wp2
          go_ret
          exact ⟨ret_bool (by rw [HF.out]), rfl⟩
        · have hb : ((s[0].toNat : Int) == 48) = false := by simp; omega
          have HF : Hid (bad (Ls s) = false) := by show bad (Ls s) = false; rw [HB.out]; simp [h48]
          clear h48 HA
          go_wp2
          go_ret
          exact ⟨ret_bool (by rw [HF.out]), rfl⟩
      · have hb1 : decide ((1 : Int) < (s.size : Int)) = false := by simp; omega
        have HF : Hid (bad (Ls s) = false) := by show bad (Ls s) = false; rw [HB.out]; simp [h1]
        clear HA
        go_wp2
        go_ret
        exact ⟨ret_bool (by rw [HF.out]), rfl⟩

theorem pI_first {s : ByteArray} (h : 0 < s.size) (hd : dig s[0] = false) : pI (Ls s) = none := by
  obtain ⟨r, e⟩ := Ls_head s h
  rw [e]; simp [pI, hd, isNum]
theorem pI_nil : pI [] = none := rfl
/-- a run of k digits -/
theorem pI_run {s : ByteArray} {k : Nat} (hp : 0 < k) (hk : k ≤ s.size) (h : (Ls s).takeWhile dig = (Ls s).take k ∧ (Ls s).dropWhile dig = (Ls s).drop k) (hb : ∀ c ∈ (Ls s).take k, dig c = true) :
    pI (Ls s) = if k ≠ 1 ∧ (s[0]'(by omega)).toNat = 48 then none else some ((Ls s).take k, (Ls s).drop k) := by
  unfold pI
  rw [h.1, h.2]
  obtain ⟨r, e⟩ := Ls_head s (by omega)
  obtain ⟨j, rfl⟩ : ∃ j, k = j + 1 := ⟨k - 1, by omega⟩
  have hl := Ls_len s
  have hall : ((Ls s).take (j + 1)).all dig = true := List.all_eq_true.2 hb
  have hlen : ((Ls s).take (j + 1)).length = j + 1 := by rw [List.length_take]; omega
  have hhd : hd 48 ((Ls s).take (j + 1)) = ((s[0]'(by omega)).toNat == 48) := by rw [e]; rfl
  have hne : ((Ls s).take (j + 1)).isEmpty = false := by rw [e]; rfl
  have hn : isNum ((Ls s).take (j + 1)) = !(decide (1 < j + 1) && ((s[0]'(by omega)).toNat == 48)) := by
    unfold isNum; rw [hall, hlen, hhd, hne]; rfl
  rw [hn]
  by_cases hc : j + 1 ≠ 1 ∧ (s[0]'(by omega)).toNat = 48
  · rw [if_pos hc, if_neg]
    obtain ⟨h1, h2⟩ := hc
    simp [h2, show 0 < j from by omega]
  · rw [if_neg hc, if_pos]
    by_cases h2 : (s[0]'(by omega)).toNat = 48
    · have : j = 0 := by
        by_cases hj : j = 0
        · exact hj
        · exact absurd ⟨by omega, h2⟩ hc
      subst this; simp
    · simp [h2]

set_option maxHeartbeats 2000000 in
theorem parseInt_any (s : ByteArray) (w : World) (hs : s.size < 2097152) :
    Calls Tryf.prog 22 #[.string s] w fun e w' =>
      ((pI (Ls s) = none ∧ ∃ t r, e = .returned (.tuple #[.string t, .string r, .bool false])) ∨
       (∃ t r, pI (Ls s) = some (Ls t, Ls r) ∧ r.size < s.size ∧ e = .returned (.tuple #[.string t, .string r, .bool true]))) ∧ ∃ n, w' = w.drewN n := by
  by_cases h0 : s.size = 0
  · have he := empty_yes h0
    have HF : Hid (pI (Ls s) = none) := by show pI (Ls s) = none; rw [Ls_nil h0]; rfl
    go_enter Tryf.func22, Tryf.ntmps22
    go_wp2
    go_ret3
    exact ⟨.inl ⟨HF.out, _, _, rfl⟩, 0, rfl⟩
  have hp : 0 < s.size := by omega
  have he := empty_not hp
  cases hx0 : dig s[0] with
  | false =>
    have HF : Hid (pI (Ls s) = none) := pI_first hp hx0
    rcases (dig_not _).1 hx0 with h | h
    · have hb : decide ((s[0].toNat : Int) < 48) = true := by simpa using h
      clear h hx0
      go_enter Tryf.func22, Tryf.ntmps22
      go_wp2
      go_ret3
      exact ⟨.inl ⟨HF.out, _, _, rfl⟩, 0, rfl⟩
    · have hb : decide ((s[0].toNat : Int) < 48) = false := by simp; omega
      clear hx0
      go_enter Tryf.func22, Tryf.ntmps22
      go_wp2
      go_ret3
      exact ⟨.inl ⟨HF.out, _, _, rfl⟩, 0, rfl⟩
  | true =>
    have h := (dig_iff _).1 hx0
    have hb00 : decide ((s[0].toNat : Int) < 48) = false := by simp; omega
    obtain ⟨h01, h02⟩ := h
    have hb01 : decide ((57 : Int) < (s[0].toNat : Int)) = false := by simp; omega
    have HX0 : Hid (dig s[0] = true) := hx0
    clear hx0 h0
    go_enter Tryf.func22, Tryf.ntmps22
    go_wp2_with fail
    go_loop [5] (fun i => ∃ k : Nat, 1 ≤ k ∧ k ≤ s.size ∧ i = .int .i64 k ∧ ∀ c ∈ (Ls s).take k, dig c = true) (fun i => s.size - (intOf i).toNat)
    case atStart => exact ⟨1, by omega, by omega, rfl, dig_step hp (by simp) HX0.out⟩
    case round =>
      obtain ⟨k, hk1, hk, rfl, hinv⟩ := hrel
      have HI : Hid (∀ c ∈ (Ls s).take k, dig c = true) := hinv
      clear hinv
      by_cases hgo : ∃ h : k < s.size, dig s[k] = true
      · obtain ⟨hlt, hx⟩ := hgo
        have h := (dig_iff _).1 hx
        have hb0 : decide ((k : Int) < (s.size : Int)) = true := by simp; omega
        have hb : decide (48 ≤ (s[k].toNat : Int)) = true := by simp; omega
        obtain ⟨h1, h2⟩ := h
        have HX : Hid (dig s[k] = true) := hx
        clear hx
        go_wp2_with fail
        go_round
        case rel => exact ⟨k + 1, by omega, by omega, by go_num, dig_step hlt HI.out HX.out⟩
        case measure => simp [intOf]; omega
      · -- the run ends at k
        have hrun : (Ls s).takeWhile dig = (Ls s).take k ∧ (Ls s).dropWhile dig = (Ls s).drop k := by
          by_cases hlt : k < s.size
          · cases hx : dig s[k] with
            | false => exact dig_hit hlt HI.out hx
            | true => exact absurd ⟨hlt, hx⟩ hgo
          · exact dig_end hlt HI.out
        have HP : Hid (pI (Ls s) = if k ≠ 1 ∧ s[0].toNat = 48 then none else some ((Ls s).take k, (Ls s).drop k)) := pI_run (by omega) hk hrun HI.out
        clear hrun
        have hguard : (decide (k < s.size) = false) ∨ (∃ h : k < s.size, decide ((k : Int) < (s.size : Int)) = true ∧ decide (48 ≤ (s[k].toNat : Int)) = false) ∨ (∃ h : k < s.size, decide ((k : Int) < (s.size : Int)) = true ∧ decide (48 ≤ (s[k].toNat : Int)) = true ∧ decide ((s[k].toNat : Int) ≤ 57) = false) := by
          by_cases hlt : k < s.size
          · have hx : dig s[k] = false := by
              cases hx : dig s[k] with
              | false => rfl
              | true => exact absurd ⟨hlt, hx⟩ hgo
            rcases (dig_not _).1 hx with h | h
            · exact .inr (.inl ⟨hlt, by simp; omega, by simp; omega⟩)
            · exact .inr (.inr ⟨hlt, by simp; omega, by simp; omega, by simp; omega⟩)
          · exact .inl (by simp; omega)
        clear hgo
        have hk63 : (k : Int) ≤ (s.size : Int) := by omega
        by_cases h48 : s[0].toNat = 48
        · have hb : ((s[0].toNat : Int) == 48) = true := by simp; omega
          by_cases hk1' : k = 1
          · have HF : Hid (pI (Ls s) = some ((Ls s).take k, (Ls s).drop k)) := by show pI (Ls s) = _; rw [HP.out, if_neg (fun h => h.1 hk1')]
            have hbk : ((k : Int) != 1) = false := by simp; omega
            clear hk1' h48
            rcases hguard with hg | ⟨hlt, hg, hg'⟩ | ⟨hlt, hg, hg', hg''⟩
            all_goals
              go_wp2_with fail
              go_quiet (fail)
              go_wp2
              go_ret3
              exact ⟨.inr ⟨s.extract 0 k, s.extract k s.size, by rw [HF.out, Ls_take, Ls_drop], by rw [size_extract s k s.size (Nat.le_refl _)]; omega, rfl⟩, _, rfl⟩
          · have HF : Hid (pI (Ls s) = none) := by show pI (Ls s) = _; rw [HP.out, if_pos ⟨hk1', h48⟩]
            have hbk : ((k : Int) != 1) = true := by simp; omega
            clear hk1' h48
            rcases hguard with hg | ⟨hlt, hg, hg'⟩ | ⟨hlt, hg, hg', hg''⟩
            all_goals
              go_wp2
              go_ret3
              exact ⟨.inl ⟨HF.out, _, _, rfl⟩, 0, rfl⟩
        · have hb : ((s[0].toNat : Int) == 48) = false := by simp; omega
          have HF : Hid (pI (Ls s) = some ((Ls s).take k, (Ls s).drop k)) := by show pI (Ls s) = _; rw [HP.out, if_neg (fun h => h48 h.2)]
          clear h48
          rcases hguard with hg | ⟨hlt, hg, hg'⟩ | ⟨hlt, hg, hg', hg''⟩
          all_goals
            go_wp2_with fail
            go_quiet (fail)
            go_wp2
            go_ret3
            exact ⟨.inr ⟨s.extract 0 k, s.extract k s.size, by rw [HF.out, Ls_take, Ls_drop], by rw [size_extract s k s.size (Nat.le_refl _)]; omega, rfl⟩, _, rfl⟩
end Go.Proofs.Qxb6608811aFmt.PInt
