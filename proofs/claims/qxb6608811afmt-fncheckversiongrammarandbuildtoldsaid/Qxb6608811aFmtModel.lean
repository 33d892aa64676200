import Derived.Test.Qxb6608811aFmtLeaf2
import Derived.Test.Qxb6608811aFmtModelP
import Derived.Deep.DeepCutAuto
namespace Go.Proofs.Qxb6608811aFmt.Model
open Go.ChangeShapes Go.WideShapes Go.ChangeAt Go.RowKit Qx11 Leaf Leaf2

set_option maxRecDepth 100000 in
set_option maxHeartbeats 4000000 in
theorem model_any (s : ByteArray) (w : World) (hs : s.size < 2097152) :
    Calls Tryf.prog 5 #[.string s] w fun e w' => e = .returned (.tuple #[.bool (model (Ls s)).1, .bool (model (Ls s)).2]) ∧ w' = w := by
  have HI1 : Hid (∀ w, Calls Tryf.prog 7 #[.string s, .int .u8 43] w fun e w' => e = .returned (.int .i64 (idx 43 (Ls s))) ∧ w' = w) := fun w => index_any s 43 w hs
  go_enter Tryf.func5, Tryf.ntmps5
  go_wp2_with fail
  refine (HI1.out _).mono ?_
  rintro e w1 ⟨rfl, rfl⟩
  go_upto_if 19 with fail
  go_cut [4, 5] (fun v _ wx => ∃ mb : ByteArray, v = .string mb ∧ mb.size ≤ s.size ∧ Ls mb = upTo 43 (Ls s) ∧ model (Ls s) = m2 (upTo 43 (Ls s)) ∧ wx = w1)
  case first =>
    rcases idx_cases 43 s with ⟨hi, he, hu⟩ | ⟨K, hK, hi, he, hu, ht⟩
    · have HM : Hid (Ls s = upTo 43 (Ls s) ∧ model (Ls s) = m2 (upTo 43 (Ls s))) := ⟨hu.symm, by rw [model_eq, he]; rfl⟩
      rw [hi]
      clear hi he hu
      go_wp2_with fail
      go_meet
      exact ⟨s, rfl, Nat.le_refl _, HM.out.1, HM.out.2, rfl⟩
    · rw [hi]
      have HU : Hid (Ls (s.extract 0 K) = upTo 43 (Ls s)) := hu
      have HS0 : Hid ((s.extract 0 K).size = K) := size_extract s 0 K (by omega)
      have hw1 : ((K : Int) + 1).toNat = K + 1 := by omega
      have HS1 : Hid ((s.extract (K + 1) s.size).size = s.size - (K + 1)) := size_extract s (K + 1) s.size (Nat.le_refl _)
      have C := fun w => idents_any (s.extract (K + 1) s.size) false w (by rw [HS1.out]; omega)
      rw [ht] at C
      cases hid : idents false (frm 43 (Ls s)).tail with
      | false =>
        rw [hid] at C
        have HC : Hid (∀ w, Calls Tryf.prog 8 #[.string (s.extract (K + 1) s.size), .bool false] w fun e w' => e = .returned (.bool false) ∧ w' = w) := C
        have HM : Hid (model (Ls s) = (false, false)) := by show model _ = _; rw [model_eq, he, hid]; rfl
        clear C hid ht hu he hi
        go_wp2_with fail
        refine (HC.out _).mono ?_
        rintro e w2 ⟨rfl, rfl⟩
        go_wp2_with fail
        go_ret2
        exact ⟨by rw [HM.out]; rfl, rfl⟩
      | true =>
        rw [hid] at C
        have HC : Hid (∀ w, Calls Tryf.prog 8 #[.string (s.extract (K + 1) s.size), .bool false] w fun e w' => e = .returned (.bool true) ∧ w' = w) := C
        have HM : Hid (model (Ls s) = m2 (upTo 43 (Ls s))) := by show model _ = _; rw [model_eq, he, hid]; rfl
        clear C hid ht hu he hi
        go_wp2_with fail
        refine (HC.out _).mono ?_
        rintro e w2 ⟨rfl, rfl⟩
        go_wp2_with fail
        go_meet
        exact ⟨s.extract 0 K, rfl, by rw [HS0.out]; omega, HU.out, HM.out, rfl⟩
  case rest =>
    obtain ⟨mb, rfl, hmb, hLm, hmod, rfl⟩ := hcut
    have HLm : Hid (Ls mb = upTo 43 (Ls s)) := hLm
    have HM : Hid (model (Ls s) = m2 (Ls mb)) := by show _ = _; rw [hmod, hLm]
    clear hLm hmod HI1 HLm
    have hmb' : mb.size < 2097152 := by omega
    have HI2 : Hid (∀ w, Calls Tryf.prog 7 #[.string mb, .int .u8 45] w fun e w' => e = .returned (.int .i64 (idx 45 (Ls mb))) ∧ w' = w) := fun w => index_any mb 45 w hmb'
    go_wp2_with fail
    refine (HI2.out _).mono ?_
    rintro e w2 ⟨rfl, rfl⟩
    go_upto_if 33 with fail
    go_cut [6, 7] (fun v _ wx => ∃ cb : ByteArray, v = .string cb ∧ cb.size ≤ mb.size ∧ Ls cb = upTo 45 (Ls mb) ∧ m2 (Ls mb) = m3 (upTo 45 (Ls mb)) ∧ wx = w2)
    case first =>
      rcases idx_cases 45 mb with ⟨hi, he, hu⟩ | ⟨K, hK, hi, he, hu, ht⟩
      · have HM2 : Hid (Ls mb = upTo 45 (Ls mb) ∧ m2 (Ls mb) = m3 (upTo 45 (Ls mb))) := ⟨hu.symm, by unfold m2; rw [he]; rfl⟩
        rw [hi]
        clear hi he hu
        go_wp2_with fail
        go_meet
        exact ⟨mb, rfl, Nat.le_refl _, HM2.out.1, HM2.out.2, rfl⟩
      · rw [hi]
        have HU : Hid (Ls (mb.extract 0 K) = upTo 45 (Ls mb)) := hu
        have HS0 : Hid ((mb.extract 0 K).size = K) := size_extract mb 0 K (by omega)
        have hw1 : ((K : Int) + 1).toNat = K + 1 := by omega
        have HS1 : Hid ((mb.extract (K + 1) mb.size).size = mb.size - (K + 1)) := size_extract mb (K + 1) mb.size (Nat.le_refl _)
        have C := fun w => idents_any (mb.extract (K + 1) mb.size) true w (by rw [HS1.out]; omega)
        rw [ht] at C
        cases hid : idents true (frm 45 (Ls mb)).tail with
        | false =>
          rw [hid] at C
          have HC : Hid (∀ w, Calls Tryf.prog 8 #[.string (mb.extract (K + 1) mb.size), .bool true] w fun e w' => e = .returned (.bool false) ∧ w' = w) := C
          have HF : Hid (model (Ls s) = (false, false)) := by show model _ = _; rw [HM.out]; unfold m2; rw [he, hid]; rfl
          clear C hid ht hu he hi
          go_wp2_with fail
          refine (HC.out _).mono ?_
          rintro e w2 ⟨rfl, rfl⟩
          go_wp2_with fail
          go_ret2
          exact ⟨by rw [HF.out]; rfl, rfl⟩
        | true =>
          rw [hid] at C
          have HC : Hid (∀ w, Calls Tryf.prog 8 #[.string (mb.extract (K + 1) mb.size), .bool true] w fun e w' => e = .returned (.bool true) ∧ w' = w) := C
          have HM2 : Hid (m2 (Ls mb) = m3 (upTo 45 (Ls mb))) := by show m2 _ = _; unfold m2; rw [he, hid]; rfl
          clear C hid ht hu he hi
          go_wp2_with fail
          refine (HC.out _).mono ?_
          rintro e w2 ⟨rfl, rfl⟩
          go_wp2_with fail
          go_meet
          exact ⟨mb.extract 0 K, rfl, by rw [HS0.out]; omega, HU.out, HM2.out, rfl⟩
    case rest =>
      obtain ⟨cb, rfl, hcb, hLc, hmod, rfl⟩ := hcut
      have HM3 : Hid (model (Ls s) = m3 (Ls cb)) := by show _ = _; rw [HM.out, hmod, hLc]
      clear hLc hmod HI2 HM
      have hcb' : cb.size < 2097152 := by omega
      have C := fun w => index_any cb 46 w hcb'
      rcases idx_cases 46 cb with ⟨hi, he, hu⟩ | ⟨K, hK, hi, he, hu, ht⟩
      · rw [hi] at C
        have HC : Hid (∀ w, Calls Tryf.prog 7 #[.string cb, .int .u8 46] w fun e w' => e = .returned (.int .i64 (-1)) ∧ w' = w) := C
        have HF : Hid (model (Ls s) = (false, false)) := by show model _ = _; rw [HM3.out]; exact m3_no1 he
        clear C hi he hu
        go_wp2_with fail
        refine (HC.out _).mono ?_
        rintro e w2 ⟨rfl, rfl⟩
        go_wp2_with fail
        go_ret2
        exact ⟨by rw [HF.out]; rfl, rfl⟩
      · rw [hi] at C
        have HC : Hid (∀ w, Calls Tryf.prog 7 #[.string cb, .int .u8 46] w fun e w' => e = .returned (.int .i64 (K : Int)) ∧ w' = w) := C
        have hw1 : ((K : Int) + 1).toNat = K + 1 := by omega
        have HE : Hid ((frm 46 (Ls cb)).isEmpty = false) := he
        obtain ⟨mj, hmj⟩ : ∃ mj, mj = cb.extract 0 K := ⟨_, rfl⟩
        obtain ⟨rs, hrs⟩ : ∃ rs, rs = cb.extract (K + 1) cb.size := ⟨_, rfl⟩
        have hrss : rs.size < 2097152 := by rw [hrs, size_extract cb (K + 1) cb.size (Nat.le_refl _)]; omega
        have hmjs : mj.size < 2097152 := by rw [hmj, size_extract cb 0 K (by omega)]; omega
        have HMJ : Hid (Ls mj = upTo 46 (Ls cb)) := by show _ = _; rw [hmj]; exact hu
        have HRS : Hid (Ls rs = (frm 46 (Ls cb)).tail) := by show _ = _; rw [hrs]; exact ht
        clear C hi he hu ht
        go_wp2_with fail
        refine (HC.out _).mono ?_
        rintro e w2 ⟨rfl, rfl⟩
        go_wp2_with fail
        rw [← hrs, ← hmj]
        clear hrs hmj HC
        have C := fun w => index_any rs 46 w hrss
        rcases idx_cases 46 rs with ⟨hi, he, hu⟩ | ⟨K2, hK2, hi, he, hu, ht⟩
        · rw [hi] at C
          have HC : Hid (∀ w, Calls Tryf.prog 7 #[.string rs, .int .u8 46] w fun e w' => e = .returned (.int .i64 (-1)) ∧ w' = w) := C
          have HF : Hid (model (Ls s) = (false, false)) := by show model _ = _; rw [HM3.out]; exact m3_no2 HE.out (by rw [← HRS.out]; exact he)
          clear C hi he hu
          refine (HC.out _).mono ?_
          rintro e w2 ⟨rfl, rfl⟩
          go_wp2_with fail
          go_ret2
          exact ⟨by rw [HF.out]; rfl, rfl⟩
        · rw [hi] at C
          have HC : Hid (∀ w, Calls Tryf.prog 7 #[.string rs, .int .u8 46] w fun e w' => e = .returned (.int .i64 (K2 : Int)) ∧ w' = w) := C
          have hw2 : ((K2 : Int) + 1).toNat = K2 + 1 := by omega
          obtain ⟨mn, hmn⟩ : ∃ mn, mn = rs.extract 0 K2 := ⟨_, rfl⟩
          obtain ⟨pt, hpt⟩ : ∃ pt, pt = rs.extract (K2 + 1) rs.size := ⟨_, rfl⟩
          have hpts : pt.size < 2097152 := by rw [hpt, size_extract rs (K2 + 1) rs.size (Nat.le_refl _)]; omega
          have hmns : mn.size < 2097152 := by rw [hmn, size_extract rs 0 K2 (by omega)]; omega
          have HFIN : Hid (model (Ls s) = fin (Ls mj) (Ls mn) (Ls pt)) := by
            show _ = _
            rw [HM3.out, m3_yes HE.out (by rw [← HRS.out]; exact he), ← HRS.out, HMJ.out, hmn, hpt, hu, ht]
          have HSN : Hid ((rs.extract 0 K2).size = K2) := size_extract rs 0 K2 (by omega)
          have hmnK : K2 = mn.size := by rw [hmn, HSN.out]
          have HMNK : Hid (K2 = mn.size) := hmnK
          clear C hi he hu ht HM3 HE HMJ HRS hmnK
          refine (HC.out _).mono ?_
          rintro e w2 ⟨rfl, rfl⟩
          go_wp2_with fail
          rw [← hmn, ← hpt]
          clear hmn hpt HC HSN HMNK
          have C1 := fun w => isnum_any mj w hmjs
          have C2 := fun w => isnum_any mn w hmns
          have C3 := fun w => isnum_any pt w hpts
          have hmnp : isNum (Ls mn) = true → 0 < mn.size := by
            intro h
            have := isNum_ne h
            by_cases h0 : mn.size = 0
            · exact absurd (Ls_nil h0) this
            · omega
          have hfin := HFIN.out
          unfold fin at hfin
          cases n1 : isNum (Ls mj) with
          | false =>
            have HF : Hid (model (Ls s) = (false, false)) := by show _ = _; rw [hfin, n1]; rfl
            rw [n1] at C1
            have HC1 : Hid (∀ w, Calls Tryf.prog 9 #[.string mj] w fun e w' => e = .returned (.bool false) ∧ w' = w) := C1
            clear C1 C2 C3 n1 hfin hmnp HFIN
            refine (HC1.out _).mono ?_
            rintro e w2 ⟨rfl, rfl⟩
            go_wp2_with fail
            go_ret2
            exact ⟨by rw [HF.out]; rfl, rfl⟩
          | true =>
            rw [n1] at C1
            have HC1 : Hid (∀ w, Calls Tryf.prog 9 #[.string mj] w fun e w' => e = .returned (.bool true) ∧ w' = w) := C1
            cases n2 : isNum (Ls mn) with
            | false =>
              have HF : Hid (model (Ls s) = (false, false)) := by show _ = _; rw [hfin, n1, n2]; rfl
              rw [n2] at C2
              have HC2 : Hid (∀ w, Calls Tryf.prog 9 #[.string mn] w fun e w' => e = .returned (.bool false) ∧ w' = w) := C2
              clear C1 C2 C3 n1 n2 hfin hmnp HFIN
              refine (HC1.out _).mono ?_
              rintro e w2 ⟨rfl, rfl⟩
              go_wp2_with fail
              refine (HC2.out _).mono ?_
              rintro e w2 ⟨rfl, rfl⟩
              go_wp2_with fail
              go_ret2
              exact ⟨by rw [HF.out]; rfl, rfl⟩
            | true =>
              rw [n2] at C2
              have HC2 : Hid (∀ w, Calls Tryf.prog 9 #[.string mn] w fun e w' => e = .returned (.bool true) ∧ w' = w) := C2
              cases n3 : isNum (Ls pt) with
              | false =>
                have HF : Hid (model (Ls s) = (false, false)) := by show _ = _; rw [hfin, n1, n2, n3]; rfl
                rw [n3] at C3
                have HC3 : Hid (∀ w, Calls Tryf.prog 9 #[.string pt] w fun e w' => e = .returned (.bool false) ∧ w' = w) := C3
                clear C1 C2 C3 n1 n2 n3 hfin hmnp HFIN
                refine (HC1.out _).mono ?_
                rintro e w2 ⟨rfl, rfl⟩
                go_wp2_with fail
                refine (HC2.out _).mono ?_
                rintro e w2 ⟨rfl, rfl⟩
                go_wp2_with fail
                refine (HC3.out _).mono ?_
                rintro e w2 ⟨rfl, rfl⟩
                go_wp2_with fail
                go_ret2
                exact ⟨by rw [HF.out]; rfl, rfl⟩
              | true =>
                rw [n3] at C3
                have HC3 : Hid (∀ w, Calls Tryf.prog 9 #[.string pt] w fun e w' => e = .returned (.bool true) ∧ w' = w) := C3
                have hmp := hmnp n2
                rw [n1, n2, n3] at hfin
                simp only [Bool.and_self, if_true] at hfin
                by_cases hj : Ls mj = [49]
                rotate_left
                · have HF : Hid (model (Ls s) = (false, false)) := by show _ = _; rw [hfin, if_neg hj]
                  have hbj : (!mj.toList == [49]) = true := by rw [tl]; simpa using hj
                  clear C1 C2 C3 n1 n2 n3 hfin hmnp HFIN hj
                  refine (HC1.out _).mono ?_
                  rintro e w2 ⟨rfl, rfl⟩
                  go_wp2_with fail
                  refine (HC2.out _).mono ?_
                  rintro e w2 ⟨rfl, rfl⟩
                  go_wp2_with fail
                  refine (HC3.out _).mono ?_
                  rintro e w2 ⟨rfl, rfl⟩
                  go_wp2_with fail
                  go_ret2
                  exact ⟨by rw [HF.out]; rfl, rfl⟩
                have hbj : (!mj.toList == [49]) = false := by rw [tl, hj]; rfl
                have HF : Hid (model (Ls s) = (true, (decide (1 < mn.size) || decide (51 < mn[0].toNat) || (Ls mn == [51] && Ls pt != [48])))) := by show _ = _; rw [hfin, if_pos hj, newer_eq (Ls pt) hmp]
                clear C1 C2 C3 n1 n2 n3 hfin hmnp HFIN hj
                by_cases g1 : 1 < mn.size
                · have hb1 : decide ((1 : Int) < (mn.size : Int)) = true := by simp; omega
                  refine (HC1.out _).mono ?_
                  rintro e w2 ⟨rfl, rfl⟩
                  go_wp2_with fail
                  refine (HC2.out _).mono ?_
                  rintro e w2 ⟨rfl, rfl⟩
                  go_wp2_with fail
                  refine (HC3.out _).mono ?_
                  rintro e w2 ⟨rfl, rfl⟩
                  go_wp2_with fail
                  go_ret2
                  exact ⟨by rw [HF.out]; simp [g1], rfl⟩
                · have hb1 : decide ((1 : Int) < (mn.size : Int)) = false := by simp; omega
                  by_cases g2 : 51 < mn[0].toNat
                  · have hb2 : decide ((51 : Int) < (mn[0].toNat : Int)) = true := by simp; omega
                    refine (HC1.out _).mono ?_
                    rintro e w2 ⟨rfl, rfl⟩
                    go_wp2_with fail
                    refine (HC2.out _).mono ?_
                    rintro e w2 ⟨rfl, rfl⟩
                    go_wp2_with fail
                    refine (HC3.out _).mono ?_
                    rintro e w2 ⟨rfl, rfl⟩
                    go_wp2_with fail
                    go_ret2
                    exact ⟨by rw [HF.out]; simp [g2], rfl⟩
                  · have hb2 : decide ((51 : Int) < (mn[0].toNat : Int)) = false := by simp; omega
                    cases g3 : (Ls mn == [51]) with
                    | false =>
                      have hb3 : (mn.toList == [51]) = false := by rw [tl]; exact g3
                      have HG : Hid ((Ls mn == [51]) = false) := g3
                      clear g3
                      refine (HC1.out _).mono ?_
                      rintro e w2 ⟨rfl, rfl⟩
                      go_wp2_with fail
                      refine (HC2.out _).mono ?_
                      rintro e w2 ⟨rfl, rfl⟩
                      go_wp2_with fail
                      refine (HC3.out _).mono ?_
                      rintro e w2 ⟨rfl, rfl⟩
                      go_wp2_with fail
                      go_ret2
                      exact ⟨by rw [HF.out, HG.out]; simp [g1, g2], rfl⟩
                    | true =>
                      have hb3 : (mn.toList == [51]) = true := by rw [tl]; exact g3
                      have HG : Hid ((Ls mn == [51]) = true) := g3
                      have HPT : Hid (pt.toList = Ls pt) := tl pt
                      clear g3
                      refine (HC1.out _).mono ?_
                      rintro e w2 ⟨rfl, rfl⟩
                      go_wp2_with fail
                      refine (HC2.out _).mono ?_
                      rintro e w2 ⟨rfl, rfl⟩
                      go_wp2_with fail
                      refine (HC3.out _).mono ?_
                      rintro e w2 ⟨rfl, rfl⟩
                      go_wp2_with fail
                      go_ret2
                      exact ⟨by rw [HF.out, HG.out, ← HPT.out]; simp [g1, g2, bne], rfl⟩
end Go.Proofs.Qxb6608811aFmt.Model
