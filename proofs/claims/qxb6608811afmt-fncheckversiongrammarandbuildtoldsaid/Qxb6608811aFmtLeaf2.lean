import Derived.Test.Qxb6608811aFmtLeaf
import Derived.Test.Qxb6608811aFmtStrs
namespace Go.Proofs.Qxb6608811aFmt.Leaf2
open Go.ChangeShapes Go.WideShapes Go.ChangeAt Go.RowKit Qx11 Leaf

set_option maxHeartbeats 1000000 in
theorem isnum_any (s : ByteArray) (w : World) (hs : s.size < 2097152) :
    Calls Tryf.prog 9 #[.string s] w fun e w' => e = .returned (.bool (isNum (Ls s))) ∧ w' = w := by
  by_cases h0 : s.size = 0
  · have he := empty_yes h0
    have HF : Hid (isNum (Ls s) = false) := by show isNum (Ls s) = false; rw [Ls_nil h0]; rfl
    go_enter Tryf.func9, Tryf.ntmps9
    go_wp2
    go_ret
    exact ⟨ret_bool HF.out.symm, rfl⟩
  · have hp : 0 < s.size := by omega
    have he := empty_not hp
    have HN := isNum_eq s hp
    have C := alldigits_any s w hs
    generalize (Ls s).all dig = d at *
    have HC : Hid (Calls Tryf.prog 15 #[.string s] w fun e w' => e = .returned (.bool d) ∧ w' = w) := C
    clear C h0
    cases d with
    | false =>
      have HF : Hid (isNum (Ls s) = false) := by show isNum (Ls s) = false; rw [HN]; rfl
      clear HN
      go_enter Tryf.func9, Tryf.ntmps9
      go_wp2_with fail
      refine HC.out.mono ?_
      rintro e w' ⟨rfl, rfl⟩
      go_wp2
      go_ret
      exact ⟨ret_bool HF.out.symm, rfl⟩
    | true =>
      by_cases h1 : 1 < s.size
      · by_cases h48 : s[0].toNat = 48
        · have hb : ((s[0].toNat : Int) == 48) = true := by simp; omega
          have hb1 : decide ((1 : Int) < (s.size : Int)) = true := by simp; omega
          have HF : Hid (isNum (Ls s) = false) := by show isNum (Ls s) = false; rw [HN]; simp [h1, h48]
          clear HN h48
          go_enter Tryf.func9, Tryf.ntmps9
          go_wp2_with fail
          refine HC.out.mono ?_
          rintro e w' ⟨rfl, rfl⟩
          go_wp2
          go_ret
          exact ⟨ret_bool HF.out.symm, rfl⟩
        · have hb : ((s[0].toNat : Int) == 48) = false := by simp; omega
          have hb1 : decide ((1 : Int) < (s.size : Int)) = true := by simp; omega
          have HF : Hid (isNum (Ls s) = true) := by show isNum (Ls s) = true; rw [HN]; simp [h48]
          clear HN h48
          go_enter Tryf.func9, Tryf.ntmps9
          go_wp2_with fail
          refine HC.out.mono ?_
          rintro e w' ⟨rfl, rfl⟩
          go_wp2
          go_ret
          exact ⟨ret_bool HF.out.symm, rfl⟩
      · have hb1 : decide ((1 : Int) < (s.size : Int)) = false := by simp; omega
        have HF : Hid (isNum (Ls s) = true) := by show isNum (Ls s) = true; rw [HN]; simp [h1]
        clear HN
        go_enter Tryf.func9, Tryf.ntmps9
        go_wp2_with fail
        refine HC.out.mono ?_
        rintro e w' ⟨rfl, rfl⟩
        go_wp2
        go_ret
        exact ⟨ret_bool HF.out.symm, rfl⟩

theorem idents_nil (pre : Bool) : idents pre [] = false := rfl

set_option maxHeartbeats 4000000 in
theorem idents_any (s : ByteArray) (pre : Bool) (w : World) (hs : s.size < 2097152) :
    Calls Tryf.prog 8 #[.string s, .bool pre] w fun e w' => e = .returned (.bool (idents pre (Ls s))) ∧ w' = w := by
  by_cases h0 : s.size = 0
  · have he := empty_yes h0
    have HF : Hid (idents pre (Ls s) = false) := by show idents pre (Ls s) = false; rw [Ls_nil h0]; rfl
    go_enter Tryf.func8, Tryf.ntmps8
    go_wp2
    go_ret
    exact ⟨ret_bool HF.out.symm, rfl⟩
  have he := empty_not (show 0 < s.size by omega)
  go_enter Tryf.func8, Tryf.ntmps8
  go_wp2_with fail
  go_loop [5, 6] (fun a b => ∃ i k : Nat, a = .int .i64 i ∧ b = .int .i64 k ∧ k ≤ s.size + 1 ∧ (IdInv pre s i k ∨ (k = s.size + 1 ∧ idents pre (Ls s) = true))) (fun _ b => s.size + 1 - (intOf b).toNat)
  case atStart => exact ⟨0, 0, rfl, rfl, by omega, .inl (id_start pre s)⟩
  case round =>
    obtain ⟨i, k, rfl, rfl, hk1, hinv⟩ := hrel
    by_cases hk : k ≤ s.size
    · have hI : IdInv pre s i k := by
        rcases hinv with h | ⟨h, _⟩
        · exact h
        · omega
      clear hinv hk1
      have hik := hI.1
      have hke : (k : Int) ≤ (s.size : Int) := by omega
      have HI : Hid (IdInv pre s i k) := hI
      clear hI
      have hsz := size_extract s i k hk
      have HE : Hid (Ls (s.extract i k) = mid (Ls s) i k) := Ls_extract s i k
      by_cases hchr : k < s.size ∧ ∀ h : k < s.size, s[k].toNat ≠ 46
      · obtain ⟨hlt, hx'⟩ := hchr
        have hx := hx' hlt
        clear hx'
        have hd1 : ((k : Int) == (s.size : Int)) = false := by simp; omega
        have hd2 : ((s[k].toNat : Int) == 46) = false := by simp; omega
        have C := zident_any s[k] w
        cases hc : idc s[k] with
        | false =>
          have HF : Hid (idents pre (Ls s) = false) := id_chr_no HI.out hlt hx hc
          rw [hc] at C
          have HC : Hid (Calls Tryf.prog 16 #[.int .u8 (s[k].toNat : Int)] w fun e w' => e = .returned (.bool false) ∧ w' = w) := C
          clear C hc hx hsz
          go_wp2_with fail
          refine HC.out.mono ?_
          rintro e w' ⟨rfl, rfl⟩
          go_wp2
          go_ret
          exact ⟨ret_bool HF.out.symm, rfl⟩
        | true =>
          have HR : Hid (IdInv pre s i (k + 1)) := id_chr HI.out hlt hx hc
          rw [hc] at C
          have HC : Hid (Calls Tryf.prog 16 #[.int .u8 (s[k].toNat : Int)] w fun e w' => e = .returned (.bool true) ∧ w' = w) := C
          clear C hc hx hsz
          go_wp2_with fail
          refine HC.out.mono ?_
          rintro e w' ⟨rfl, rfl⟩
          go_wp2
          go_round
          case rel => exact ⟨i, k + 1, rfl, by go_num, by omega, .inl HR.out⟩
          case measure => simp [intOf]; omega
      · -- a dot, or the end: the identifier from i to k
        have HNO : Hid (seg pre (mid (Ls s) i k) = false → idents pre (Ls s) = false) := by
          intro hsg
          by_cases hlt : k < s.size
          · have hx : s[k].toNat = 46 := Decidable.byContradiction fun h => hchr ⟨hlt, fun _ => h⟩
            exact id_dot_no HI.out hlt hx hsg
          · obtain rfl : k = s.size := by omega
            rw [id_end HI.out]; exact hsg
        have HYES : Hid (seg pre (mid (Ls s) i k) = true → IdInv pre s (k + 1) (k + 1) ∨ (k + 1 = s.size + 1 ∧ idents pre (Ls s) = true)) := by
          intro hsg
          by_cases hlt : k < s.size
          · have hx : s[k].toNat = 46 := Decidable.byContradiction fun h => hchr ⟨hlt, fun _ => h⟩
            exact .inl (id_dot HI.out hlt hx hsg)
          · obtain rfl : k = s.size := by omega
            exact .inr ⟨rfl, by rw [id_end HI.out]; exact hsg⟩
        have hcase : (k < s.size ∧ ∃ h : k < s.size, s[k].toNat = 46) ∨ k = s.size := by
          by_cases hlt : k < s.size
          · exact .inl ⟨hlt, hlt, Decidable.byContradiction fun h => hchr ⟨hlt, fun _ => h⟩⟩
          · exact .inr (by omega)
        clear hchr
        by_cases hik2 : i = k
        · have HF : Hid (idents pre (Ls s) = false) := HNO.out (by rw [hik2, mid_same]; rfl)
          have hem : (s.extract i k).toList.isEmpty = true := empty_yes (by omega)
          clear HNO HYES hsz
          rcases hcase with ⟨hlt, _, hx⟩ | hend
          · have hd1 : ((k : Int) == (s.size : Int)) = false := by simp; omega
            have hd2 : ((s[k].toNat : Int) == 46) = true := by simp; omega
            clear hx hik2
            go_wp2
            go_ret
            exact ⟨ret_bool HF.out.symm, rfl⟩
          · have hd1 : ((k : Int) == (s.size : Int)) = true := by simp; omega
            clear hend hik2
            go_wp2
            go_ret
            exact ⟨ret_bool HF.out.symm, rfl⟩
        · have hlt2 : i < k := by omega
          have hpos : 0 < (s.extract i k).size := by omega
          have hem : (s.extract i k).toList.isEmpty = false := empty_not hpos
          have hpos2 : 0 < k - i := by omega
          have HSG : Hid (seg pre (mid (Ls s) i k) = !(pre && bad (Ls (s.extract i k)))) := by
            show seg pre (mid (Ls s) i k) = _
            rw [← HE.out]; exact seg_eq pre _ hpos
          have HBAD : Hid (bad (Ls (s.extract i k)) = (decide (1 < (s.extract i k).size) && ((s.extract i k)[0].toNat == 48) && (Ls (s.extract i k)).all dig)) := bad_eq _ hpos
          have C := alldigits_any (s.extract i k) w (by omega)
          have HC : Hid (Calls Tryf.prog 15 #[.string (s.extract i k)] w fun e w' => e = .returned (.bool ((Ls (s.extract i k)).all dig)) ∧ w' = w) := C
          have HSZ : Hid ((s.extract i k).size = k - i) := hsz
          clear C hsz
          have hguard : (k < s.size ∧ ((k : Int) == (s.size : Int)) = false ∧ ∃ h : k < s.size, ((s[k].toNat : Int) == 46) = true) ∨ (((k : Int) == (s.size : Int)) = true) := by
            rcases hcase with ⟨hlt, h', hx⟩ | hend
            · exact .inl ⟨hlt, by simp; omega, h', by simp; omega⟩
            · exact .inr (by simp; omega)
          clear hcase
          cases pre with
          | false =>
            have HR := HYES.out (by rw [HSG.out]; rfl)
            have HRR : Hid (IdInv false s (k + 1) (k + 1) ∨ (k + 1 = s.size + 1 ∧ idents false (Ls s) = true)) := HR
            clear HR HNO HYES
            rcases hguard with ⟨hlt, hd1, _, hd2⟩ | hd1
            all_goals
              go_wp2
              go_round
              case rel => exact ⟨k + 1, k + 1, by go_num, by go_num, by omega, HRR.out⟩
              case measure => simp [intOf]; omega
          | true =>
            by_cases h1 : 1 < k - i
            · have hb1 : decide ((1 : Int) < ((k - i : Nat) : Int)) = true := by simp; omega
              by_cases h48 : (s.extract i k)[0].toNat = 48
              · have hb : (((s.extract i k)[0].toNat : Int) == 48) = true := by simp; omega
                cases hall : (Ls (s.extract i k)).all dig with
                | true =>
                  have HF : Hid (idents true (Ls s) = false) := HNO.out (by rw [HSG.out, HBAD.out, HSZ.out, hall]; simp [h1, h48])
                  rw [hall] at HC
                  clear HNO HYES h48 hall
                  rcases hguard with ⟨hlt, hd1, _, hd2⟩ | hd1
                  all_goals
                    go_wp2_with fail
                    refine HC.out.mono ?_
                    rintro e w' ⟨rfl, rfl⟩
                    go_wp2
                    go_ret
                    exact ⟨ret_bool HF.out.symm, rfl⟩
                | false =>
                  have HRR : Hid (IdInv true s (k + 1) (k + 1) ∨ (k + 1 = s.size + 1 ∧ idents true (Ls s) = true)) := HYES.out (by rw [HSG.out, HBAD.out, hall]; simp)
                  rw [hall] at HC
                  clear HNO HYES h48 hall
                  rcases hguard with ⟨hlt, hd1, _, hd2⟩ | hd1
                  all_goals
                    go_wp2_with fail
                    refine HC.out.mono ?_
                    rintro e w' ⟨rfl, rfl⟩
                    go_wp2
                    go_round
                    case rel => exact ⟨k + 1, k + 1, by go_num, by go_num, by omega, HRR.out⟩
                    case measure => simp [intOf]; omega
              · have hb : (((s.extract i k)[0].toNat : Int) == 48) = false := by simp; omega
                have HRR : Hid (IdInv true s (k + 1) (k + 1) ∨ (k + 1 = s.size + 1 ∧ idents true (Ls s) = true)) := HYES.out (by rw [HSG.out, HBAD.out]; simp [h48])
                clear HNO HYES h48
                rcases hguard with ⟨hlt, hd1, _, hd2⟩ | hd1
                all_goals
                  go_wp2
                  go_round
                  case rel => exact ⟨k + 1, k + 1, by go_num, by go_num, by omega, HRR.out⟩
                  case measure => simp [intOf]; omega
            · have hb1 : decide ((1 : Int) < ((k - i : Nat) : Int)) = false := by simp; omega
              have HRR : Hid (IdInv true s (k + 1) (k + 1) ∨ (k + 1 = s.size + 1 ∧ idents true (Ls s) = true)) := HYES.out (by rw [HSG.out, HBAD.out, HSZ.out]; simp [h1])
              clear HNO HYES
              rcases hguard with ⟨hlt, hd1, _, hd2⟩ | hd1
              all_goals
                go_wp2
                go_round
                case rel => exact ⟨k + 1, k + 1, by go_num, by go_num, by omega, HRR.out⟩
                case measure => simp [intOf]; omega
    · have HF : Hid (idents pre (Ls s) = true) := by
        rcases hinv with h | ⟨_, h⟩
        · have := h.2.1; omega
        · exact h
      clear hinv
      go_wp2
      go_ret
      exact ⟨ret_bool HF.out.symm, rfl⟩
end Go.Proofs.Qxb6608811aFmt.Leaf2
