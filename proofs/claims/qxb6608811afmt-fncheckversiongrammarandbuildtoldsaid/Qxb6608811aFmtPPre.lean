import Derived.Test.Qxb6608811aFmtPInt
import Derived.Test.Qxb6608811aFmtPPreP
namespace Go.Proofs.Qxb6608811aFmt.PPre
open Go.ChangeShapes Go.WideShapes Go.ChangeAt Go.RowKit Qx11 Leaf PInt

/-- behind the first -/
def tl1 (l : Bs) : Bs := l.drop 1

theorem head_take {s : ByteArray} {n : UInt8} (h : 0 < s.size) (hx : s[0] = n) (k : Nat) (hk : 1 ≤ k) : (Ls s).take k = n :: mid (Ls s) 1 k := by
  obtain ⟨j, rfl⟩ : ∃ j, k = j + 1 := ⟨k - 1, by omega⟩
  obtain ⟨r, e⟩ := Ls_head s h
  rw [e, hx]; simp [mid]
theorem ch {s : ByteArray} {n : Nat} (hn : n < 256) (h : 0 < s.size) (hx : s[0].toNat = n) : s[0] = UInt8.ofNat n := u8_eq hn hx

set_option maxHeartbeats 4000000 in
theorem parsePre_any (s : ByteArray) (w : World) (hs : s.size < 2097152) (hp : 0 < s.size) (hx0 : s[0].toNat = 45) :
    Calls Tryf.prog 23 #[.string s] w fun e w' =>
      ((pPre (tl1 (Ls s)) = none ∧ ∃ t r, e = .returned (.tuple #[.string t, .string r, .bool false])) ∨
       (∃ t r, pPre (tl1 (Ls s)) = some (Ls t, Ls r) ∧ r.size < s.size ∧ e = .returned (.tuple #[.string t, .string r, .bool true]))) ∧ ∃ n, w' = w.drewN n := by
  have he := empty_not hp
  have hb45 : ((s[0].toNat : Int) != 45) = false := by simp; omega
  have HX0 : Hid (s[0].toNat = 45) := hx0
  clear hx0
  go_enter Tryf.func23, Tryf.ntmps23
  go_wp2_with fail
  go_loop [5, 6] (fun a b => ∃ k j : Nat, a = .int .i64 k ∧ b = .int .i64 j ∧ PInv s j k) (fun a _ => s.size - (intOf a).toNat)
  case atStart => exact ⟨1, 1, rfl, rfl, p_start s hp⟩
  case round =>
    obtain ⟨k, j, rfl, rfl, hinv⟩ := hrel
    have hj1 := hinv.one
    have hjk := hinv.le
    have hk := hinv.sz
    have HI : Hid (PInv s j k) := hinv
    clear hinv
    have HSZ : Hid ((s.extract j k).size = k - j) := size_extract s j k hk
    have HE : Hid (Ls (s.extract j k) = mid (Ls s) j k) := Ls_extract s j k
    have hke : (k : Int) ≤ (s.size : Int) := by omega
    by_cases hgo : ∃ h : k < s.size, s[k].toNat ≠ 43
    · obtain ⟨hlt, h43⟩ := hgo
      have hb43 : ((s[k].toNat : Int) != 43) = true := by simp; omega
      have hbl : decide (k < s.size) = true := by simpa using hlt
      have C := sident_any s[k] w
      cases hc : idc s[k] with
      | true =>
        have h46 := (idc_ne hc).2
        have hb46 : ((s[k].toNat : Int) == 46) = false := by simp; omega
        have hb46' : ((s[k].toNat : Int) != 46) = true := by simp; omega
        have HR : Hid (PInv s j (k + 1)) := p_chr HI.out hlt h43 hc
        rw [hc] at C
        have HC : Hid (Calls Tryf.prog 27 #[.int .u8 (s[k].toNat : Int)] w fun e w' => e = .returned (.bool true) ∧ w' = w) := C
        clear C hc h46 h43
        go_wp2_with fail
        refine HC.out.mono ?_
        rintro e w' ⟨rfl, rfl⟩
        go_wp2
        go_round
        case rel => exact ⟨k + 1, j, by go_num, rfl, HR.out⟩
        case measure => simp [intOf]; omega
      | false =>
        rw [hc] at C
        have HC : Hid (Calls Tryf.prog 27 #[.int .u8 (s[k].toNat : Int)] w fun e w' => e = .returned (.bool false) ∧ w' = w) := C
        clear C
        by_cases h46 : s[k].toNat = 46
        · have hb46 : ((s[k].toNat : Int) == 46) = true := by simp; omega
          have hb46' : ((s[k].toNat : Int) != 46) = false := by simp; omega
          by_cases hjk2 : j = k
          · have HF : Hid (pPre (tl1 (Ls s)) = none) := p_dot_no HI.out hlt h46 (by rw [hjk2, mid_same]; rfl)
            have hbj : ((j : Int) == (k : Int)) = true := by simp; omega
            clear hc h46 h43 hjk2
            go_wp2_with fail
            refine HC.out.mono ?_
            rintro e w' ⟨rfl, rfl⟩
            go_wp2
            go_ret3
            exact ⟨.inl ⟨HF.out, _, _, rfl⟩, 0, rfl⟩
          · have hbj : ((j : Int) == (k : Int)) = false := by simp; omega
            have hpos : 0 < (s.extract j k).size := by rw [HSZ.out]; omega
            have CB := badnum_any (s.extract j k) w (by rw [HSZ.out]; omega) hpos
            have hsg := seg_eq true (s.extract j k) hpos
            rw [HE.out] at hsg
            cases hbd : bad (mid (Ls s) j k) with
            | true =>
              have HF : Hid (pPre (tl1 (Ls s)) = none) := p_dot_no HI.out hlt h46 (by rw [hsg, hbd]; rfl)
              rw [HE.out, hbd] at CB
              have HCB : Hid (Calls Tryf.prog 28 #[.string (s.extract j k)] w fun e w' => e = .returned (.bool true) ∧ w' = w) := CB
              clear CB hsg hbd hc h46 h43 hpos
              go_wp2_with fail
              refine HC.out.mono ?_
              rintro e w' ⟨rfl, rfl⟩
              go_wp2_with fail
              refine HCB.out.mono ?_
              rintro e w' ⟨rfl, rfl⟩
              go_wp2
              go_ret3
              exact ⟨.inl ⟨HF.out, _, _, rfl⟩, 0, rfl⟩
            | false =>
              have HR : Hid (PInv s (k + 1) (k + 1)) := p_dot HI.out hlt h46 (by rw [hsg, hbd]; rfl)
              rw [HE.out, hbd] at CB
              have HCB : Hid (Calls Tryf.prog 28 #[.string (s.extract j k)] w fun e w' => e = .returned (.bool false) ∧ w' = w) := CB
              clear CB hsg hbd hc h46 h43 hpos
              go_wp2_with fail
              refine HC.out.mono ?_
              rintro e w' ⟨rfl, rfl⟩
              go_wp2_with fail
              refine HCB.out.mono ?_
              rintro e w' ⟨rfl, rfl⟩
              go_wp2
              go_round
              case rel => exact ⟨k + 1, k + 1, by go_num, by go_num, HR.out⟩
              case measure => simp [intOf]; omega
        · have hb46 : ((s[k].toNat : Int) == 46) = false := by simp; omega
          have hb46' : ((s[k].toNat : Int) != 46) = true := by simp; omega
          have HF : Hid (pPre (tl1 (Ls s)) = none) := p_chr_no HI.out hlt h43 h46 hc
          clear hc h46 h43
          go_wp2_with fail
          refine HC.out.mono ?_
          rintro e w' ⟨rfl, rfl⟩
          go_wp2
          go_ret3
          exact ⟨.inl ⟨HF.out, _, _, rfl⟩, 0, rfl⟩
    · have hstop : ∀ h : k < s.size, s[k].toNat = 43 := fun h => Decidable.byContradiction fun hn => hgo ⟨h, hn⟩
      have hguard : (decide (k < s.size) = false) ∨ (∃ h : k < s.size, decide (k < s.size) = true ∧ ((s[k].toNat : Int) != 43) = false) := by
        by_cases hlt : k < s.size
        · exact .inr ⟨hlt, by simpa using hlt, by have := hstop hlt; simp; omega⟩
        · exact .inl (by simpa using hlt)
      have HST : Hid (∀ h : k < s.size, s[k].toNat = 43) := hstop
      clear hgo hstop
      by_cases hjk2 : j = k
      · have HF : Hid (pPre (tl1 (Ls s)) = none) := p_end_no HI.out HST.out (by rw [hjk2, mid_same]; rfl)
        have hbj : ((j : Int) == (k : Int)) = true := by simp; omega
        clear hjk2
        rcases hguard with hg | ⟨hlt, hg, hg'⟩
        all_goals
          go_wp2
          go_ret3
          exact ⟨.inl ⟨HF.out, _, _, rfl⟩, 0, rfl⟩
      · have hbj : ((j : Int) == (k : Int)) = false := by simp; omega
        have hpos : 0 < (s.extract j k).size := by rw [HSZ.out]; omega
        have CB := badnum_any (s.extract j k) w (by rw [HSZ.out]; omega) hpos
        have hsg := seg_eq true (s.extract j k) hpos
        rw [HE.out] at hsg
        cases hbd : bad (mid (Ls s) j k) with
        | true =>
          have HF : Hid (pPre (tl1 (Ls s)) = none) := p_end_no HI.out HST.out (by rw [hsg, hbd]; rfl)
          rw [HE.out, hbd] at CB
          have HCB : Hid (Calls Tryf.prog 28 #[.string (s.extract j k)] w fun e w' => e = .returned (.bool true) ∧ w' = w) := CB
          clear CB hsg hbd hpos
          rcases hguard with hg | ⟨hlt, hg, hg'⟩
          all_goals
            go_wp2_with fail
            refine HCB.out.mono ?_
            rintro e w' ⟨rfl, rfl⟩
            go_wp2
            go_ret3
            exact ⟨.inl ⟨HF.out, _, _, rfl⟩, 0, rfl⟩
        | false =>
          have HF : Hid (pPre (tl1 (Ls s)) = some (45 :: mid (Ls s) 1 k, (Ls s).drop k)) := p_end HI.out HST.out (by rw [hsg, hbd]; rfl)
          rw [HE.out, hbd] at CB
          have HCB : Hid (Calls Tryf.prog 28 #[.string (s.extract j k)] w fun e w' => e = .returned (.bool false) ∧ w' = w) := CB
          clear CB hsg hbd hpos
          rcases hguard with hg | ⟨hlt, hg, hg'⟩
          all_goals
            go_wp2_with fail
            refine HCB.out.mono ?_
            rintro e w' ⟨rfl, rfl⟩
            go_wp2_with fail
            go_quiet (fail)
            go_wp2
            go_ret3
            exact ⟨.inr ⟨s.extract 0 k, s.extract k s.size, by rw [HF.out, Ls_take, Ls_drop, head_take hp (ch (by omega) hp HX0.out) k (by omega)]; rfl, by rw [size_extract s k s.size (Nat.le_refl _)]; omega, rfl⟩, _, rfl⟩

set_option maxHeartbeats 4000000 in
theorem parseBld_any (s : ByteArray) (w : World) (hs : s.size < 2097152) (hp : 0 < s.size) (hx0 : s[0].toNat = 43) :
    Calls Tryf.prog 24 #[.string s] w fun e w' =>
      ((pBld (tl1 (Ls s)) = none ∧ ∃ t r, e = .returned (.tuple #[.string t, .string r, .bool false])) ∨
       (∃ t r, pBld (tl1 (Ls s)) = some (Ls t) ∧ r.size = 0 ∧ e = .returned (.tuple #[.string t, .string r, .bool true]))) ∧ ∃ n, w' = w.drewN n := by
  have he := empty_not hp
  have hb43 : ((s[0].toNat : Int) != 43) = false := by simp; omega
  have HX0 : Hid (s[0].toNat = 43) := hx0
  clear hx0
  go_enter Tryf.func24, Tryf.ntmps24
  go_wp2_with fail
  go_loop [5, 6] (fun a b => ∃ k j : Nat, a = .int .i64 k ∧ b = .int .i64 j ∧ BInv s j k) (fun a _ => s.size - (intOf a).toNat)
  case atStart => exact ⟨1, 1, rfl, rfl, b_start s hp⟩
  case round =>
    obtain ⟨k, j, rfl, rfl, hinv⟩ := hrel
    have hj1 := hinv.one
    have hjk := hinv.le
    have hk := hinv.sz
    have HI : Hid (BInv s j k) := hinv
    clear hinv
    by_cases hlt : k < s.size
    · have C := sident_any s[k] w
      cases hc : idc s[k] with
      | true =>
        have h46 := (idc_ne hc).2
        have hb46 : ((s[k].toNat : Int) == 46) = false := by simp; omega
        have hb46' : ((s[k].toNat : Int) != 46) = true := by simp; omega
        have HR : Hid (BInv s j (k + 1)) := b_chr HI.out hlt hc
        rw [hc] at C
        have HC : Hid (Calls Tryf.prog 27 #[.int .u8 (s[k].toNat : Int)] w fun e w' => e = .returned (.bool true) ∧ w' = w) := C
        clear C hc h46
        go_wp2_with fail
        refine HC.out.mono ?_
        rintro e w' ⟨rfl, rfl⟩
        go_wp2
        go_round
        case rel => exact ⟨k + 1, j, by go_num, rfl, HR.out⟩
        case measure => simp [intOf]; omega
      | false =>
        rw [hc] at C
        have HC : Hid (Calls Tryf.prog 27 #[.int .u8 (s[k].toNat : Int)] w fun e w' => e = .returned (.bool false) ∧ w' = w) := C
        clear C
        by_cases h46 : s[k].toNat = 46
        · have hb46 : ((s[k].toNat : Int) == 46) = true := by simp; omega
          have hb46' : ((s[k].toNat : Int) != 46) = false := by simp; omega
          by_cases hjk2 : j = k
          · have HF : Hid (pBld (tl1 (Ls s)) = none) := b_dot_no HI.out hlt h46 hjk2
            have hbj : ((j : Int) == (k : Int)) = true := by simp; omega
            clear hc h46 hjk2
            go_wp2_with fail
            refine HC.out.mono ?_
            rintro e w' ⟨rfl, rfl⟩
            go_wp2
            go_ret3
            exact ⟨.inl ⟨HF.out, _, _, rfl⟩, 0, rfl⟩
          · have hbj : ((j : Int) == (k : Int)) = false := by simp; omega
            have HR : Hid (BInv s (k + 1) (k + 1)) := b_dot HI.out hlt h46 hjk2
            clear hc h46
            go_wp2_with fail
            refine HC.out.mono ?_
            rintro e w' ⟨rfl, rfl⟩
            go_wp2
            go_round
            case rel => exact ⟨k + 1, k + 1, by go_num, by go_num, HR.out⟩
            case measure => simp [intOf]; omega
        · have hb46 : ((s[k].toNat : Int) == 46) = false := by simp; omega
          have hb46' : ((s[k].toNat : Int) != 46) = true := by simp; omega
          have HF : Hid (pBld (tl1 (Ls s)) = none) := b_chr_no HI.out hlt h46 hc
          clear hc h46
          go_wp2_with fail
          refine HC.out.mono ?_
          rintro e w' ⟨rfl, rfl⟩
          go_wp2
          go_ret3
          exact ⟨.inl ⟨HF.out, _, _, rfl⟩, 0, rfl⟩
    · obtain rfl : k = s.size := by omega
      by_cases hjk2 : j = s.size
      · have HF : Hid (pBld (tl1 (Ls s)) = none) := b_end_no HI.out hjk2
        have hbj : ((j : Int) == (s.size : Int)) = true := by simp; omega
        clear hjk2
        go_wp2
        go_ret3
        exact ⟨.inl ⟨HF.out, _, _, rfl⟩, 0, rfl⟩
      · have HF : Hid (pBld (tl1 (Ls s)) = some (43 :: (Ls s).drop 1)) := b_end HI.out hjk2
        have hbj : ((j : Int) == (s.size : Int)) = false := by simp; omega
        have hke : (s.size : Int) ≤ (s.size : Int) := by omega
        go_wp2_with fail
        go_quiet (fail)
        go_wp2
        go_ret3
        refine ⟨.inr ⟨s, ByteArray.empty, ?_, rfl, rfl⟩, _, rfl⟩
        rw [HF.out]
        obtain ⟨r, e⟩ := Ls_head s hp
        rw [e, ch (by omega) hp HX0.out]; rfl
end Go.Proofs.Qxb6608811aFmt.PPre
