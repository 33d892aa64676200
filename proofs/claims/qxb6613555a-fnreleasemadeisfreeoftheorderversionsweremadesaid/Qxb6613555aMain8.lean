import Derived.Test.Qxb6613555aFacts
import Derived.Deep.RegionHeld3
/- the law's own function -/
namespace Go.Proofs.Qxb6613555a.Main
open Go.ChangeShapes Go.WideShapes Go.ChangeAt Go.RowKit Base Rec Set Chain Phase Release Sorts Build Go.Proofs.Qxb6613555a.Made Held Merge Bytes Premise

set_option maxRecDepth 100000 in
set_option maxHeartbeats 8000000 in
theorem main8 (na sa ha ma ia : Option Addr) (N sl hl M I nc sc hc mc ic : Nat) (n : Int) (nums since ho mi : Nat → Int) (names : Nat → ByteArray) (w : World) (hN : N ≤ maxLen) (hsl : sl ≤ maxLen) (hhl : hl ≤ maxLen) (hM : M ≤ maxLen) (hI : I ≤ maxLen) (hn : -2147483648 ≤ n ∧ n ≤ 2147483647)
    (ri : IRow w na N nums) (rs : IRow w sa sl since) (rh : IRow w ha hl ho) (rn : SRow w ia I names) (rm : IRow w ma M mi) :
    Calls Try.prog 8 #[.slice na N nc, .slice sa sl sc, .slice ha hl hc, .int .i32 n, .slice ia I ic, .slice ma M mc] w fun e w' => e = .returned (.bool true) ∧ Below w.heap.size w w' := by
  have RI : Hid (IRow w na N nums) := ri
  have RS : Hid (IRow w sa sl since) := rs
  have RH : Hid (IRow w ha hl ho) := rh
  have RN : Hid (SRow w ia I names) := rn
  have RM : Hid (IRow w ma M mi) := rm
  have HBY : Hid (Calls Try.prog 32 #[.slice na N nc, .slice sa sl sc, .slice ha hl hc, .int .i32 n, .slice ia I ic, .slice ma M mc] w fun e w' => Answers I names e ∧ w' = w) := bytes32 na sa ha ma ia N sl hl M I nc sc hc mc ic n names w hN hsl hhl hM hI rn
  clear ri rs rh rn rm
  unfold maxLen at hN hsl hhl hM hI
  go_enter Try.func8, Try.ntmps8
  go_wp2_with fail
  refine HBY.out.mono ?_
  rintro e w1 ⟨⟨b, rfl, hsm⟩, rfl⟩
  clear HBY
  cases b
  · go_wp2_with fail
    go_ret
    exact ⟨rfl, Below.refl _ _⟩
  have HSM : Hid (∀ k, k < I → (names k).size ≤ 1048576) := hsm rfl
  clear hsm
  by_cases hb : N ≤ 65536 ∧ sl ≤ 65536 ∧ hl ≤ 65536 ∧ I ≤ 65536 ∧ M ≤ 65536
  case neg =>
    go_wp2_with fail
    all_goals first | (go_ret; exact ⟨rfl, Below.refl _ _⟩) | (exfalso; omega)
  obtain ⟨b1, b2, b3, b4, b5⟩ := hb
  clear hN hsl hhl hM hI
  have g1 : decide ((65536 : Int) < (N : Int)) = false := by simp; omega
  have g2 : decide ((65536 : Int) < (sl : Int)) = false := by simp; omega
  have g3 : decide ((65536 : Int) < (hl : Int)) = false := by simp; omega
  have g4 : decide ((65536 : Int) < (I : Int)) = false := by simp; omega
  have g5 : decide ((65536 : Int) < (M : Int)) = false := by simp; omega
  go_wp2_with fail
  all_goals first | (go_ret; exact ⟨rfl, Below.refl _ _⟩) | skip
  clear g1 g2 g3 g4 g5
  go_loop [13, 14] (fun z v => ∃ (a : Int) (k : Nat), 0 ≤ a ∧ a ≤ 1048576 ∧ k ≤ I ∧ z = .int .i64 a ∧ v = .int .i64 k) (fun _ v => I - (intOf v).toNat)
  case atStart =>
    refine ⟨_, 0, ?_, ?_, by omega, rfl, rfl⟩ <;> omega
  case round =>
    obtain ⟨a, k, ha0, ha1, hk, rfl, rfl⟩ := hrel
    by_cases hkI : k < I
    · have hkII : (k : Int) < (I : Int) := by omega
      obtain ⟨b, o, rfl, hc⟩ := RN.out.1 (by omega)
      have c1 := hc k hkI
      have hs := HSM.out k hkI
      clear hc
      by_cases g2 : a + ((names k).size : Int) ≤ 1048576
      · have g2' : decide ((1048576 : Int) < a + ((names k).size : Int)) = false := by simp; omega
        go_wp2_with fail
        go_round
        case rel => exact ⟨_, k + 1, by omega, g2, by omega, rfl, by go_num⟩
        case measure => simp [intOf]; omega
      · have g2' : decide ((1048576 : Int) < a + ((names k).size : Int)) = true := by simp; omega
        go_wp2_with fail
        go_ret
        exact ⟨rfl, Below.refl _ _⟩
    · obtain rfl : I = k := by omega
      have hkII : ¬ (I : Int) < (I : Int) := by omega
      go_wp2_with fail
      refine (premise na sa ha ma ia N sl hl M I nc sc hc mc ic n ho mi w1 b1 b2 b3 b5 b4 hn RH.out RM.out).mono ?_
      rintro e w2 ⟨hpr, hbl⟩
      have BL : Hid (Below w1.heap.size w1 w2) := hbl
      clear hbl
      rcases hpr with rfl | ⟨rfl, pr⟩
      · go_wp2_with fail
        go_ret
        exact ⟨rfl, BL.out⟩
      obtain rfl : N = sl := pr.sl.symm
      obtain rfl : N = hl := pr.hl.symm
      have hN0 : 0 < N := by have := pr.n0; have := pr.nN; omega
      obtain ⟨bn, on, rfl, cn⟩ := RI.out.1 hN0
      obtain ⟨bs, os, rfl, cs⟩ := RS.out.1 hN0
      obtain ⟨bh, oh, rfl, chh⟩ := RH.out.1 hN0
      have PR : Hid (Prem N M I N N n ho mi) := pr
      have IN : Hid (Ins w2 bn on bs os bh oh ma ia N I M nums since ho mi names) := ⟨fun i hi => below_cell BL.out (cn i hi), fun i hi => below_cell BL.out (cs i hi), fun i hi => below_cell BL.out (chh i hi), RN.out.below BL.out, RM.out.below BL.out⟩
      have BDS : Hid ((∀ i, -2147483648 ≤ since i ∧ since i ≤ 2147483647) ∧ ∀ i, -2147483648 ≤ ho i ∧ ho i ≤ 2147483647) := ⟨RS.out.2, RH.out.2⟩
      have hnn : 0 ≤ n ∧ n < N := ⟨pr.n0, pr.nN⟩
      clear pr cn cs chh RI RS RH RN RM b2 b3
      go_wp2_with fail
      refine (sorts bs os bh oh N sc hc since ho w2 b1 IN.out.cs IN.out.ch BDS.out.1 BDS.out.2).mono ?_
      rintro e w3 ⟨gs, f, dd, rfl, hix, hgs, hbl, hperm, hst⟩
      have SR : Hid (Srt N (held ho N).length since ho f dd) := srt hperm hst
      have IX : Hid (Idx w3 gs (held ho N).length f) := hix
      have IN3 : Hid (Ins w3 bn on bs os bh oh ma ia N I M nums since ho mi names) := IN.out.below hbl
      have BL3 : Hid (Below w1.heap.size w1 w3) := BL.out.trans (hbl.mono BL.out.size)
      clear hix hbl hperm hst IN BL hgs
      obtain ⟨cnt, hcnt⟩ : ∃ c, c = (held ho N).length := ⟨_, rfl⟩
      rw [← hcnt] at SR IX ⊢
      clear hcnt
      cases dd
      · go_wp2_with fail
        go_ret
        exact ⟨rfl, BL3.out⟩
      obtain ⟨m, hm⟩ : ∃ m : Nat, n = (m : Int) := ⟨n.toNat, by omega⟩
      subst hm
      have hmN : m < N := by omega
      have hcN : cnt ≤ N := SR.out.le
      go_wp2_with fail
      refine (builds bn on bs os bh oh gs ma ia N I M cnt nc sc hc mc ic (m : Int) nums since ho mi names f false w3 b1 b4 b5 SR.out.le PR.out IN3.out.cn IN3.out.cs IN3.out.ch IN3.out.rn IN3.out.rm IX.out SR.out.fb SR.out.nd).mono ?_
      rintro e w4 ⟨A, s, first, last, next, rm, rfl, hbt, hbl⟩
      have BT : Hid (Built w3.heap.size A s w4 N I M (m : Int) nums since ho names mi (seg f 0 cnt) false first last next rm) := hbt
      have BL4 : Hid (Below w3.heap.size w3 w4) := hbl
      clear hbt hbl
      go_wp2_with fail
      refine (made29 BT.out PR.out b1 (fun x hx => (SR.out.mem x).1 hx) SR.out.nd (SR.out.st rfl) (by rw [SR.out.len]; exact Nat.le_trans SR.out.le b1) rfl).mono ?_
      rintro e w5 ⟨g1, rfl, hg1, hrec, hmv, hbl⟩
      rw [SR.out.len] at hrec ⊢
      have HR1 : Hid (Rec w5 g1 62 cnt 5 (Out (seg f 0 cnt) (RL since nums (ns names mi ho) (nums m)))) := hrec
      have BL5 : Hid (Below w3.heap.size w3 w5) := BL4.out.trans hbl
      have IN5 : Hid (Ins w5 bn on bs os bh oh ma ia N I M nums since ho mi names) := IN3.out.below BL5.out
      have IX5 : Hid (Idx w5 gs cnt f) := Blk.below IX.out BL5.out (Blk.lt IX.out)
      have BLF : Hid (Below w1.heap.size w1 w5) := BL3.out.trans (BL5.out.mono BL3.out.size)
      clear hrec hmv hbl BL3 BL4 BL5 IN3 IX hg1 BT
      go_wp2_with fail
      refine (builds bn on bs os bh oh gs ma ia N I M cnt nc sc hc mc ic (m : Int) nums since ho mi names f true w5 b1 b4 b5 SR.out.le PR.out IN5.out.cn IN5.out.cs IN5.out.ch IN5.out.rn IN5.out.rm IX5.out SR.out.fb SR.out.nd).mono ?_
      rintro e w6 ⟨A2, s2, first2, last2, next2, rm2, rfl, hbt, hbl⟩
      have BT : Hid (Built w5.heap.size A2 s2 w6 N I M (m : Int) nums since ho names mi (seg f 0 cnt) true first2 last2 next2 rm2) := hbt
      have BL6 : Hid (Below w5.heap.size w5 w6) := hbl
      clear hbt hbl
      go_wp2_with fail
      refine (made29 BT.out PR.out b1 (fun x hx => (SR.out.mem x).1 hx) SR.out.nd (SR.out.st rfl) (by rw [SR.out.len]; exact Nat.le_trans SR.out.le b1) rfl).mono ?_
      rintro e w7 ⟨g2, rfl, hg2, hrec, hmv, hbl⟩
      rw [SR.out.len] at hrec ⊢
      have HR2 : Hid (Rec w7 g2 62 cnt 5 (Out (seg f 0 cnt) (RL since nums (ns names mi ho) (nums m)))) := hrec
      have BL7 : Hid (Below w5.heap.size w5 w7) := BL6.out.trans hbl
      have HR3 : Hid (Rec w7 g1 62 cnt 5 (Out (seg f 0 cnt) (RL since nums (ns names mi ho) (nums m)))) := Blk.below HR1.out BL7.out (Blk.lt HR1.out)
      have IN7 : Hid (Ins w7 bn on bs os bh oh ma ia N I M nums since ho mi names) := IN5.out.below BL7.out
      have BLG : Hid (Below w1.heap.size w1 w7) := BLF.out.trans (BL7.out.mono BLF.out.size)
      clear hrec hmv hbl BLF BL6 BL7 IN5 IX5 hg2 BT HR1
      go_wp2_with fail
      go_loopw [19] (fun v wr => ∃ k : Nat, k ≤ cnt ∧ v = .int .i64 k ∧ KeepT [] w7 wr ∧ Below w7.heap.size w7 wr) (fun v _ => cnt - (intOf v).toNat)
      case atStart => exact ⟨0, by omega, rfl, KeepT.refl _ _, Below.refl _ _⟩
      case round =>
        obtain ⟨k, hk, rfl, kp, bl⟩ := hrel
        have KP : Hid (KeepT [] w7 wr) := kp
        have BL : Hid (Below w7.heap.size w7 wr) := bl
        clear kp bl
        by_cases hkc : k < cnt
        · have hkI : (k : Int) < (cnt : Int) := by omega
          have e5 := below_cell BL.out (IN7.out.cn m hmN)
          have HRW : Rec wr g2 62 cnt 5 (Out (seg f 0 cnt) (RL since nums (ns names mi ho) (nums m))) := HR2.out.keep KP.out (by simp)
          have HRV : Rec wr g1 62 cnt 5 (Out (seg f 0 cnt) (RL since nums (ns names mi ho) (nums m))) := HR3.out.keep KP.out (by simp)
          have d0 : wr.cell? ⟨g2, k * 5, none⟩ = some (.int .u8 0) := by rw [HRW.cell0 hkc (by omega)]; unfold Out; rw [SR.out.at_ k hkc]; rfl
          have d1 : wr.cell? ⟨g2, k * 5 + 1, none⟩ = some (.int .i32 (nums (f k))) := by rw [HRW.cell hkc (k := 1) (by omega)]; unfold Out; rw [SR.out.at_ k hkc]; rfl
          have d2 : wr.cell? ⟨g2, k * 5 + 2, none⟩ = some (.string (ns names mi ho (f k))) := by rw [HRW.cell hkc (k := 2) (by omega)]; unfold Out; rw [SR.out.at_ k hkc]; rfl
          have d3 : wr.cell? ⟨g2, k * 5 + 3, none⟩ = some (.int .i32 (nums m)) := by rw [HRW.cell hkc (k := 3) (by omega)]; unfold Out; rw [SR.out.at_ k hkc]; rfl
          have d4 : wr.cell? ⟨g2, k * 5 + 4, none⟩ = some (.bool true) := by rw [HRW.cell hkc (k := 4) (by omega)]; unfold Out; rw [SR.out.at_ k hkc]; rfl
          have c0 : wr.cell? ⟨g1, k * 5, none⟩ = some (.int .u8 0) := by rw [HRV.cell0 hkc (by omega)]; unfold Out; rw [SR.out.at_ k hkc]; rfl
          have c1 : wr.cell? ⟨g1, k * 5 + 1, none⟩ = some (.int .i32 (nums (f k))) := by rw [HRV.cell hkc (k := 1) (by omega)]; unfold Out; rw [SR.out.at_ k hkc]; rfl
          have c2 : wr.cell? ⟨g1, k * 5 + 2, none⟩ = some (.string (ns names mi ho (f k))) := by rw [HRV.cell hkc (k := 2) (by omega)]; unfold Out; rw [SR.out.at_ k hkc]; rfl
          have c3 : wr.cell? ⟨g1, k * 5 + 3, none⟩ = some (.int .i32 (nums m)) := by rw [HRV.cell hkc (k := 3) (by omega)]; unfold Out; rw [SR.out.at_ k hkc]; rfl
          have c4 : wr.cell? ⟨g1, k * 5 + 4, none⟩ = some (.bool true) := by rw [HRV.cell hkc (k := 4) (by omega)]; unfold Out; rw [SR.out.at_ k hkc]; rfl
          clear HRW HRV
          generalize nums (f k) = y1 at *
          generalize ns names mi ho (f k) = y2 at *
          generalize nums m = y3 at *
          have hmI : (m : Int) < (N : Int) := by omega
          have KV : Hid (KeepT [] w7 wr.drew) := KP.out.drew
          have BV : Hid (Below w7.heap.size w7 wr.drew) := BL.out.drew
          go_wp2_with fail
          go_region_held3 (fun w' => w'.cell? ⟨g2, k * 5, none⟩ = some (.int .u8 0) ∧ w'.cell? ⟨g2, k * 5 + 1, none⟩ = some (.int .i32 y1) ∧ w'.cell? ⟨g2, k * 5 + 2, none⟩ = some (.string y2) ∧ w'.cell? ⟨g2, k * 5 + 3, none⟩ = some (.int .i32 y3) ∧ w'.cell? ⟨g2, k * 5 + 4, none⟩ = some (.bool true) ∧ w'.cell? ⟨g1, k * 5, none⟩ = some (.int .u8 0) ∧ w'.cell? ⟨g1, k * 5 + 1, none⟩ = some (.int .i32 y1) ∧ w'.cell? ⟨g1, k * 5 + 2, none⟩ = some (.string y2) ∧ w'.cell? ⟨g1, k * 5 + 3, none⟩ = some (.int .i32 y3) ∧ w'.cell? ⟨g1, k * 5 + 4, none⟩ = some (.bool true) ∧ w'.cell? ⟨bn, on + m, none⟩ = some (.int .i32 y3)) (go_keep) (fail)
          go_wp2_with fail
          go_roundw
          case rel => exact ⟨k + 1, by omega, by go_num, KV.out, BV.out⟩
          case measure => simp [intOf]; omega
        · obtain rfl : cnt = k := by omega
          have hkI : ¬ (cnt : Int) < (cnt : Int) := by omega
          have BLW : Hid (Below w1.heap.size w1 wr) := BLG.out.trans (BL.out.mono BLG.out.size)
          clear KP BL
          go_wp2_with fail
          go_ret
          exact ⟨rfl, BLW.out⟩
end Go.Proofs.Qxb6613555a.Main
