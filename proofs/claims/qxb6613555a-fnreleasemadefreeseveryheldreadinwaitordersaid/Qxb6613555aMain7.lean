import Derived.Test.Qxb6613555aFacts
import Derived.Deep.RegionHeld3
/- the law's own function -/
namespace Go.Proofs.Qxb6613555a.Main
open Go.ChangeShapes Go.WideShapes Go.ChangeAt Go.RowKit Base Rec Set Chain Phase Release Sorts Build Go.Proofs.Qxb6613555a.Made Held Merge Bytes Premise

set_option maxRecDepth 100000 in
set_option maxHeartbeats 8000000 in
theorem main7 (na sa ha ma ia : Option Addr) (N sl hl M I nc sc hc mc ic : Nat) (n : Int) (nums since ho mi : Nat → Int) (names : Nat → ByteArray) (w : World) (hN : N ≤ maxLen) (hsl : sl ≤ maxLen) (hhl : hl ≤ maxLen) (hM : M ≤ maxLen) (hI : I ≤ maxLen) (hn : -2147483648 ≤ n ∧ n ≤ 2147483647)
    (ri : IRow w na N nums) (rs : IRow w sa sl since) (rh : IRow w ha hl ho) (rn : SRow w ia I names) (rm : IRow w ma M mi) :
    Calls Try.prog 7 #[.slice na N nc, .slice sa sl sc, .slice ha hl hc, .int .i32 n, .slice ia I ic, .slice ma M mc] w fun e w' => e = .returned (.bool true) ∧ Below w.heap.size w w' := by
  have RI : Hid (IRow w na N nums) := ri
  have RS : Hid (IRow w sa sl since) := rs
  have RH : Hid (IRow w ha hl ho) := rh
  have RN : Hid (SRow w ia I names) := rn
  have RM : Hid (IRow w ma M mi) := rm
  have HBY : Hid (Calls Try.prog 25 #[.slice na N nc, .slice sa sl sc, .slice ha hl hc, .int .i32 n, .slice ia I ic, .slice ma M mc] w fun e w' => Answers I names e ∧ w' = w) := bytes25 na sa ha ma ia N sl hl M I nc sc hc mc ic n names w hN hsl hhl hM hI rn
  clear ri rs rh rn rm
  unfold maxLen at hN hsl hhl hM hI
  go_enter Try.func7, Try.ntmps7
  go_wp2_with fail
  refine HBY.out.mono ?_
  rintro e w1 ⟨⟨b, rfl, hsm⟩, rfl⟩
  clear HBY
  cases b
  · go_wp2_with fail
    go_ret
    exact ⟨rfl, Below.refl _ _⟩
  have HSM : Hid (∀ k, k < I → (names k).size ≤ 1048576) := hsm rfl
  clear hsm
  by_cases hb : N ≤ 65536 ∧ sl ≤ 65536 ∧ hl ≤ 65536 ∧ I ≤ 65536 ∧ M ≤ 65536
  case neg =>
    go_wp2_with fail
    all_goals first | (go_ret; exact ⟨rfl, Below.refl _ _⟩) | (exfalso; omega)
  obtain ⟨b1, b2, b3, b4, b5⟩ := hb
  clear hN hsl hhl hM hI
  have g1 : decide ((65536 : Int) < (N : Int)) = false := by simp; omega
  have g2 : decide ((65536 : Int) < (sl : Int)) = false := by simp; omega
  have g3 : decide ((65536 : Int) < (hl : Int)) = false := by simp; omega
  have g4 : decide ((65536 : Int) < (I : Int)) = false := by simp; omega
  have g5 : decide ((65536 : Int) < (M : Int)) = false := by simp; omega
  go_wp2_with fail
  all_goals first | (go_ret; exact ⟨rfl, Below.refl _ _⟩) | skip
  clear g1 g2 g3 g4 g5
  go_loop [13, 14] (fun z v => ∃ (a : Int) (k : Nat), 0 ≤ a ∧ a ≤ 1048576 ∧ k ≤ I ∧ z = .int .i64 a ∧ v = .int .i64 k) (fun _ v => I - (intOf v).toNat)
  case atStart =>
    refine ⟨_, 0, ?_, ?_, by omega, rfl, rfl⟩ <;> omega
  case round =>
    obtain ⟨a, k, ha0, ha1, hk, rfl, rfl⟩ := hrel
    by_cases hkI : k < I
    · have hkII : (k : Int) < (I : Int) := by omega
      obtain ⟨b, o, rfl, hc⟩ := RN.out.1 (by omega)
      have c1 := hc k hkI
      have hs := HSM.out k hkI
      clear hc
      by_cases g2 : a + ((names k).size : Int) ≤ 1048576
      · have g2' : decide ((1048576 : Int) < a + ((names k).size : Int)) = false := by simp; omega
        go_wp2_with fail
        go_round
        case rel => exact ⟨_, k + 1, by omega, g2, by omega, rfl, by go_num⟩
        case measure => simp [intOf]; omega
      · have g2' : decide ((1048576 : Int) < a + ((names k).size : Int)) = true := by simp; omega
        go_wp2_with fail
        go_ret
        exact ⟨rfl, Below.refl _ _⟩
    · obtain rfl : I = k := by omega
      have hkII : ¬ (I : Int) < (I : Int) := by omega
      go_wp2_with fail
      refine (premise na sa ha ma ia N sl hl M I nc sc hc mc ic n ho mi w1 b1 b2 b3 b5 b4 hn RH.out RM.out).mono ?_
      rintro e w2 ⟨hpr, hbl⟩
      have BL : Hid (Below w1.heap.size w1 w2) := hbl
      clear hbl
      rcases hpr with rfl | ⟨rfl, pr⟩
      · go_wp2_with fail
        go_ret
        exact ⟨rfl, BL.out⟩
      obtain rfl : N = sl := pr.sl.symm
      obtain rfl : N = hl := pr.hl.symm
      have hN0 : 0 < N := by have := pr.n0; have := pr.nN; omega
      obtain ⟨bn, on, rfl, cn⟩ := RI.out.1 hN0
      obtain ⟨bs, os, rfl, cs⟩ := RS.out.1 hN0
      obtain ⟨bh, oh, rfl, chh⟩ := RH.out.1 hN0
      have PR : Hid (Prem N M I N N n ho mi) := pr
      have IN : Hid (Ins w2 bn on bs os bh oh ma ia N I M nums since ho mi names) := ⟨fun i hi => below_cell BL.out (cn i hi), fun i hi => below_cell BL.out (cs i hi), fun i hi => below_cell BL.out (chh i hi), RN.out.below BL.out, RM.out.below BL.out⟩
      have BDS : Hid ((∀ i, -2147483648 ≤ since i ∧ since i ≤ 2147483647) ∧ ∀ i, -2147483648 ≤ ho i ∧ ho i ≤ 2147483647) := ⟨RS.out.2, RH.out.2⟩
      have hnn : 0 ≤ n ∧ n < N := ⟨pr.n0, pr.nN⟩
      clear pr cn cs chh RI RS RH RN RM b2 b3
      go_wp2_with fail
      refine (sorts bs os bh oh N sc hc since ho w2 b1 IN.out.cs IN.out.ch BDS.out.1 BDS.out.2).mono ?_
      rintro e w3 ⟨gs, f, dd, rfl, hix, hgs, hbl, hperm, hst⟩
      have SR : Hid (Srt N (held ho N).length since ho f dd) := srt hperm hst
      have IX : Hid (Idx w3 gs (held ho N).length f) := hix
      have IN3 : Hid (Ins w3 bn on bs os bh oh ma ia N I M nums since ho mi names) := IN.out.below hbl
      have BL3 : Hid (Below w1.heap.size w1 w3) := BL.out.trans (hbl.mono BL.out.size)
      clear hix hbl hperm hst IN BL hgs
      obtain ⟨cnt, hcnt⟩ : ∃ c, c = (held ho N).length := ⟨_, rfl⟩
      rw [← hcnt] at SR IX ⊢
      clear hcnt
      cases dd
      · go_wp2_with fail
        go_ret
        exact ⟨rfl, BL3.out⟩
      obtain ⟨m, hm⟩ : ∃ m : Nat, n = (m : Int) := ⟨n.toNat, by omega⟩
      subst hm
      have hmN : m < N := by omega
      go_wp2_with fail
      refine (builds bn on bs os bh oh gs ma ia N I M cnt nc sc hc mc ic (m : Int) nums since ho mi names f false w3 b1 b4 b5 SR.out.le PR.out IN3.out.cn IN3.out.cs IN3.out.ch IN3.out.rn IN3.out.rm IX.out SR.out.fb SR.out.nd).mono ?_
      rintro e w4 ⟨A, s, first, last, next, rm, rfl, hbt, hbl⟩
      have BT : Hid (Built w3.heap.size A s w4 N I M (m : Int) nums since ho names mi (seg f 0 cnt) false first last next rm) := hbt
      have BL4 : Hid (Below w3.heap.size w3 w4) := hbl
      clear hbt hbl
      go_wp2_with fail
      refine (made29 BT.out PR.out b1 (fun x hx => (SR.out.mem x).1 hx) SR.out.nd (SR.out.st rfl) (by rw [SR.out.len]; exact Nat.le_trans SR.out.le b1) rfl).mono ?_
      rintro e w5 ⟨g2, rfl, hg2, hrec, hmv, hbl⟩
      rw [SR.out.len] at hrec ⊢
      have HR : Hid (Rec w5 g2 62 cnt 5 (Out (seg f 0 cnt) (RL since nums (ns names mi ho) (nums m)))) := hrec
      have HMV : Hid (MV w3.heap.size A { s with F := freed s.F (seg f 0 cnt) } w5) := hmv
      have BL5 : Hid (Below w3.heap.size w3 w5) := BL4.out.trans hbl
      have IN5 : Hid (Ins w5 bn on bs os bh oh ma ia N I M nums since ho mi names) := IN3.out.below BL5.out
      have IX5 : Hid (Idx w5 gs cnt f) := Blk.below IX.out BL5.out (Blk.lt IX.out)
      have BLF : Hid (Below w1.heap.size w1 w5) := BL3.out.trans (BL5.out.mono BL3.out.size)
      clear hrec hmv hbl BL3 BL4 BL5 IN3 IX hg2
      have hcN : cnt ≤ N := SR.out.le
      go_wp2_with fail
      go_loopw [19] (fun v wr => ∃ k : Nat, k ≤ cnt ∧ v = .int .i64 k ∧ KeepT [] w5 wr ∧ Below w5.heap.size w5 wr) (fun v _ => cnt - (intOf v).toNat)
      case atStart => exact ⟨0, by omega, rfl, KeepT.refl _ _, Below.refl _ _⟩
      case round =>
        obtain ⟨k, hk, rfl, kp, bl⟩ := hrel
        have KP : Hid (KeepT [] w5 wr) := kp
        have BL : Hid (Below w5.heap.size w5 wr) := bl
        clear kp bl
        by_cases hkc : k < cnt
        · have hkI : (k : Int) < (cnt : Int) := by omega
          obtain ⟨hfN, hf0⟩ := SR.out.fb k hkc
          obtain ⟨j, hj⟩ : ∃ j : Nat, ho (f k) = (j : Int) := ⟨(ho (f k)).toNat, by omega⟩
          have hjM : j < M := by have := (PR.out.hoM (f k) hfN).2; omega
          obtain ⟨x, hx⟩ : ∃ x : Nat, mi j = (x : Int) := ⟨(mi j).toNat, by have := (PR.out.mi0 j hjM).1; omega⟩
          have hxI : x < I := by have := (PR.out.mi0 j hjM).2; omega
          obtain ⟨bm, om, rfl, cm⟩ := IN5.out.rm.1 (by omega)
          obtain ⟨bi, oi, rfl, ci⟩ := IN5.out.rn.1 (by omega)
          have e1 := below_cell BL.out (IN5.out.cn (f k) hfN)
          have e2 := below_cell BL.out (IN5.out.ch (f k) hfN)
          have e3 := below_cell BL.out (cm j hjM)
          have e4 := below_cell BL.out (ci x hxI)
          have e5 := below_cell BL.out (IN5.out.cn m hmN)
          have e6 := below_cell BL.out (Blk.cell IX5.out hkc)
          rw [hj] at e2
          rw [hx] at e3
          have HRW : Rec wr g2 62 cnt 5 (Out (seg f 0 cnt) (RL since nums (ns names mi ho) (nums m))) := HR.out.keep KP.out (by simp)
          have hns : ns names mi ho (f k) = names x := by unfold ns; rw [hj, Int.toNat_natCast, hx, Int.toNat_natCast]
          have d0 : wr.cell? ⟨g2, k * 5, none⟩ = some (.int .u8 0) := by rw [HRW.cell0 hkc (by omega)]; unfold Out; rw [SR.out.at_ k hkc]; rfl
          have d1 : wr.cell? ⟨g2, k * 5 + 1, none⟩ = some (.int .i32 (nums (f k))) := by rw [HRW.cell hkc (k := 1) (by omega)]; unfold Out; rw [SR.out.at_ k hkc]; rfl
          have d2 : wr.cell? ⟨g2, k * 5 + 2, none⟩ = some (.string (names x)) := by rw [HRW.cell hkc (k := 2) (by omega)]; unfold Out; rw [SR.out.at_ k hkc, ← hns]; rfl
          have d3 : wr.cell? ⟨g2, k * 5 + 3, none⟩ = some (.int .i32 (nums m)) := by rw [HRW.cell hkc (k := 3) (by omega)]; unfold Out; rw [SR.out.at_ k hkc]; rfl
          have d4 : wr.cell? ⟨g2, k * 5 + 4, none⟩ = some (.bool true) := by rw [HRW.cell hkc (k := 4) (by omega)]; unfold Out; rw [SR.out.at_ k hkc]; rfl
          obtain ⟨i, hi⟩ : ∃ i, i = f k := ⟨_, rfl⟩
          rw [← hi] at e1 e2 e6 d1 hfN
          clear cm ci HRW hns hj hx hi hf0
          have hiI : (i : Int) < (N : Int) := by omega
          have hjI : (j : Int) < (M : Int) := by omega
          have hxII : (x : Int) < (I : Int) := by omega
          have hmI : (m : Int) < (N : Int) := by omega
          go_wp2_with fail
          have KV : Hid (KeepT [] w5 (wr.alloc (.cells #[.int .u8 0, .int .i32 (nums i), .string (names x), .int .i32 (nums m), .bool true] 62))) := KP.out.alloc _
          have BV : Hid (Below w5.heap.size w5 (wr.alloc (.cells #[.int .u8 0, .int .i32 (nums i), .string (names x), .int .i32 (nums m), .bool true] 62))) := BL.out.alloc BL.out.size _
          have HBK : Hid ((wr.alloc (.cells #[.int .u8 0, .int .i32 (nums i), .string (names x), .int .i32 (nums m), .bool true] 62)).heap[wr.heap.size]? = some (.cells #[.int .u8 0, .int .i32 (nums i), .string (names x), .int .i32 (nums m), .bool true] 62 (0, 0))) := heap_alloc_new wr _
          have BA : Below wr.heap.size wr (wr.alloc (.cells #[.int .u8 0, .int .i32 (nums i), .string (names x), .int .i32 (nums m), .bool true] 62)) := (Below.refl _ _).alloc (Nat.le_refl _) _
          replace e1 := below_cell BA e1
          replace e2 := below_cell BA e2
          replace e3 := below_cell BA e3
          replace e4 := below_cell BA e4
          replace e5 := below_cell BA e5
          clear BA e6 d0 d1 d2 d3 d4 KP BL
          generalize wr.alloc (.cells #[.int .u8 0, .int .i32 (nums i), .string (names x), .int .i32 (nums m), .bool true] 62) = V at *
          generalize wr.heap.size = bk at *
          have i0 : V.cell? ⟨bk, 0, none⟩ = some (.int .u8 0) := by rw [cell_of_row V bk 0 _ _ _ HBK.out]; rfl
          have i1 : V.cell? ⟨bk, 1, none⟩ = some (.int .i32 (nums i)) := by rw [cell_of_row V bk 1 _ _ _ HBK.out]; rfl
          have i2 : V.cell? ⟨bk, 2, none⟩ = some (.string (names x)) := by rw [cell_of_row V bk 2 _ _ _ HBK.out]; rfl
          have i3 : V.cell? ⟨bk, 3, none⟩ = some (.int .i32 (nums m)) := by rw [cell_of_row V bk 3 _ _ _ HBK.out]; rfl
          have i4 : V.cell? ⟨bk, 4, none⟩ = some (.bool true) := by rw [cell_of_row V bk 4 _ _ _ HBK.out]; rfl
          go_region_held3 (fun w' => w'.cell? ⟨bk, 0, none⟩ = some (.int .u8 0) ∧ w'.cell? ⟨bk, 1, none⟩ = some (.int .i32 (nums i)) ∧ w'.cell? ⟨bk, 2, none⟩ = some (.string (names x)) ∧ w'.cell? ⟨bk, 3, none⟩ = some (.int .i32 (nums m)) ∧ w'.cell? ⟨bk, 4, none⟩ = some (.bool true) ∧ w'.cell? ⟨bn, on + i, none⟩ = some (.int .i32 (nums i)) ∧ w'.cell? ⟨bh, oh + i, none⟩ = some (.int .i32 (j : Int)) ∧ w'.cell? ⟨bm, om + j, none⟩ = some (.int .i32 (x : Int)) ∧ w'.cell? ⟨bi, oi + x, none⟩ = some (.string (names x)) ∧ w'.cell? ⟨bn, on + m, none⟩ = some (.int .i32 (nums m))) (go_keep) (fail)
          go_wp2_with fail
          go_roundw
          case rel => exact ⟨k + 1, by omega, by go_num, KV.out.drew, BV.out.drew⟩
          case measure => simp [intOf]; omega
        · obtain rfl : cnt = k := by omega
          have hkI : ¬ (cnt : Int) < (cnt : Int) := by omega
          have HMW : Hid (MV w3.heap.size A { s with F := freed s.F (seg f 0 cnt) } wr) := HMV.out.keep KP.out (by simp)
          have INW : Hid (Ins wr bn on bs os bh oh ma ia N I M nums since ho mi names) := IN5.out.below BL.out
          have BLW : Hid (Below w1.heap.size w1 wr) := BLF.out.trans (BL.out.mono BLF.out.size)
          have HFP : Hid (∀ i, i < N → freed s.F (seg f 0 cnt) i 1 = .int .u8 (if 0 ≤ ho i then 0 else phase ho (m : Int) i)) := fun i hi => by
            unfold freed
            by_cases h : 0 ≤ ho i
            · rw [if_pos ⟨rfl, (SR.out.mem i).2 ⟨hi, h⟩⟩, if_pos h]
            · rw [if_neg (fun h2 => h ((SR.out.mem i).1 h2.2).2), if_neg h, BT.out.F i hi]; rfl
          have hsN : s.N = N := BT.out.dim.1
          clear HMV IN5 BLF KP BL HR IX5
          go_wp2_with fail
          go_loop [22] (fun v => ∃ i : Nat, i ≤ N ∧ v = .int .i64 i) (fun v => N - (intOf v).toNat)
          case atStart => exact ⟨0, by omega, rfl⟩
          case round =>
            obtain ⟨i, hi, rfl⟩ := hrel
            by_cases hiN : i < N
            · have hiI : (i : Int) < (N : Int) := by omega
              have c1 := INW.out.ch i hiN
              have hp := HFP.out i hiN
              have hiS : i < s.N := by rw [hsN]; exact hiN
              by_cases g : 0 ≤ ho i
              · have g' : decide (0 ≤ ho i) = true := by simpa using g
                rw [if_pos g] at hp
                go_wp2_with (first | (go_at_call 30; refine (phaseBefore bh oh N hc i (m : Int) ho _ hiN b1 hnn c1).mono ?_; rintro e w' ⟨rfl, rfl⟩) | (go_at_call 31; refine (readPhase HMW.out i hiS 0 hp).mono ?_; rintro e w' ⟨rfl, rfl⟩))
                go_round
                case rel => exact ⟨i + 1, by omega, by go_num⟩
                case measure => simp [intOf]; omega
              · have g' : decide (0 ≤ ho i) = false := by simpa using g
                rw [if_neg g] at hp
                obtain ⟨q, hq⟩ : ∃ q, q = phase ho (m : Int) i := ⟨_, rfl⟩
                rw [← hq] at hp
                go_wp2_with (first | (go_at_call 30; refine (phaseBefore bh oh N hc i (m : Int) ho _ hiN b1 hnn c1).mono ?_; rw [← hq]; rintro e w' ⟨rfl, rfl⟩) | (go_at_call 31; refine (readPhase HMW.out i hiS q hp).mono ?_; rintro e w' ⟨rfl, rfl⟩))
                go_round
                case rel => exact ⟨i + 1, by omega, by go_num⟩
                case measure => simp [intOf]; omega
            · obtain rfl : N = i := by omega
              have hiI : ¬ (N : Int) < (N : Int) := by omega
              go_wp2_with fail
              go_ret
              exact ⟨rfl, BLW.out⟩
end Go.Proofs.Qxb6613555a.Main
