import Derived.Test.Qxb6613555aBase
import Derived.Deep.OwnRows
namespace Go.Proofs.Qxb6613555a.Premise
open Go.ChangeShapes Go.WideShapes Go.ChangeAt Go.RowKit Base

theorem info4 : (Try.prog.info? 4).map (fun i => (i.zero, i.size, i.bytes)) = some (some (.bool false), 1, 1) := by kernel_rfl

set_option maxRecDepth 100000 in
set_option maxHeartbeats 8000000 in
theorem premise (na sa ha ma ia : Option Addr) (N sl hl M I nc sc hc mc ic : Nat) (n : Int) (ho mi : Nat → Int) (w : World) (hN : N ≤ 65536) (hsl : sl ≤ 65536) (hhl : hl ≤ 65536) (hM : M ≤ 65536) (hI : I ≤ 65536)
    (hn : -2147483648 ≤ n ∧ n ≤ 2147483647) (hh : IRow w ha hl ho) (hm : IRow w ma M mi) :
    Calls Try.prog 26 #[.slice na N nc, .slice sa sl sc, .slice ha hl hc, .int .i32 n, .slice ia I ic, .slice ma M mc] w fun e w' =>
      (e = .returned (.bool false) ∨ (e = .returned (.bool true) ∧ Prem N M I sl hl n ho mi)) ∧ Below w.heap.size w w' := by
  have HH : Hid (IRow w ha hl ho) := hh
  have HM : Hid (IRow w ma M mi) := hm
  clear hh hm
  by_cases h1 : sl ≠ N
  · have h1'' : ((sl : Int) != (N : Int)) = true := by simp; omega
    go_enter Try.func26, Try.ntmps26
    go_wp2_with fail
    go_ret
    exact ⟨.inl rfl, Below.refl _ _⟩
  obtain rfl : sl = N := by omega
  by_cases h2 : hl ≠ sl
  · have h1'' : ((hl : Int) != (sl : Int)) = true := by simp; omega
    go_enter Try.func26, Try.ntmps26
    go_wp2_with fail
    go_ret
    exact ⟨.inl rfl, Below.refl _ _⟩
  obtain rfl : hl = sl := by omega
  by_cases h3 : n < 0
  · have h3' : decide (n < 0) = true := by simpa using h3
    go_enter Try.func26, Try.ntmps26
    go_wp2_with fail
    go_ret
    exact ⟨.inl rfl, Below.refl _ _⟩
  have h3' : decide (n < 0) = false := by simpa using h3
  obtain ⟨n, rfl⟩ : ∃ x : Nat, n = x := ⟨n.toNat, by omega⟩
  by_cases h4 : hl ≤ n
  · have h4' : decide (hl ≤ n) = true := by simpa using h4
    go_enter Try.func26, Try.ntmps26
    go_wp2_with fail
    go_ret
    exact ⟨.inl rfl, Below.refl _ _⟩
  have h4' : decide (hl ≤ n) = false := by simpa using h4
  obtain ⟨it, hi4, hz, hs, hbb⟩ := info_parts info4
  go_enter Try.func26, Try.ntmps26
  go_wp2_with (at_make; refine wpList_make_row _ rfl (.tmp 40) (.tmp 40) 82 rfl 4 it (.bool false) Try.underlying82 hi4 hz hs rfl .i64 .i64 I rfl rfl (by rw [hbb]; omega) (by omega) ?_)
  have HB0 : Hid (Below w.heap.size w (w.alloc (.cells (madeCells #[.bool false] I) 4))) := (Below.refl _ _).alloc (Nat.le_refl _) _
  have HK0 : Hid (Blk (w.alloc (.cells (madeCells #[.bool false] I) 4)) w.heap.size 4 I (fun _ => .bool false)) := Blk.made w _ _ _
  generalize w.alloc (.cells (madeCells #[.bool false] I) 4) = w1 at *
  go_loopw [15] (fun v wr => ∃ j : Nat, j ≤ M ∧ v = .int .i64 j ∧ Blk wr w.heap.size 4 I (fun x => .bool (decide (∃ k, k < j ∧ mi k = (x : Int)))) ∧ Below w.heap.size w wr ∧ (∀ k, k < j → 0 ≤ mi k ∧ mi k < I) ∧ ∀ k l, k < l → l < j → mi k ≠ mi l) (fun v _ => M - (intOf v).toNat)
  case atStart => exact ⟨0, by omega, rfl, HK0.out.congr (fun i _ => by simp), HB0.out, fun k hk => by omega, fun k l h1 h2 => by omega⟩
  case round =>
    obtain ⟨j, hj, rfl, bk, bl, r0, rd⟩ := hrel
    have BK : Hid (Blk wr w.heap.size 4 I (fun x => .bool (decide (∃ k, k < j ∧ mi k = (x : Int))))) := bk
    have BL : Hid (Below w.heap.size w wr) := bl
    have RR : Hid ((∀ k, k < j → 0 ≤ mi k ∧ mi k < I) ∧ ∀ k l, k < l → l < j → mi k ≠ mi l) := ⟨r0, rd⟩
    clear bk bl r0 rd HK0 HB0
    by_cases hjM : j < M
    · obtain ⟨b, o, rfl, hc⟩ := HM.out.at hjM
      have hcj := below_cell BL.out (hc j hjM)
      have hr := HM.out.2 j
      have hjI : (j : Int) < (M : Int) := by omega
      clear hc
      by_cases g1 : mi j < 0
      · have g1' : decide (mi j < 0) = true := by simpa using g1
        go_wp2_with fail
        go_ret
        exact ⟨.inl rfl, BL.out⟩
      obtain ⟨x, hx⟩ : ∃ x : Nat, mi j = x := ⟨(mi j).toNat, by omega⟩
      rw [hx] at hcj hr
      have g1' : decide ((x : Int) < 0) = false := by simp
      by_cases g2 : I ≤ x
      · have g2' : decide (I ≤ x) = true := by simpa using g2
        go_wp2_with fail
        go_ret
        exact ⟨.inl rfl, BL.out⟩
      have g2' : decide (I ≤ x) = false := by simpa using g2
      have hxI : (x : Int) < (I : Int) := by omega
      have hsx := BK.out.cell (i := x) (by omega)
      have hsf := BK.out.frozen x
      by_cases g3 : ∃ k, k < j ∧ mi k = (x : Int)
      · rw [decide_eq_true g3] at hsx
        go_wp2_with fail
        go_ret
        exact ⟨.inl rfl, BL.out⟩
      · rw [decide_eq_false g3] at hsx
        have NEW : Hid (Blk (wr.setCell ⟨w.heap.size, x, none⟩ (.bool true)) w.heap.size 4 I (fun y => .bool (decide (∃ k, k < j + 1 ∧ mi k = (y : Int))))) := (BK.out.set (by omega) _).congr (fun y _ => by
          by_cases e : y = x
          · subst e; simp; exact ⟨j, by omega, hx⟩
          · simp only [e, if_false]
            congr 1
            apply decide_eq_decide.2
            constructor
            · rintro ⟨k, h1, h2⟩; exact ⟨k, by omega, h2⟩
            · rintro ⟨k, h1, h2⟩
              refine ⟨k, ?_, h2⟩
              rcases Nat.lt_or_ge k j with h | h
              · exact h
              · obtain rfl : k = j := by omega
                omega)
        have RN : Hid ((∀ k, k < j + 1 → 0 ≤ mi k ∧ mi k < I) ∧ ∀ k l, k < l → l < j + 1 → mi k ≠ mi l) := by
          refine ⟨fun k hk => ?_, fun k l h1 h2 e => ?_⟩
          · rcases Nat.lt_or_ge k j with h | h
            · exact RR.out.1 k h
            · obtain rfl : k = j := by omega
              omega
          · rcases Nat.lt_or_ge l j with h | h
            · exact RR.out.2 k l h1 h e
            · obtain rfl : l = j := by omega
              exact g3 ⟨k, h1, by omega⟩
        clear g3
        go_wp2_with fail
        go_roundw
        case rel => exact ⟨j + 1, by omega, by go_num, NEW.out, BL.out.setCell (Nat.le_refl _) _, RN.out.1, RN.out.2⟩
        case measure => simp [intOf]; omega
    · obtain rfl : j = M := by omega
      have hjI : ¬ (j : Int) < (j : Int) := by omega
      go_wp2_with fail
      go_loop [17] (fun v => ∃ i : Nat, i ≤ hl ∧ v = .int .i64 i ∧ ∀ k, k < i → -1 ≤ ho k ∧ ho k < j ∧ (0 ≤ ho k → (n : Int) < k)) (fun v => hl - (intOf v).toNat)
      case atStart => exact ⟨0, by omega, rfl, fun k hk => by omega⟩
      case round =>
        obtain ⟨i, hi, rfl, hall⟩ := hrel
        have HA : Hid (∀ k, k < i → -1 ≤ ho k ∧ ho k < j ∧ (0 ≤ ho k → (n : Int) < k)) := hall
        clear hall
        by_cases hil : i < hl
        · obtain ⟨b, o, rfl, hc⟩ := HH.out.at hil
          have hci := below_cell BL.out (hc i hil)
          have hr := HH.out.2 i
          have hiI : (i : Int) < (hl : Int) := by omega
          clear hc
          by_cases g1 : ho i < -1
          · have g1' : decide (ho i < -1) = true := by simpa using g1
            go_wp2_with fail
            go_ret
            exact ⟨.inl rfl, BL.out⟩
          have g1' : decide (ho i < -1) = false := by simpa using g1
          by_cases g2 : (j : Int) ≤ ho i
          · have g2' : decide ((j : Int) ≤ ho i) = true := by simpa using g2
            go_wp2_with fail
            go_ret
            exact ⟨.inl rfl, BL.out⟩
          have g2' : decide ((j : Int) ≤ ho i) = false := by simpa using g2
          by_cases g3 : 0 ≤ ho i
          · have g3' : decide (0 ≤ ho i) = true := by simpa using g3
            by_cases g4 : i ≤ n
            · have g4' : decide (i ≤ n) = true := by simpa using g4
              go_wp2_with fail
              go_ret
              exact ⟨.inl rfl, BL.out⟩
            · have g4' : decide (i ≤ n) = false := by simpa using g4
              have HN : Hid (∀ k, k < i + 1 → -1 ≤ ho k ∧ ho k < j ∧ (0 ≤ ho k → (n : Int) < k)) := fun k hk => by
                rcases Nat.lt_or_ge k i with h | h
                · exact HA.out k h
                · obtain rfl : k = i := by omega
                  exact ⟨by omega, by omega, fun _ => by omega⟩
              go_wp2_with fail
              go_round
              case rel => exact ⟨i + 1, by omega, by go_num, HN.out⟩
              case measure => simp [intOf]; omega
          · have g3' : decide (0 ≤ ho i) = false := by simpa using g3
            have HN : Hid (∀ k, k < i + 1 → -1 ≤ ho k ∧ ho k < j ∧ (0 ≤ ho k → (n : Int) < k)) := fun k hk => by
              rcases Nat.lt_or_ge k i with h | h
              · exact HA.out k h
              · obtain rfl : k = i := by omega
                exact ⟨by omega, by omega, fun _ => by omega⟩
            go_wp2_with fail
            go_round
            case rel => exact ⟨i + 1, by omega, by go_num, HN.out⟩
            case measure => simp [intOf]; omega
        · obtain rfl : i = hl := by omega
          have hiI : ¬ (i : Int) < (i : Int) := by omega
          go_wp2_with fail
          go_ret
          exact ⟨.inr ⟨rfl, ⟨rfl, rfl, by omega, by omega, RR.out.1, RR.out.2, fun k hk => ⟨(HA.out k hk).1, (HA.out k hk).2.1⟩, fun k hk => (HA.out k hk).2.2⟩⟩, BL.out⟩
end Go.Proofs.Qxb6613555a.Premise
