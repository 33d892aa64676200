import Derived.Test.Qxb6608652aExpect
import Derived.Test.Qxb6608652aMem
import Derived.Deep.RegionLaw
import Derived.Deep.DeepCutAuto
import Derived.Deep.DeepMust
namespace Go.Proofs.Qxb6608652a.Spelled
open Go.ChangeShapes Go.WideShapes Go.ChangeAt Go.RowKit Qx52 Mem

theorem two_cells (w : World) (x y : Value) (n : Nat) : ∀ j u, [x, y][j]? = some u → ((w.alloc (.cells #[x, y] n)).drew).cell? ((⟨w.heap.size, 0, none⟩ : Addr).add j) = some u := by
  intro j u hj
  match j, hj with
  | 0, hj => simp at hj; subst hj; simp [Addr.add]
  | 1, hj => simp at hj; subst hj; simp [Addr.add]
theorem one_cell (w : World) (x : Value) (n : Nat) : ∀ j u, [x][j]? = some u → (w.alloc (.cells #[x] n)).cell? ((⟨w.heap.size, 0, none⟩ : Addr).add j) = some u := by
  intro j u hj
  match j, hj with
  | 0, hj => simp at hj; subst hj; simp [Addr.add]
theorem one_one (x : Int) : ∀ u ∈ [Value.int .u8 x], u.oneCell' = true := by
  intro u hu; simp at hu; subst hu; rfl
theorem two_one (x y : Int) : ∀ u ∈ [Value.int .u8 x, .int .u8 y], u.oneCell' = true := by
  intro u hu; simp at hu; rcases hu with rfl | rfl <;> rfl

set_option maxRecDepth 100000 in
set_option maxHeartbeats 1000000 in
theorem main (zs : List Int) (b off n c : Nat) (ta : Option Addr) (m mc : Nat) (T : List Value) (w : World) (hn : 6 ≤ n) (hn2 : n + m ≤ 1048576) (hnc : n ≤ c) (hcm : c ≤ maxLen) (hzl : zs.length = c)
    (hz : ∀ i, 0 ≤ zs.getD i 0 ∧ zs.getD i 0 ≤ 255)
    (hc : ∀ i, i < zs.length → w.cell? ⟨b, off + i, none⟩ = some (.int .u8 (zs.getD i 0)))
    (hTl : T.length = m) (hT0 : ta = none → m = 0 ∧ mc = 0) (hT1 : ∀ v ∈ T, v.oneCell' = true) (hT : ∀ ad, ta = some ad → ∀ j u, T[j]? = some u → w.cell? (ad.add j) = some u) :
    Calls Try.prog 5 #[.slice (some ⟨b, off, none⟩) n c, .slice ta m mc] w fun e w' => e = .returned (.bool true) ∧ Below w.heap.size w w' := by
  unfold maxLen at hcm
  have hcs : Hid (∀ i, i < zs.length → w.cell? ⟨b, off + i, none⟩ = some (.int .u8 (zs.getD i 0))) := hc
  have hbs : b < w.heap.size := World.block_lt_of_cell? w _ (hc 0 (by omega))
  have hb : decide ((n : Int) < 6) = false := by simp; omega
  have h6 : (6 : Int) ≤ (n : Int) := by omega
  have hn20 : decide (1048576 < (n : Int)) = false := by simp; omega
  have hm20 : decide (1048576 < (m : Int)) = false := by simp; omega
  have hnm20 : decide (1048576 < (n : Int) + (m : Int)) = false := by simp; omega
  have hne := fun w => run_neq_slice_nil_any (P := Try.prog) w 22 5 (some ⟨b, off, none⟩) n c 0 0 Try.underlying22
  obtain ⟨i0, hi, hz0, hz1, hz2⟩ := info_parts info5
  have HZ : Hid (∀ i, 0 ≤ zs.getD i 0 ∧ zs.getD i 0 ≤ 255) := hz
  have HT0 : Hid (ta = none → m = 0 ∧ mc = 0) := hT0
  have HT1 : Hid (∀ v ∈ T, v.oneCell' = true) := hT1
  have HT : Hid (∀ ad, ta = some ad → ∀ j u, T[j]? = some u → w.cell? (ad.add j) = some u) := hT
  have HTl : Hid (T.length = m) := hTl
  clear hc hz hT0 hT1 hT hTl
  obtain ⟨X, hX⟩ : ∃ X, X = (zs.take n).map (Value.int .u8) := ⟨_, rfl⟩
  have HXl : Hid (X.length = n) := by show X.length = n; rw [hX]; simp; omega
  have HX1 : Hid (∀ v ∈ X, v.oneCell' = true) := by
    show ∀ v ∈ X, v.oneCell' = true
    intro v hv; rw [hX] at hv; obtain ⟨a, _, rfl⟩ := List.mem_map.1 hv; rfl
  have HXj : Hid (∀ j, j < n → X[j]? = some (.int .u8 (zs.getD j 0))) := by
    show ∀ j, j < n → X[j]? = some (.int .u8 (zs.getD j 0))
    intro j hj; rw [hX]; simp [hj, show j < zs.length from by omega]
  clear hX
  go_enter Try.func5, Try.ntmps5
  go_wp2_with (first | (at_make; refine wpList_make_full _ rfl (.tmp 27) (.tmp 27) 22 rfl w.heap.size 5 i0 (.int .u8 0) 1 Try.underlying22 hi hz0 hz1 .i64 .i64 _ _ n rfl rfl rfl rfl (by rw [hz2]; omega) (by unfold maxLen; omega) (Nat.le_refl _) ?_; intro w1 hown1 hg1) | (at_builtin; fail) | go_in)
  obtain ⟨L1, hL1, hl1⟩ := holds_made hown1
  have hb1 : Below w.heap.size w w1 := (Below.refl _ _).grown hg1 (Nat.le_refl _) (by intro k hk; cases hk)
  obtain ⟨w2, hrun, hH2, hb2, hs2⟩ := copy_run (ad := ⟨b, off, none⟩) (c := c) hL1 hl1 HXl.out HX1.out (fun j v hv => by
    have hj : j < n := by have := (List.getElem?_eq_some_iff.1 hv).1; rw [HXl.out] at this; exact this
    rw [HXj.out j hj] at hv; rw [← hv, show (⟨b, off, none⟩ : Addr).add j = ⟨b, off + j, none⟩ from add_plain ..]; exact (hb1.cell (p := ⟨b, off + j, none⟩) hbs).trans (hcs.out j (by omega))) hb1 (Nat.le_refl _)
  have hgs : w.heap.size < w2.heap.size := holds_lt hH2
  have HH2 : Hid (Holds w2 w.heap.size X) := hH2
  have HB2 : Hid (Below w.heap.size w w2) := hb2
  clear hown1 hg1 hL1 hl1 hb1 hs2 hH2 hb2
  rw [hrun]
  go_simp
  clear hrun
  have C1 := Low.zlow_long (fun i => zs.getD i 0) w.heap.size 0 n n w2 (by omega) (by omega) (fun i hi => HZ.out i) (fun i hi => by rw [Nat.zero_add, holds_cell HH2.out]; exact HXj.out i (by omega)) (by unfold maxLen; omega)
  have C2 := Expect.expect_long (fun i => zs.getD i 0) w.heap.size 0 n n w2 (by omega) (by omega) (fun i hi => HZ.out i) (fun i hi => by rw [Nat.zero_add, holds_cell HH2.out]; exact HXj.out i (by omega)) (by unfold maxLen; omega)
  obtain ⟨r, hr⟩ : ∃ r, r = lsa (fun i => zs.getD i 0) := ⟨_, rfl⟩
  rw [← hr] at C1 C2
  have HR : Hid (lsa (fun i => zs.getD i 0) = r) := hr.symm
  clear hr
  obtain ⟨u, ok⟩ := r
  have HC1 : Hid (Calls Try.prog 13 #[.slice (some ⟨w.heap.size, 0, none⟩) n n] w2 fun e w' => e = .returned (.tuple #[.int .i32 u, .bool ok]) ∧ w' = w2) := C1
  have HC2 : Hid (Calls Try.prog 14 #[.slice (some ⟨w.heap.size, 0, none⟩) n n] w2 fun e w' => e = .returned (.tuple #[.int .i32 u, .bool ok]) ∧ w' = w2) := C2
  clear C1 C2
  go_wp2_with fail
  refine HC1.out.mono ?_
  rintro e w' ⟨rfl, rfl⟩
  go_wp2_with fail
  refine HC2.out.mono ?_
  rintro e w'' ⟨rfl, rfl⟩
  clear HC1 HC2
  go_wp2_with (first | (at_make; refine wpList_make_own _ rfl (.const (.int .i64 0)) (.tmp 56) 22 rfl w''.heap.size 5 i0 (.int .u8 0) 1 Try.underlying22 hi hz0 hz1 .i64 .i64 _ (6 + m) rfl rfl (by omega) (by rw [hz2]; omega) (by unfold maxLen; omega) (Nat.le_refl _) ?_; intro w3 hown3 hg3))
  have HB3 : Hid (Below w''.heap.size w'' w3) := (Below.refl _ _).grown hg3 (Nat.le_refl _) (by intro k hk; cases hk)
  have hc0 : w3.cell? ⟨w.heap.size, 0, none⟩ = some (.int .u8 (zs.getD 0 0)) := (HB3.out.cell (p := ⟨w.heap.size, 0, none⟩) hgs).trans ((holds_cell HH2.out 0).trans (HXj.out 0 (by omega)))
  have hc1 : w3.cell? ⟨w.heap.size, 1, none⟩ = some (.int .u8 (zs.getD 1 0)) := (HB3.out.cell (p := ⟨w.heap.size, 1, none⟩) hgs).trans ((holds_cell HH2.out 1).trans (HXj.out 1 (by omega)))
  have hg3s : w''.heap.size < w3.heap.size := (hown3.lt w''.heap.size rfl).2
  obtain ⟨g, hg⟩ : ∃ g, g = w''.heap.size := ⟨_, rfl⟩
  rw [← hg] at hown3 hg3s HB3 ⊢
  rw [← hg] at hgs
  have HG : Hid (g = w''.heap.size) := hg
  clear hg hg3
  have HO3 : Hid (w3.ownsRow g 5 1 (.slice (some ⟨g, 0, none⟩) 0 (6 + m)) 0 []) := hown3
  clear hown3
  generalize hy0 : zs.getD 0 0 = y0 at hc0
  generalize hy1 : zs.getD 1 0 = y1 at hc1
  have HY0 : Hid (zs.getD 0 0 = y0) := hy0
  have HY1 : Hid (zs.getD 1 0 = y1) := hy1
  clear hy0 hy1
  have hn0 : (0 : Int) < (n : Int) := by omega
  have hn0' : 0 < n := by omega
  have hn1' : 1 < n := by omega
  have hn1 : (1 : Int) < (n : Int) := by omega
  go_cut [10] (fun v wx => v = .slice (some ⟨g, 0, none⟩) 2 (6 + m) ∧ wx.ownsRow g 5 1 (.slice (some ⟨g, 0, none⟩) 2 (6 + m)) 2 [.int .u8 y0, .int .u8 y1] ∧ Below g w'' wx)
  case first =>
    go_region_law (refine step_append_fits rfl (.tmp 58) (.tmp 65) 22 rfl g 5 i0 1 Try.underlying22 hi hz1 g 0 (6 + m) [] (by simp [Act.eval]) (by exact (HO3.out.alloc _).drew) ⟨w3.heap.size, 0, none⟩ 2 2 [.int .u8 y0, .int .u8 y1] (by simp [Act.eval]) rfl (by exact two_cells _ _ _ _) (by exact two_one _ _) (by omega) ?_; intro w4 hown4 hg4; have R4 : Hid (w4.ownsRow g 5 1 (.slice (some ⟨g, 0, none⟩) 2 (6 + m)) 2 [.int .u8 y0, .int .u8 y1] ∧ Below g w'' w4) := ⟨hown4, ((HB3.out.alloc (by omega) _).drew).grown hg4 (by simp; omega) (by intro k hk; cases hk; omega)⟩; clear hown4 hg4)
    all_goals
      go_wp2_with fail
      go_meet
      exact ⟨rfl, R4.out.1, R4.out.2⟩
  case rest =>
    obtain ⟨rfl, hown5, hb5⟩ := hcut
    have H5 : Hid (wc.ownsRow g 5 1 (.slice (some ⟨g, 0, none⟩) 2 (6 + m)) 2 ((othL (fun i => zs.getD i 0) 2).map (.int .u8)) ∧ Below g w'' wc) := ⟨by
      have e : (othL (fun i => zs.getD i 0) 2).map (Value.int .u8) = [.int .u8 y0, .int .u8 y1] := by rw [← HY0.out, ← HY1.out]; rfl
      rw [e]; exact hown5, hb5⟩
    clear hown5 hb5 HO3 HB3 hc0 hc1
    go_wp2_with fail
    go_loopw [10, 11] (fun v i wr => ∃ k : Nat, 2 ≤ k ∧ k ≤ 6 ∧ i = .int .i64 k ∧ v = .slice (some ⟨g, 0, none⟩) k (6 + m) ∧ wr.ownsRow g 5 1 (.slice (some ⟨g, 0, none⟩) k (6 + m)) k ((othL (fun i => zs.getD i 0) k).map (.int .u8)) ∧ Below g w'' wr) (fun _ i _ => 6 - (intOf i).toNat)
    case atStart => exact ⟨2, by omega, by omega, rfl, rfl, H5.out.1, H5.out.2⟩
    case round =>
      obtain ⟨k, hk2, hk6, rfl, rfl, hown, hbel⟩ := hrel
      by_cases hlt : k < 6
      · have hck : wr.cell? ⟨w.heap.size, k, none⟩ = some (.int .u8 (zs.getD k 0)) := (hbel.cell (p := ⟨w.heap.size, k, none⟩) hgs).trans ((holds_cell HH2.out k).trans (HXj.out k (by omega)))
        have hzk := HZ.out k
        have hst : Hid (othL (fun i => zs.getD i 0) (k + 1) = othL (fun i => zs.getD i 0) k ++ [flipc (zs.getD k 0)]) := by
          show othL (fun i => zs.getD i 0) k ++ [oth (fun i => zs.getD i 0) k] = _
          unfold oth; rw [if_neg (by omega)]
        obtain ⟨y, hy⟩ : ∃ y, y = zs.getD k 0 := ⟨_, rfl⟩
        rw [← hy] at hck hzk hst
        clear hy
        obtain ⟨hz1', hz2'⟩ := hzk
        have hkn : k < n := by omega
        have hkn' : (k : Int) < (n : Int) := by omega
        have hgw : g < wr.heap.size := (hown.lt g rfl).2
        have HO : Hid (wr.ownsRow g 5 1 (.slice (some ⟨g, 0, none⟩) k (6 + m)) k ((othL (fun i => zs.getD i 0) k).map (.int .u8))) := hown
        have HB : Hid (Below g w'' wr) := hbel
        clear hown hbel
        go_wp2_with (first | (go_at_call 15; refine (Expect.flip_any _ _ hz1' hz2').mono ?_; rintro e wr ⟨rfl, rfl⟩) | (at_builtin; go_must (refine wpList_append_fits _ rfl (.tmp 71) (.tmp 77) 22 rfl g 5 i0 1 Try.underlying22 hi hz1 g k (6 + m) _ rfl (HO.out.alloc _) ⟨wr.heap.size, 0, none⟩ 1 1 [.int .u8 (flipc y)] rfl rfl (by exact one_cell _ _ _) (by exact one_one _) (by omega) ?_); intro w7 hown7 hg7; have R7 : Hid (w7.ownsRow g 5 1 (.slice (some ⟨g, 0, none⟩) (k + 1) (6 + m)) (k + 1) ((othL (fun i => zs.getD i 0) (k + 1)).map (.int .u8)) ∧ Below g w'' w7) := ⟨by rw [hst.out, List.map_append]; exact hown7, ((HB.out.alloc (by omega) _).grown hg7 (by simp; omega) (by intro k hk; cases hk; omega))⟩; clear hown7 hg7))
        go_roundw
        case rel => exact ⟨k + 1, by omega, by omega, by go_num, rfl, R7.out.1, R7.out.2⟩
        case measure => simp [intOf]; omega
      · obtain rfl : k = 6 := by omega
        have hTr : Hid (∀ ad, ta = some ad → ∀ j u, T[j]? = some u → wr.cell? (ad.add j) = some u) := by
          intro ad hta j u hu
          have h := HT.out ad hta j u hu
          have hlt' : (ad.add j).block < w.heap.size := World.block_lt_of_cell? w _ h
          exact (hbel.cell (p := ad.add j) (by omega)).trans ((HB2.out.cell (p := ad.add j) hlt').trans h)
        have HO : Hid (wr.ownsRow g 5 1 (.slice (some ⟨g, 0, none⟩) 6 (6 + m)) 6 ((othL (fun i => zs.getD i 0) 6).map (.int .u8))) := hown
        have HB : Hid (Below g w'' wr) := hbel
        have hgw : g ≤ wr.heap.size := Nat.le_of_lt (hown.lt g rfl).2
        have hTn : Hid (T.length = m * 1) := by show T.length = m * 1; rw [HTl.out]; omega
        clear hown hbel
        go_wp2_with (first | (at_builtin; go_must (refine wpList_append_fits_any _ rfl (.tmp 79) (.tmp 80) 22 rfl g 5 i0 1 Try.underlying22 hi hz1 g 6 (6 + m) _ rfl HO.out ta m mc T rfl hTn.out HT0.out hTr.out HT1.out (by omega) ?_); intro w8 hown8 hg8; have R8 : Hid (w8.ownsRow g 5 1 (.slice (some ⟨g, 0, none⟩) (6 + m) (6 + m)) (6 + m) ((othL (fun i => zs.getD i 0) 6).map (.int .u8) ++ T) ∧ Below w.heap.size w w8) := ⟨hown8, HB2.out.trans ((HB.out.grown hg8 hgw (by intro k hk; cases hk; omega)).mono (by omega))⟩; clear hown8 hg8))
        have C3 := Low.zlow_long (oth (fun i => zs.getD i 0)) g 0 (6 + m) (6 + m) w8 (by omega) (by omega) (fun i hi => oth_bd _ i (HZ.out i)) (fun i hi => by
          rw [Nat.zero_add, R8.out.1.cellAt i (by omega), List.getElem?_append_left (by simp [othL_len]; omega), List.getElem?_map, othL_get _ 6 i (by omega)]; rfl) (by unfold maxLen; omega)
        rw [lsa_oth, HR.out] at C3
        refine C3.mono ?_
        rintro e w9 ⟨rfl, rfl⟩
        clear C3
        go_wp2
        go_ret
        exact ⟨by simp, R8.out.2⟩

set_option maxHeartbeats 1000000 in
theorem long (a ta : Option Addr) (n c m mc : Nat) (w : World) (hcm : n ≤ maxLen) (hmm : m ≤ maxLen) (hn : 1048576 < n + m) :
    Calls Try.prog 5 #[.slice a n c, .slice ta m mc] w fun e w' => e = .returned (.bool true) ∧ Below w.heap.size w w' := by
  unfold maxLen at hcm hmm
  by_cases h1 : 1048576 < n
  · have h : (1048576 : Int) < (n : Int) := by omega
    go_enter Try.func5, Try.ntmps5
    go_wp2
    go_ret
    exact ⟨rfl, Below.refl _ _⟩
  · have h : ¬ (1048576 : Int) < (n : Int) := by omega
    by_cases h2 : 1048576 < m
    · have h' : (1048576 : Int) < (m : Int) := by omega
      go_enter Try.func5, Try.ntmps5
      go_wp2
      go_ret
      exact ⟨rfl, Below.refl _ _⟩
    · have h' : ¬ (1048576 : Int) < (m : Int) := by omega
      have h'' : (1048576 : Int) < (n : Int) + (m : Int) := by omega
      go_enter Try.func5, Try.ntmps5
      go_wp2
      go_ret
      exact ⟨rfl, Below.refl _ _⟩

set_option maxHeartbeats 1000000 in
theorem short_nil (ta : Option Addr) (m mc : Nat) (w : World) (hm : m ≤ 1048576) :
    Calls Try.prog 5 #[.slice none 0 0, .slice ta m mc] w fun e w' => e = .returned (.bool true) ∧ Below w.heap.size w w' := by
  have h' : ¬ (1048576 : Int) < (m : Int) := by omega
  have hne := fun w => run_neq_slice_nil_any (P := Try.prog) w 22 5 none 0 0 0 0 Try.underlying22
  go_enter Try.func5, Try.ntmps5
  go_wp2_with (first | (go_at_call 12; go_in) | fail)
  refine (Low.zlow_short none 0 0 _ (by omega)).mono ?_
  rintro e w1 ⟨rfl, rfl⟩
  go_wp2_with fail
  refine (Expect.expect_short none 0 0 _ (by omega)).mono ?_
  rintro e w2 ⟨rfl, rfl⟩
  go_wp2
  go_ret
  exact ⟨rfl, Below.refl _ _⟩

set_option maxHeartbeats 1000000 in
theorem short (X : List Value) (ad : Addr) (n c : Nat) (ta : Option Addr) (m mc : Nat) (w : World) (hn : n < 6) (hn2 : n + m ≤ 1048576)
    (hXl : X.length = n) (hX1 : ∀ v ∈ X, v.oneCell' = true) (hXc : ∀ j v, X[j]? = some v → w.cell? (ad.add j) = some v) :
    Calls Try.prog 5 #[.slice (some ad) n c, .slice ta m mc] w fun e w' => e = .returned (.bool true) ∧ Below w.heap.size w w' := by
  have hb : decide ((n : Int) < 6) = true := by simp; omega
  have hn20 : decide (1048576 < (n : Int)) = false := by simp; omega
  have hm20 : decide (1048576 < (m : Int)) = false := by simp; omega
  have hnm20 : decide (1048576 < (n : Int) + (m : Int)) = false := by simp; omega
  have hne := fun w => run_neq_slice_nil_any (P := Try.prog) w 22 5 (some ad) n c 0 0 Try.underlying22
  obtain ⟨i0, hi, hz0, hz1, hz2⟩ := info_parts info5
  have HXl : Hid (X.length = n) := hXl
  have HX1 : Hid (∀ v ∈ X, v.oneCell' = true) := hX1
  have HXc : Hid (∀ j v, X[j]? = some v → w.cell? (ad.add j) = some v) := hXc
  clear hXl hX1 hXc
  go_enter Try.func5, Try.ntmps5
  go_wp2_with (first | (at_make; refine wpList_make_full _ rfl (.tmp 27) (.tmp 27) 22 rfl w.heap.size 5 i0 (.int .u8 0) 1 Try.underlying22 hi hz0 hz1 .i64 .i64 _ _ n rfl rfl rfl rfl (by rw [hz2]; omega) (by unfold maxLen; omega) (Nat.le_refl _) ?_; intro w1 hown1 hg1) | (at_builtin; fail) | go_in)
  obtain ⟨L1, hL1, hl1⟩ := holds_made hown1
  have hb1 : Below w.heap.size w w1 := (Below.refl _ _).grown hg1 (Nat.le_refl _) (by intro k hk; cases hk)
  obtain ⟨w2, hrun, hH2, hb2, hs2⟩ := copy_run (ad := ad) (c := c) hL1 hl1 HXl.out HX1.out (fun j v hv => by
    have h := HXc.out j v hv
    exact (hb1.cell (p := ad.add j) (World.block_lt_of_cell? w _ h)).trans h) hb1 (Nat.le_refl _)
  have HB2 : Hid (Below w.heap.size w w2) := hb2
  clear hown1 hg1 hL1 hl1 hb1 hs2 hH2 hb2
  rw [hrun]
  go_simp
  clear hrun
  go_wp2_with fail
  refine (Low.zlow_short _ _ _ _ hn).mono ?_
  rintro e w1 ⟨rfl, rfl⟩
  go_wp2_with fail
  refine (Expect.expect_short _ _ _ _ hn).mono ?_
  rintro e w2 ⟨rfl, rfl⟩
  go_wp2
  go_ret
  exact ⟨rfl, HB2.out⟩
end Go.Proofs.Qxb6608652a.Spelled
