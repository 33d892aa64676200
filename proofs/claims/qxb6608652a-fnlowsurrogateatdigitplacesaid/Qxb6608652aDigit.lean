import Derived.Test.Qxb6608652aLow
import Derived.Laws.CopyOwn
namespace Go.Proofs.Qxb6608652a.Digit
open Go.ChangeShapes Go.WideShapes Go.ChangeAt Go.RowKit Qx52

theorem info5 : (Try.prog.info? 5).map (fun i => (i.zero, i.size, i.bytes)) = some (some (.int .u8 0), 1, 1) := by kernel_rfl
theorem size5 : (Try.prog.info? 5).map (·.size) = some 1 := by kernel_rfl

/-- block g holds just the cells L -/
def Holds (w : World) (g : Nat) (L : List Value) : Prop := w.heap[g]? = some (.cells L.toArray 5 (0, 0))

theorem holds_cell {w : World} {g : Nat} {L : List Value} (h : Holds w g L) (i : Nat) : w.cell? ⟨g, i, none⟩ = L[i]? := by
  unfold Holds at h; simp [World.cell?, h]
theorem holds_free {w : World} {g : Nat} {L : List Value} (h : Holds w g L) (i : Nat) : w.frozen? ⟨g, i, none⟩ = false := by
  unfold Holds at h; simp [World.frozen?, h]
theorem holds_made {w : World} {B g n : Nat} {xs : List Value} (h : w.ownsRow B 5 1 (.slice (some ⟨g, 0, none⟩) n n) n xs) : ∃ L, Holds w g L ∧ L.length = n := by
  rcases h.2 with ⟨h, _⟩ | ⟨g', cap, cur, hv, _, hg, _, _, hs, _⟩
  · cases h
  · simp only [Value.slice.injEq, Option.some.injEq, Addr.mk.injEq] at hv
    obtain ⟨⟨rfl, _⟩, _, rfl⟩ := hv
    exact ⟨cur.toList, by simpa [Holds] using hg, by simpa using hs⟩
theorem holds_lt {w : World} {g : Nat} {L : List Value} (h : Holds w g L) : g < w.heap.size := (Array.getElem?_eq_some_iff.1 h).1
theorem holds_below {w w' : World} {B g : Nat} {L : List Value} (h : Holds w g L) (hb : Below B w w') (hg : g < B) : Holds w' g L := (hb.block g hg).trans h

theorem cell_other (w : World) (g a i : Nat) (v : Value) (h : ¬ i = a) : (w.setCell ⟨g, a, none⟩ v).cell? ⟨g, i, none⟩ = w.cell? ⟨g, i, none⟩ :=
  World.cell?_setCell_other _ _ _ _ (by intro e; injection e with _ e2; exact h e2.symm)

/-- 'copy(zzc, text)': zzc as long as text, of the call's own -/
theorem copy_run {w1 : World} {g n b off c : Nat} {L X : List Value} (hL : Holds w1 g L) (hl : L.length = n) (hX : X.length = n) (h1 : ∀ v ∈ X, v.oneCell' = true)
    (hsrc : ∀ j v, X[j]? = some v → w1.cell? ⟨b, off + j, none⟩ = some v) {B : Nat} {w0 : World} (hb : Below B w0 w1) (hBg : B ≤ g) :
    ∃ w2, (Builtin.copy_ #[22, 22] 3 #[.slice (some ⟨g, 0, none⟩) n n, .slice (some ⟨b, off, none⟩) n c]).run Try.prog w1 = .ok (goInt n) w2 ∧ Holds w2 g X ∧ Below B w0 w2 ∧ w1.heap.size = w2.heap.size := by
  have hrun := run_copy_row (P := Try.prog) w1 22 22 3 5 g 0 n n ⟨b, off, none⟩ n c L.toArray 5 X Try.underlying22 size5 hL (by simp [hX]) (fun j v hv => by have h := hsrc j v hv; rw [show (⟨b, off, none⟩ : Addr).add j = ⟨b, off + j, none⟩ from add_plain ..]; exact h) (by simp [hX, hl]) h1
  have e : L.drop X.length = [] := List.drop_eq_nil_of_le (by omega)
  refine ⟨_, by rw [hrun, hX], ?_, below_setRow hb hBg _, by simp [World.setRow]⟩
  unfold Holds at hL ⊢
  rw [setRow_heap w1 g L.toArray _ 5 _ hL]
  simp [← hX, e]

set_option maxHeartbeats 1000000 in
theorem main (zs : List Int) (b off n c : Nat) (k d : Int) (w : World) (hn : 6 ≤ n) (hn2 : n ≤ 1048576) (hnc : n ≤ c) (hcm : c ≤ maxLen) (hzl : zs.length = c)
    (hz : ∀ i, 0 ≤ zs.getD i 0 ∧ zs.getD i 0 ≤ 255) (hd0 : 0 ≤ d) (hd1 : d ≤ 255) (hk0 : 0 ≤ k) (hk3 : k ≤ 3)
    (hc : ∀ i, i < zs.length → w.cell? ⟨b, off + i, none⟩ = some (.int .u8 (zs.getD i 0))) (e0 : zs.getD 0 0 = 92) (e1 : zs.getD 1 0 = 117) :
    Calls Try.prog 6 #[.slice (some ⟨b, off, none⟩) n c, .int .i64 k, .int .u8 d] w fun e w' => e = .returned (.bool true) ∧ Below w.heap.size w w' := by
  unfold maxLen at hcm
  have hcs : Hid (∀ i, i < zs.length → w.cell? ⟨b, off + i, none⟩ = some (.int .u8 (zs.getD i 0))) := hc
  have h0 : w.cell? ⟨b, off, none⟩ = some (.int .u8 92) := by rw [← e0]; exact hc 0 (by omega)
  have h1 : w.cell? ⟨b, off + 1, none⟩ = some (.int .u8 117) := by rw [← e1]; exact hc 1 (by omega)
  have hb : decide ((n : Int) < 6) = false := by simp; omega
  have h6 : (6 : Int) ≤ (n : Int) := by omega
  have hk' : decide (k < 0) = false := by simp; omega
  have hk3b : decide (3 < k) = false := by simp; omega
  have hn20 : decide (1048576 < (n : Int)) = false := by simp; omega
  have hne := fun w => run_neq_slice_nil_any (P := Try.prog) w 22 5 (some ⟨b, off, none⟩) n c 0 0 Try.underlying22
  obtain ⟨i0, hi, hz0, hz1, hz2⟩ := info_parts info5
  have E0 : Hid (zs.getD 0 0 = 92) := e0
  have E1 : Hid (zs.getD 1 0 = 117) := e1
  clear hc e0 e1
  go_enter Try.func6, Try.ntmps6
  obtain ⟨X, hX⟩ : ∃ X, X = (zs.take n).map (Value.int .u8) := ⟨_, rfl⟩
  have HX : Hid (X = (zs.take n).map (Value.int .u8)) := hX
  have HXl : Hid (X.length = n) := by show X.length = n; rw [hX]; simp; omega
  clear hX
  have HX1 : Hid (∀ v ∈ X, v.oneCell' = true) := by
    show ∀ v ∈ X, v.oneCell' = true
    intro v hv; rw [HX.out] at hv; obtain ⟨a, _, rfl⟩ := List.mem_map.1 hv; rfl
  have HXj : Hid (∀ j, j < n → X[j]? = some (.int .u8 (zs.getD j 0))) := by
    show ∀ j, j < n → X[j]? = some (.int .u8 (zs.getD j 0))
    intro j hj; rw [HX.out]; simp [hj, show j < zs.length from by omega]
  have hbs : b < w.heap.size := World.block_lt_of_cell? w _ h0
  go_wp2_with (first | (at_make; refine wpList_make_full _ rfl (.tmp 49) (.tmp 49) 22 rfl w.heap.size 5 i0 (.int .u8 0) 1 Try.underlying22 hi hz0 hz1 .i64 .i64 _ _ n rfl rfl rfl rfl (by rw [hz2]; omega) (by unfold maxLen; omega) (Nat.le_refl _) ?_; intro w1 hown1 hg1) | (at_builtin; fail) | go_in)
  obtain ⟨L1, hL1, hl1⟩ := holds_made hown1
  have hb1 : Below w.heap.size w w1 := (Below.refl _ _).grown hg1 (Nat.le_refl _) (by intro k hk; cases hk)
  obtain ⟨w2, hrun, hH2, hb2, hs2⟩ := copy_run (b := b) (off := off) (c := c) hL1 hl1 HXl.out HX1.out (fun j v hv => by
    have hj : j < n := by have := (List.getElem?_eq_some_iff.1 hv).1; rw [HXl.out] at this; exact this
    rw [HXj.out j hj] at hv; rw [← hv]; exact (hb1.cell (p := ⟨b, off + j, none⟩) hbs).trans (hcs.out j (by omega))) hb1 (Nat.le_refl _)
  have hgs : w.heap.size < w2.heap.size := holds_lt hH2
  have HH2 : Hid (Holds w2 w.heap.size X) := hH2
  clear hown1 hg1 hL1 hl1 hb1 hs2 hH2
  rw [hrun]
  go_simp
  clear hrun
  go_wp2_with fail
  go_loop [8] (fun v => ∃ j : Nat, 2 ≤ j ∧ j ≤ 6 ∧ v = .int .i64 j ∧ ∀ i, 2 ≤ i → i < j → 0 ≤ hexv (zs.getD i 0)) (fun v => 6 - (intOf v).toNat)
  case atStart => exact ⟨2, by omega, by omega, rfl, fun i h1 h2 => by omega⟩
  case round =>
    obtain ⟨j, hj2, hj6, rfl, hdig⟩ := hrel
    by_cases hlt : j < 6
    · have hcell : w2.cell? ⟨w.heap.size, j, none⟩ = some (.int .u8 (zs.getD j 0)) := by rw [holds_cell HH2.out]; exact HXj.out j (by omega)
      have hzj := hz j
      obtain ⟨y, hy⟩ : ∃ y, y = zs.getD j 0 := ⟨_, rfl⟩
      rw [← hy] at hcell hzj
      have HY : Hid (y = zs.getD j 0) := hy
      have HD : Hid (∀ i, 2 ≤ i → i < j → 0 ≤ hexv (zs.getD i 0)) := hdig
      clear hy hdig hz
      obtain ⟨hz1, hz2⟩ := hzj
      by_cases hneg : hexv y < 0
      · go_wp2_with fail
        refine (Leaf.hexdigit_any _ _ hz1 hz2).mono ?_
        rintro e w' ⟨rfl, rfl⟩
        go_wp2
        go_ret
        exact ⟨rfl, hb2⟩
      · go_wp2_with fail
        refine (Leaf.hexdigit_any _ _ hz1 hz2).mono ?_
        rintro e w' ⟨rfl, rfl⟩
        go_wp2
        go_round
        case rel => exact ⟨j + 1, by omega, by omega, by go_num, fun i h1 h2 => by
          by_cases e : i = j
          · subst e; rw [← HY.out]; omega
          · exact HD.out i h1 (by omega)⟩
        case measure => simp [intOf]; omega
    · obtain rfl : j = 6 := by omega
      have HD : Hid (∀ i, 2 ≤ i → i < 6 → 0 ≤ hexv (zs.getD i 0)) := hdig
      clear hdig
      have HZ : Hid (∀ i, 0 ≤ zs.getD i 0 ∧ zs.getD i 0 ≤ 255) := hz
      clear hz
      have HK : Hid (okN (fun i => zs.getD (i + 2) 0) 4) := fun i hi => HD.out (i + 2) (by omega) (by omega)
      obtain ⟨u1, hu1⟩ : ∃ u1, u1 = val (fun i => zs.getD (i + 2) 0) 4 := ⟨_, rfl⟩
      have HL : Hid (lsa (fun i => zs.getD i 0) = (u1, isLow u1)) := by rw [hu1]; exact lsa_yes (fun i => zs.getD i 0) E0.out E1.out HK.out
      have HU : Hid (u1 = val (fun i => zs.getD (i + 2) 0) 4) := hu1
      have hub : 0 ≤ u1 ∧ u1 < 65536 := by have := val_bd _ 4 HK.out; rw [hu1]; simpa using this
      clear hu1
      have C1 := Low.zlow_long (fun i => zs.getD i 0) w.heap.size 0 n n w2 (by omega) (by omega) (fun i hi => HZ.out i) (fun i hi => by rw [Nat.zero_add, holds_cell HH2.out]; exact HXj.out i (by omega)) (by unfold maxLen; omega)
      rw [HL.out] at C1
      have HC1 : Hid (Calls Try.prog 13 #[.slice (some ⟨w.heap.size, 0, none⟩) n n] w2 fun e w' => e = .returned (.tuple #[.int .i32 u1, .bool (isLow u1)]) ∧ w' = w2) := C1
      clear C1
      obtain ⟨K, rfl⟩ := Int.eq_ofNat_of_zero_le hk0
      go_wp2_with fail
      refine HC1.out.mono ?_
      rintro e w' ⟨rfl, rfl⟩
      go_wp2_with (at_make; refine wpList_make_full _ rfl (.tmp 71) (.tmp 71) 22 rfl w'.heap.size 5 i0 (.int .u8 0) 1 Try.underlying22 hi hz0 hz1 .i64 .i64 _ _ n rfl rfl rfl rfl (by rw [hz2]; omega) (by unfold maxLen; omega) (Nat.le_refl _) ?_; intro w3 hown3 hg3)
      obtain ⟨L3, hL3, hl3⟩ := holds_made hown3
      have hb3 : Below w'.heap.size w' w3 := (Below.refl _ _).grown hg3 (Nat.le_refl _) (by intro k hk; cases hk)
      obtain ⟨w4, hrun4, hH4, hb4, hs4⟩ := copy_run (b := w.heap.size) (off := 0) (c := n) hL3 hl3 HXl.out HX1.out (fun j v hv => by
        rw [Nat.zero_add, holds_cell (holds_below HH2.out hb3 hgs)]; exact hv) hb3 (Nat.le_refl _)
      have hgs4 : w'.heap.size < w4.heap.size := holds_lt hH4
      have HH4 : Hid (Holds w4 w'.heap.size X) := hH4
      have HB4 : Hid (Below w'.heap.size w' w4) := hb4
      clear hown3 hg3 hL3 hl3 hb3 hs4 hH4 hb4
      rw [hrun4]
      go_simp
      clear hrun4
      have hcl : w4.cell? ⟨w'.heap.size, 2 + K, none⟩ = some (.int .u8 (zs.getD (2 + K) 0)) := by rw [holds_cell HH4.out]; exact HXj.out (2 + K) (by omega)
      have hfr : w4.frozen? ⟨w'.heap.size, 2 + K, none⟩ = false := holds_free HH4.out _
      have hi1 : (2 : Int) + (K : Int) < (n : Int) := by omega
      have htn : ((2 : Int) + (K : Int)).toNat = 2 + K := by omega
      have hcell5 : Hid (∀ i, i < 6 → (w4.setCell ⟨w'.heap.size, 2 + K, none⟩ (.int .u8 d)).cell? ⟨w'.heap.size, 0 + i, none⟩ = some (.int .u8 (put (fun i => zs.getD i 0) K d i))) := by
        intro i hi
        rw [Nat.zero_add]
        unfold put
        by_cases e : i = 2 + K
        · subst e; rw [if_pos rfl]; exact World.cell?_setCell_same _ _ _ hcl
        · rw [if_neg e]; exact (cell_other w4 _ _ i _ e).trans ((holds_cell HH4.out i).trans (HXj.out i (by omega)))
      have hb5 : Hid (Below w.heap.size w (w4.setCell ⟨w'.heap.size, 2 + K, none⟩ (.int .u8 d))) := hb2.trans ((HB4.out.mono (by omega)).setCell (by simp; omega) _)
      go_wp2_with fail
      clear hcl hfr
      generalize w4.setCell ⟨w'.heap.size, 2 + K, none⟩ (.int .u8 d) = w5 at *
      have C2 := Low.zlow_long (put (fun i => zs.getD i 0) K d) w'.heap.size 0 n n w5 (by omega) (by omega) (fun i hi => by unfold put; split; exact ⟨hd0, hd1⟩; exact HZ.out i) hcell5.out (by unfold maxLen; omega)
      by_cases hneg : hexv d < 0
      · rw [lsa_no _ K (by omega) (by unfold put; rw [if_pos (by omega)]; exact hneg)] at C2
        refine C2.mono ?_
        rintro e w6 ⟨rfl, rfl⟩
        clear C2
        go_wp2_with fail
        refine (Leaf.islow_any _ _).mono ?_
        rintro e w7 ⟨rfl, rfl⟩
        go_wp2_with fail
        refine (Leaf.hexdigit_any _ _ hd0 hd1).mono ?_
        rintro e w8 ⟨rfl, rfl⟩
        go_wp2
        go_ret
        exact ⟨rfl, hb5.out⟩
      · obtain ⟨u2, hu2⟩ : ∃ u2, u2 = val (fun i => put (fun i => zs.getD i 0) K d (i + 2)) 4 := ⟨_, rfl⟩
        rw [lsa_yes _ (by unfold put; rw [if_neg (by omega)]; exact E0.out) (by unfold put; rw [if_neg (by omega)]; exact E1.out) (put_ok _ K d HK.out (by omega)), ← hu2] at C2
        have hv := put_val (fun i => zs.getD i 0) K d (by omega) HK.out (by omega)
        rw [← hu2, ← HU.out] at hv
        have HV : Hid (u2 = ((u1.toNat / 2 ^ (12 - 4 * K + 4) * 2 ^ (12 - 4 * K + 4) + (hexv d).toNat * 2 ^ (12 - 4 * K) + u1.toNat % 2 ^ (12 - 4 * K) : Nat) : Int)) := hv
        clear hv hu2
        have hvd := (hexv_lo d).2
        obtain rfl | rfl | rfl | rfl : K = 0 ∨ K = 1 ∨ K = 2 ∨ K = 3 := by omega
        · have hu2 : u2 = bits .or .i32 (bits .andNot .i32 u1 61440) (hexv d * 4096) := HV.out.trans (BitsP.want u1 (hexv d) 61440 (hexv d * 4096) 12 (by omega) hub (by omega) (by decide) (by omega))
          subst hu2
          clear HV
          refine C2.mono ?_
          rintro e w6 ⟨rfl, rfl⟩
          clear C2
          go_wp2_with fail
          refine (Leaf.islow_any _ _).mono ?_
          rintro e w7 ⟨rfl, rfl⟩
          go_wp2_with fail
          refine (Leaf.hexdigit_any _ _ hd0 hd1).mono ?_
          rintro e w8 ⟨rfl, rfl⟩
          go_wp2_with fail
          refine (Leaf.islow_any _ _).mono ?_
          rintro e w9 ⟨rfl, rfl⟩
          go_wp2
          go_ret
          exact ⟨by simp, hb5.out⟩
        · have hu2 : u2 = bits .or .i32 (bits .andNot .i32 u1 3840) (hexv d * 256) := HV.out.trans (BitsP.want u1 (hexv d) 3840 (hexv d * 256) 8 (by omega) hub (by omega) (by decide) (by omega))
          subst hu2
          clear HV
          refine C2.mono ?_
          rintro e w6 ⟨rfl, rfl⟩
          clear C2
          go_wp2_with fail
          refine (Leaf.islow_any _ _).mono ?_
          rintro e w7 ⟨rfl, rfl⟩
          go_wp2_with fail
          refine (Leaf.hexdigit_any _ _ hd0 hd1).mono ?_
          rintro e w8 ⟨rfl, rfl⟩
          go_wp2_with fail
          refine (Leaf.islow_any _ _).mono ?_
          rintro e w9 ⟨rfl, rfl⟩
          go_wp2
          go_ret
          exact ⟨by simp, hb5.out⟩
        · have hu2 : u2 = bits .or .i32 (bits .andNot .i32 u1 240) (hexv d * 16) := HV.out.trans (BitsP.want u1 (hexv d) 240 (hexv d * 16) 4 (by omega) hub (by omega) (by decide) (by omega))
          subst hu2
          clear HV
          refine C2.mono ?_
          rintro e w6 ⟨rfl, rfl⟩
          clear C2
          go_wp2_with fail
          refine (Leaf.islow_any _ _).mono ?_
          rintro e w7 ⟨rfl, rfl⟩
          go_wp2_with fail
          refine (Leaf.hexdigit_any _ _ hd0 hd1).mono ?_
          rintro e w8 ⟨rfl, rfl⟩
          go_wp2_with fail
          refine (Leaf.islow_any _ _).mono ?_
          rintro e w9 ⟨rfl, rfl⟩
          go_wp2
          go_ret
          exact ⟨by simp, hb5.out⟩
        · have hu2 : u2 = bits .or .i32 (bits .andNot .i32 u1 15) (hexv d) := HV.out.trans (BitsP.want u1 (hexv d) 15 (hexv d) 0 (by omega) hub (by omega) (by decide) (by omega))
          subst hu2
          clear HV
          refine C2.mono ?_
          rintro e w6 ⟨rfl, rfl⟩
          clear C2
          go_wp2_with fail
          refine (Leaf.islow_any _ _).mono ?_
          rintro e w7 ⟨rfl, rfl⟩
          go_wp2_with fail
          refine (Leaf.hexdigit_any _ _ hd0 hd1).mono ?_
          rintro e w8 ⟨rfl, rfl⟩
          go_wp2_with fail
          refine (Leaf.islow_any _ _).mono ?_
          rintro e w9 ⟨rfl, rfl⟩
          go_wp2
          go_ret
          exact ⟨by simp, hb5.out⟩

set_option maxHeartbeats 1000000 in
theorem long (a : Option Addr) (n c : Nat) (k d : Int) (w : World) (hn : 1048576 < n) :
    Calls Try.prog 6 #[.slice a n c, .int .i64 k, .int .u8 d] w fun e w' => e = .returned (.bool true) ∧ Below w.heap.size w w' := by
  have h : (1048576 : Int) < (n : Int) := by omega
  go_enter Try.func6, Try.ntmps6
  go_wp2
  go_ret
  exact ⟨rfl, Below.refl _ _⟩

set_option maxHeartbeats 1000000 in
theorem place (a : Option Addr) (n c : Nat) (k d : Int) (w : World) (hn : n ≤ 1048576) (hk : k < 0 ∨ 3 < k) :
    Calls Try.prog 6 #[.slice a n c, .int .i64 k, .int .u8 d] w fun e w' => e = .returned (.bool true) ∧ Below w.heap.size w w' := by
  have h : ¬ (1048576 : Int) < (n : Int) := by omega
  rcases hk with hk | hk
  · have hb : decide (k < 0) = true := by simpa using hk
    go_enter Try.func6, Try.ntmps6
    go_wp2
    go_ret
    exact ⟨rfl, Below.refl _ _⟩
  · have hb : decide (k < 0) = false := by simp; omega
    go_enter Try.func6, Try.ntmps6
    go_wp2
    go_ret
    exact ⟨rfl, Below.refl _ _⟩

set_option maxHeartbeats 1000000 in
theorem short (a : Option Addr) (n c : Nat) (k d : Int) (w : World) (hn : n < 6) (hk0 : 0 ≤ k) (hk3 : k ≤ 3) :
    Calls Try.prog 6 #[.slice a n c, .int .i64 k, .int .u8 d] w fun e w' => e = .returned (.bool true) ∧ Below w.heap.size w w' := by
  have h : ¬ (1048576 : Int) < (n : Int) := by omega
  have hb : decide (k < 0) = false := by simp; omega
  have hl : decide ((n : Int) < 6) = true := by simp; omega
  go_enter Try.func6, Try.ntmps6
  go_wp2
  go_ret
  exact ⟨rfl, Below.refl _ _⟩

set_option maxHeartbeats 1000000 in
theorem other (b off n c : Nat) (k d z0 z1 : Int) (w : World) (hn : 6 ≤ n) (hn2 : n ≤ 1048576) (hk0 : 0 ≤ k) (hk3 : k ≤ 3)
    (h0 : w.cell? ⟨b, off, none⟩ = some (.int .u8 z0)) (h1 : w.cell? ⟨b, off + 1, none⟩ = some (.int .u8 z1)) (hz : z0 ≠ 92 ∨ (z0 = 92 ∧ z1 ≠ 117)) :
    Calls Try.prog 6 #[.slice (some ⟨b, off, none⟩) n c, .int .i64 k, .int .u8 d] w fun e w' => e = .returned (.bool true) ∧ Below w.heap.size w w' := by
  have h : ¬ (1048576 : Int) < (n : Int) := by omega
  have h6 : (6 : Int) ≤ (n : Int) := by omega
  have hb : decide (k < 0) = false := by simp; omega
  have hl : decide ((n : Int) < 6) = false := by simp; omega
  rcases hz with hz | ⟨rfl, hz⟩
  · have hq : (z0 != 92) = true := by simpa using hz
    clear hz
    go_enter Try.func6, Try.ntmps6
    go_wp2
    go_ret
    exact ⟨rfl, Below.refl _ _⟩
  · have hq : (z1 != 117) = true := by simpa using hz
    clear hz
    go_enter Try.func6, Try.ntmps6
    go_wp2
    go_ret
    exact ⟨rfl, Below.refl _ _⟩
end Go.Proofs.Qxb6608652a.Digit
