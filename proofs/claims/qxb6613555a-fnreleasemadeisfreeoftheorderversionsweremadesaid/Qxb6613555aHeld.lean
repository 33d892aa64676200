import Derived.Test.Qxb6613555aSort
import Derived.Deep.OwnRows
import Derived.Deep.DeepCutAuto
import Derived.Deep.CutBlock
import Derived.Deep.RegionHeld3
namespace Go.Proofs.Qxb6613555a.Held
open Go.ChangeShapes Go.WideShapes Go.ChangeAt Go.RowKit Base Merge

theorem info3 : (Try.prog.info? 3).map (fun i => (i.zero, i.size, i.bytes)) = some (some (.int .i64 0), 1, 8) := by kernel_rfl

/-- the held ones among the first i -/
def held (ho : Nat → Int) (i : Nat) : List Nat := (List.range i).filter (fun x => decide (0 ≤ ho x))
theorem held_succ (ho : Nat → Int) (i : Nat) : held ho (i + 1) = held ho i ++ if 0 ≤ ho i then [i] else [] := by
  unfold held
  rw [List.range_succ, List.filter_append]
  congr 1
  by_cases h : 0 ≤ ho i <;> simp [h]
theorem held_len (ho : Nat → Int) (i : Nat) : (held ho i).length ≤ i := by
  unfold held
  have := List.length_filter_le (fun x => decide (0 ≤ ho x)) (List.range i)
  simpa using this
theorem mem_held {ho : Nat → Int} {i x : Nat} : x ∈ held ho i ↔ x < i ∧ 0 ≤ ho x := by simp [held]
theorem held_nodup (ho : Nat → Int) (i : Nat) : (held ho i).Nodup := List.Nodup.sublist List.filter_sublist List.nodup_range
theorem held_mono (ho : Nat → Int) {i j : Nat} (h : i ≤ j) : (held ho i).length ≤ (held ho j).length := by
  induction j with
  | zero => obtain rfl : i = 0 := by omega
            exact Nat.le_refl _
  | succ j ih =>
    by_cases e : i = j + 1
    · subst e; exact Nat.le_refl _
    · have := ih (by omega)
      rw [held_succ]
      simp
      omega

/-- a row of indices in memory -/
def Idx (w : World) (g n : Nat) (f : Nat → Nat) : Prop := Blk w g 3 n (fun i => .int .i64 (f i : Int))
theorem Idx.put {w : World} {g n i v : Nat} {f : Nat → Nat} (h : Idx w g n f) (hi : i < n) : Idx (w.setCell ⟨g, i, none⟩ (.int .i64 (v : Int))) g n (put f i v) :=
  (Blk.set h hi _).congr (fun j _ => by unfold Merge.put; split <;> rfl)

/-- what zzHeldInWaitOrder leaves -/
def Post (N : Nat) (sn ho : Nat → Int) (w : World) (e : Ending) (w' : World) : Prop :=
  ∃ g f d, e = .returned (.tuple #[.slice (some ⟨g, 0, none⟩) (held ho N).length (held ho N).length, .bool d]) ∧ Idx w' g (held ho N).length f ∧ w.heap.size ≤ g ∧ Below w.heap.size w w' ∧
    (seg f 0 (held ho N).length).Perm (held ho N) ∧ (d = true → ∀ x y, x < y → y < (held ho N).length → sn (f x) < sn (f y))

set_option maxRecDepth 100000 in
set_option maxHeartbeats 8000000 in
theorem sorts (bs os bh oh N sc hc : Nat) (sn ho : Nat → Int) (w : World) (hN : N ≤ 65536) (hs : ∀ i, i < N → w.cell? ⟨bs, os + i, none⟩ = some (.int .i32 (sn i))) (hh : ∀ i, i < N → w.cell? ⟨bh, oh + i, none⟩ = some (.int .i32 (ho i)))
    (bn : ∀ i, -2147483648 ≤ sn i ∧ sn i ≤ 2147483647) (bo : ∀ i, -2147483648 ≤ ho i ∧ ho i ≤ 2147483647) :
    Calls Try.prog 27 #[.slice (some ⟨bs, os, none⟩) N sc, .slice (some ⟨bh, oh, none⟩) N hc] w (Post N sn ho w) := by
  have HS : Hid (∀ i, i < N → w.cell? ⟨bs, os + i, none⟩ = some (.int .i32 (sn i))) := hs
  have HH : Hid (∀ i, i < N → w.cell? ⟨bh, oh + i, none⟩ = some (.int .i32 (ho i))) := hh
  have BN : Hid (∀ i, -2147483648 ≤ sn i ∧ sn i ≤ 2147483647) := bn
  have BO : Hid (∀ i, -2147483648 ≤ ho i ∧ ho i ≤ 2147483647) := bo
  clear hs hh bn bo
  obtain ⟨it, hi3, hz, hs3, hbb⟩ := info_parts info3
  go_enter Try.func27, Try.ntmps27
  go_wp2_with fail
  go_loop [6, 7] (fun c v => ∃ i : Nat, i ≤ N ∧ v = .int .i64 i ∧ c = .int .i64 ((held ho i).length : Nat)) (fun _ v => N - (intOf v).toNat)
  case atStart => exact ⟨0, by omega, rfl, rfl⟩
  case round =>
    obtain ⟨i, hi, rfl, rfl⟩ := hrel
    have hle := held_len ho i
    by_cases hil : i < N
    · have hc := HH.out i hil
      have hb := BO.out i
      have hiI : (i : Int) < (N : Int) := by omega
      by_cases g : 0 ≤ ho i
      · have g' : decide (0 ≤ ho i) = true := by simpa using g
        have hn : (held ho (i + 1)).length = (held ho i).length + 1 := by rw [held_succ]; simp [g]
        go_wp2_with fail
        go_round
        case rel => exact ⟨i + 1, by omega, by go_num, by rw [hn]; go_num⟩
        case measure => simp [intOf]; omega
      · have g' : decide (0 ≤ ho i) = false := by simpa using g
        have hn : (held ho (i + 1)).length = (held ho i).length := by rw [held_succ]; simp [g]
        go_wp2_with fail
        go_round
        case rel => exact ⟨i + 1, by omega, by go_num, by rw [hn]⟩
        case measure => simp [intOf]; omega
    · obtain rfl : N = i := by omega
      have hiI : ¬ (N : Int) < (N : Int) := by omega
      obtain ⟨cnt, hcnt⟩ : ∃ c, c = (held ho N).length := ⟨_, rfl⟩
      rw [← hcnt] at hle ⊢
      have HC : Hid (cnt = (held ho N).length) := hcnt
      clear hcnt
      go_wp2_with (at_make; refine wpList_make_row _ rfl (.tmp 33) (.tmp 33) 54 rfl 3 it (.int .i64 0) Try.underlying54 hi3 hz hs3 rfl .i64 .i64 cnt rfl rfl (by rw [hbb]; omega) (by omega) ?_)
      have HK : Hid (Idx (w.alloc (.cells (madeCells #[.int .i64 0] cnt) 3)) w.heap.size cnt (fun _ => 0)) := Blk.made w _ _ _
      have HB : Hid (Below w.heap.size w (w.alloc (.cells (madeCells #[.int .i64 0] cnt) 3))) := (Below.refl _ _).alloc (Nat.le_refl _) _
      generalize w.alloc (.cells (madeCells #[.int .i64 0] cnt) 3) = w1 at *
      go_loopw [9, 10] (fun c v wr => ∃ (i : Nat) (f : Nat → Nat), i ≤ N ∧ v = .int .i64 i ∧ c = .int .i64 ((held ho i).length : Nat) ∧ Idx wr w.heap.size cnt f ∧ seg f 0 (held ho i).length = held ho i ∧ Below w.heap.size w wr) (fun _ v _ => N - (intOf v).toNat)
      case atStart => exact ⟨0, fun _ => 0, by omega, rfl, rfl, HK.out, rfl, HB.out⟩
      case round =>
        clear HK HB
        obtain ⟨i, f, hi, rfl, rfl, ik, sg, bl⟩ := hrel
        have IK : Hid (Idx wr w.heap.size cnt f) := ik
        have SG : Hid (seg f 0 (held ho i).length = held ho i) := sg
        have BL : Hid (Below w.heap.size w wr) := bl
        clear ik sg bl
        have hle := held_len ho i
        by_cases hil : i < N
        · have hc := below_cell BL.out (HH.out i hil)
          have hb := BO.out i
          have hiI : (i : Int) < (N : Int) := by omega
          by_cases g : 0 ≤ ho i
          · have g' : decide (0 ≤ ho i) = true := by simpa using g
            have hn : (held ho (i + 1)).length = (held ho i).length + 1 := by rw [held_succ]; simp [g]
            have hm := held_mono ho (i := i + 1) (j := N) hil
            rw [hn, ← HC.out] at hm
            have HN : Hid (seg (put f (held ho i).length i) 0 (held ho (i + 1)).length = held ho (i + 1)) := by
              show _ = _
              rw [hn, seg_snoc _ (Nat.zero_le _), put_at, seg_congr (fun x _ hx => put_ne f (by omega)), SG.out, held_succ, if_pos g]
            obtain ⟨k, hk⟩ : ∃ k, k = (held ho i).length := ⟨_, rfl⟩
            rw [← hk] at hm HN hn hle ⊢
            have HKE : Hid (k = (held ho i).length) := hk
            clear hk
            have hkI : (k : Int) < (cnt : Int) := by omega
            have hcell := Blk.cell IK.out (i := k) (by omega)
            have hfz := Blk.frozen IK.out k
            have NW : Hid (Idx (wr.setCell ⟨w.heap.size, k, none⟩ (.int .i64 (i : Int))) w.heap.size cnt (put f k i)) := Idx.put IK.out (by omega)
            go_wp2_with fail
            go_roundw
            case rel => exact ⟨i + 1, put f k i, by omega, by go_num, by rw [hn]; go_num, NW.out, HN.out, BL.out.setCell (Nat.le_refl _) _⟩
            case measure => simp [intOf]; omega
          · have g' : decide (0 ≤ ho i) = false := by simpa using g
            have hn : held ho (i + 1) = held ho i := by rw [held_succ]; simp [g]
            go_wp2_with fail
            go_roundw
            case rel => exact ⟨i + 1, f, by omega, by go_num, by rw [hn], IK.out, by rw [hn]; exact SG.out, BL.out⟩
            case measure => simp [intOf]; omega
        · obtain rfl : N = i := by omega
          have hiI : ¬ (N : Int) < (N : Int) := by omega
          rw [← HC.out] at SG hle ⊢
          have hsz : w.heap.size < wr.heap.size := Blk.lt IK.out
          go_wp2_with (at_make; refine wpList_make_row _ rfl (.tmp 52) (.tmp 52) 54 rfl 3 it (.int .i64 0) Try.underlying54 hi3 hz hs3 rfl .i64 .i64 cnt rfl rfl (by rw [hbb]; omega) (by omega) ?_)
          have IA0 : Hid (Idx (wr.alloc (.cells (madeCells #[.int .i64 0] cnt) 3)) w.heap.size cnt f) := Blk.alloc IK.out _
          have IB0 : Hid (Idx (wr.alloc (.cells (madeCells #[.int .i64 0] cnt) 3)) wr.heap.size cnt (fun _ => 0)) := Blk.made wr _ _ _
          have B0 : Hid (Below w.heap.size w (wr.alloc (.cells (madeCells #[.int .i64 0] cnt) 3))) := BL.out.alloc (by omega) _
          have P0 : Hid ((seg f 0 cnt).Perm (held ho N)) := by show List.Perm _ _; rw [SG.out]
          clear IK SG BL
          generalize wr.alloc (.cells (madeCells #[.int .i64 0] cnt) 3) = w2 at *
          obtain ⟨g0, hg0⟩ : ∃ g, g = wr.heap.size := ⟨_, rfl⟩
          rw [← hg0] at IB0 hsz ⊢
          clear hg0
          go_loopw [8, 11, 12] (fun va vb v wr => ∃ (ga gb W : Nat) (f h : Nat → Nat), va = .slice (some ⟨ga, 0, none⟩) cnt cnt ∧ vb = .slice (some ⟨gb, 0, none⟩) cnt cnt ∧ v = .int .i64 W ∧ 0 < W ∧ W ≤ 131072 ∧ ga ≠ gb ∧ w.heap.size ≤ ga ∧ w.heap.size ≤ gb ∧ Idx wr ga cnt f ∧ Idx wr gb cnt h ∧ (seg f 0 cnt).Perm (held ho N) ∧ Blocks sn W cnt f ∧ Below w.heap.size w wr) (fun _ _ v _ => cnt - (intOf v).toNat)
          case atStart => exact ⟨w.heap.size, g0, 1, f, fun _ => 0, rfl, rfl, rfl, by omega, by omega, by omega, Nat.le_refl _, by omega, IA0.out, IB0.out, P0.out, Blocks.one _ _ _, B0.out⟩
          case round =>
            clear IA0 IB0 B0 P0
            obtain ⟨ga, gb, W, f, h, rfl, rfl, rfl, hW0, hW1, hne, hga, hgb, ia, ib, pm, bk, bl⟩ := hrel
            have IA : Hid (Idx wr ga cnt f) := ia
            have IB : Hid (Idx wr gb cnt h) := ib
            have PM : Hid ((seg f 0 cnt).Perm (held ho N)) := pm
            have BK : Hid (Blocks sn W cnt f) := bk
            have BL : Hid (Below w.heap.size w wr) := bl
            have FN : Hid (∀ x, x < cnt → f x < N) := fun x hx => (mem_held.1 (PM.out.mem_iff.1 (mem_seg.2 ⟨x, Nat.zero_le _, hx, rfl⟩))).1
            clear ia ib pm bk bl
            by_cases hWc : W < cnt
            · have hWcI : (W : Int) < (cnt : Int) := by omega
              go_wp2_with fail
              go_loopw [13] (fun v wr => ∃ (q lo : Nat) (h : Nat → Nat), lo = 2 * W * q ∧ lo < cnt + 2 * W ∧ v = .int .i64 lo ∧ Idx wr ga cnt f ∧ Idx wr gb cnt h ∧ Pass sn W (min lo cnt) f h ∧ Below w.heap.size w wr) (fun v _ => cnt + 2 * W - (intOf v).toNat)
              case atStart => exact ⟨0, 0, h, by simp, by omega, rfl, IA.out, IB.out, by simp; exact Pass.start _ _ _ _, BL.out⟩
              case round =>
                clear IA IB BL
                obtain ⟨q, lo, h, hlo, hlb, rfl, ia, ib, ps, bl⟩ := hrel
                have HLO : Hid (lo = 2 * W * q) := hlo
                have IA : Hid (Idx wr ga cnt f) := ia
                have IB : Hid (Idx wr gb cnt h) := ib
                have PS : Hid (Pass sn W (min lo cnt) f h) := ps
                have BL : Hid (Below w.heap.size w wr) := bl
                clear hlo ia ib ps bl
                by_cases hlc : lo < cnt
                · have hlcI : (lo : Int) < (cnt : Int) := by omega
                  obtain ⟨mid, hmid⟩ : ∃ m, m = min (lo + W) cnt := ⟨_, rfl⟩
                  obtain ⟨hi, hhi⟩ : ∃ m, m = min (lo + 2 * W) cnt := ⟨_, rfl⟩
                  have hmb : lo ≤ mid ∧ mid ≤ hi ∧ hi ≤ cnt := by omega
                  have HMID : Hid (mid = min (lo + W) cnt) := hmid
                  have HHI : Hid (hi = min (lo + 2 * W) cnt) := hhi
                  clear hmid hhi
                  go_upto_if 71 with fail
                  go_cut [14] (fun v wx => v = .int .i64 (mid : Nat) ∧ wx = wr)
                  case first =>
                    by_cases c1 : cnt < lo + W
                    · have c1' : decide ((cnt : Int) < (lo : Int) + (W : Int)) = true := by simp; omega
                      go_wp2_with fail
                      go_meet
                      exact ⟨by have := HMID.out; rw [show mid = cnt by omega], rfl⟩
                    · have c1' : decide ((cnt : Int) < (lo : Int) + (W : Int)) = false := by simp; omega
                      go_wp2_with fail
                      go_meet
                      exact ⟨by have := HMID.out; rw [show mid = lo + W by omega]; go_num, rfl⟩
                  case rest =>
                    obtain ⟨rfl, rfl⟩ := hcut
                    go_upto_if 79 with fail
                    go_cut [15] (fun v wx => v = .int .i64 (hi : Nat) ∧ wx = wc)
                    case first =>
                      by_cases c1 : cnt < lo + 2 * W
                      · have c1' : decide ((cnt : Int) < (lo : Int) + 2 * (W : Int)) = true := by simp; omega
                        go_wp2_with fail
                        go_meet
                        exact ⟨by have := HHI.out; rw [show hi = cnt by omega], rfl⟩
                      · have c1' : decide ((cnt : Int) < (lo : Int) + 2 * (W : Int)) = false := by simp; omega
                        go_wp2_with fail
                        go_meet
                        exact ⟨by have := HHI.out; rw [show hi = lo + 2 * W by omega]; go_num, rfl⟩
                    case rest =>
                      obtain ⟨rfl, rfl⟩ := hcut
                      go_upto_block 8 with fail
                      have SL : Hid (SortedOn sn f lo mid) := by show SortedOn _ _ _ _; rw [HLO.out]; exact BK.out.left hW0 (by rw [← HLO.out, HMID.out]; exact Nat.le_refl _)
                      have SR : Hid (SortedOn sn f mid hi) := BK.out.right (q := q) hW0 (by rw [← HLO.out]; exact HMID.out) (by rw [← HLO.out, HHI.out]; exact Nat.le_refl _)
                      go_cut [16, 17, 18] (fun vi vj vt wr => (∃ (i j t : Nat) (h' : Nat → Nat), vi = .int .i64 i ∧ vj = .int .i64 j ∧ vt = .int .i64 t ∧ Idx wr ga cnt f ∧ Idx wr gb cnt h' ∧ Mid sn f h lo mid hi i j t h' ∧ Below w.heap.size w wr) ∧ (∀ i j, vi = .int .i64 i → vj = .int .i64 j → mid ≤ i ∨ hi ≤ j))
                      case first =>
                        go_wp2_with fail
                        go_loopw [16, 17, 18] (fun vi vj vt wr => ∃ (i j t : Nat) (h' : Nat → Nat), vi = .int .i64 i ∧ vj = .int .i64 j ∧ vt = .int .i64 t ∧ Idx wr ga cnt f ∧ Idx wr gb cnt h' ∧ Mid sn f h lo mid hi i j t h' ∧ Below w.heap.size w wr) (fun vi vj _ _ => (mid - (intOf vi).toNat) + (hi - (intOf vj).toNat))
                        case atStart => exact ⟨lo, mid, lo, h, rfl, rfl, rfl, IA.out, IB.out, Mid.start hmb.1 hmb.2.1, BL.out⟩
                        case round =>
                          clear IA IB BL
                          obtain ⟨i, j, t, h', rfl, rfl, rfl, ia, ib, md, bl⟩ := hrel
                          have IA : Hid (Idx wr ga cnt f) := ia
                          have IB : Hid (Idx wr gb cnt h') := ib
                          have MD : Hid (Mid sn f h lo mid hi i j t h') := md
                          have BL : Hid (Below w.heap.size w wr) := bl
                          have hti : lo ≤ i ∧ i ≤ mid ∧ mid ≤ j ∧ j ≤ hi := ⟨md.li, md.im, md.mj, md.jh⟩
                          have HTE : Hid (t = i + (j - mid)) := md.te
                          clear ia ib md bl
                          by_cases ci : i < mid
                          · by_cases cj : j < hi
                            · have x1 : f j < N := FN.out j (by omega)
                              have x2 : f i < N := FN.out i (by omega)
                              have k1 := Blk.cell IA.out (i := j) (by omega)
                              have k2 := Blk.cell IA.out (i := i) (by omega)
                              have HSR : Hid (sn (f j) < sn (f i) → Mid sn f h lo mid hi i (j + 1) (t + 1) (put h' t (f j))) := fun hlt => MD.out.takeRight cj SR.out (fun y h1 h2 => by
                                rcases Nat.eq_or_lt_of_le h1 with e | e
                                · rw [← e]; omega
                                · have := SL.out i y (by omega) e h2; omega)
                              have HSL : Hid (¬ sn (f j) < sn (f i) → Mid sn f h lo mid hi (i + 1) j (t + 1) (put h' t (f i))) := fun hlt => MD.out.takeLeft ci SL.out (fun y h1 h2 => by
                                rcases Nat.eq_or_lt_of_le h1 with e | e
                                · rw [← e]; omega
                                · have := SR.out j y (by omega) e h2; omega)
                              obtain ⟨x, hx⟩ : ∃ x, x = f j := ⟨_, rfl⟩
                              obtain ⟨y, hy⟩ : ∃ y, y = f i := ⟨_, rfl⟩
                              have s1 := below_cell BL.out (HS.out (f j) x1)
                              have s2 := below_cell BL.out (HS.out (f i) x2)
                              simp only [← hx, ← hy] at x1 x2 k1 k2 s1 s2 HSR HSL
                              clear hx hy
                              have b1 := BN.out x
                              have b2 := BN.out y
                              have ciI : (i : Int) < (mid : Int) := by omega
                              have cjI : (j : Int) < (hi : Int) := by omega
                              have cjc : (j : Int) < (cnt : Int) := by omega
                              have cic : (i : Int) < (cnt : Int) := by omega
                              have htc : t < cnt := by have := HTE.out; omega
                              have ctc : (t : Int) < (cnt : Int) := by omega
                              have x1I : (x : Int) < (N : Int) := by omega
                              have x2I : (y : Int) < (N : Int) := by omega
                              go_wp2_with fail
                              go_region_held3 (fun w' => w'.cell? ⟨ga, j, none⟩ = some (.int .i64 (x : Nat)) ∧ w'.cell? ⟨ga, i, none⟩ = some (.int .i64 (y : Nat)) ∧ w'.cell? ⟨bs, os + x, none⟩ = some (.int .i32 (sn x)) ∧ w'.cell? ⟨bs, os + y, none⟩ = some (.int .i32 (sn y))) (go_keep) (fail)
                              have q1 : wr.drew.cell? ⟨ga, j, none⟩ = some (.int .i64 (x : Nat)) := k1
                              have q2 : wr.drew.cell? ⟨ga, i, none⟩ = some (.int .i64 (y : Nat)) := k2
                              have ID : Hid (Idx wr.drew gb cnt h') := IB.out
                              have IE : Hid (Idx wr.drew ga cnt f) := IA.out
                              have BD : Hid (Below w.heap.size w wr.drew) := BL.out.drew
                              clear k1 k2 s1 s2 IA IB BL
                              generalize wr.drew = wd at *
                              have q3 := Blk.cell ID.out (i := t) (by omega)
                              have q4 := Blk.frozen ID.out t
                              have NX : Hid (Idx (wd.setCell ⟨gb, t, none⟩ (.int .i64 (x : Int))) gb cnt (put h' t x)) := Idx.put ID.out (by omega)
                              have NY : Hid (Idx (wd.setCell ⟨gb, t, none⟩ (.int .i64 (y : Int))) gb cnt (put h' t y)) := Idx.put ID.out (by omega)
                              have MX : Hid (Idx (wd.setCell ⟨gb, t, none⟩ (.int .i64 (x : Int))) ga cnt f) := Blk.other IE.out hne _
                              have MY : Hid (Idx (wd.setCell ⟨gb, t, none⟩ (.int .i64 (y : Int))) ga cnt f) := Blk.other IE.out hne _
                              by_cases c : sn x < sn y
                              · have c' : decide (sn x < sn y) = true := by simpa using c
                                go_wp2_with fail
                                go_roundw
                                case rel => exact ⟨i, j + 1, t + 1, put h' t x, rfl, by go_num, by go_num, MX.out, NX.out, HSR.out c, BD.out.setCell hgb _⟩
                                case measure => simp [intOf]; omega
                              · have c' : decide (sn x < sn y) = false := by simpa using c
                                go_wp2_with fail
                                go_roundw
                                case rel => exact ⟨i + 1, j, t + 1, put h' t y, by go_num, rfl, by go_num, MY.out, NY.out, HSL.out (by omega), BD.out.setCell hgb _⟩
                                case measure => simp [intOf]; omega
                            · have ciI : (i : Int) < (mid : Int) := by omega
                              have cjI : ¬ (j : Int) < (hi : Int) := by omega
                              go_wp2_with fail
                              go_meet
                              exact ⟨⟨i, j, t, h', rfl, rfl, rfl, IA.out, IB.out, MD.out, BL.out⟩, fun _ _ e1 e2 => by cases e1; cases e2; omega⟩
                          · have ciI : ¬ (i : Int) < (mid : Int) := by omega
                            go_wp2_with fail
                            go_meet
                            exact ⟨⟨i, j, t, h', rfl, rfl, rfl, IA.out, IB.out, MD.out, BL.out⟩, fun _ _ e1 e2 => by cases e1; cases e2; omega⟩
                      case rest =>
                        clear IA IB BL
                        obtain ⟨⟨i, j, t, h', rfl, rfl, rfl, ia, ib, md, bl⟩, hor⟩ := hcut
                        have hor' := hor i j rfl rfl
                        clear hor
                        have IA : Hid (Idx wc ga cnt f) := ia
                        have IB : Hid (Idx wc gb cnt h') := ib
                        have MD : Hid (Mid sn f h lo mid hi i j t h') := md
                        have BL : Hid (Below w.heap.size w wc) := bl
                        clear ia ib md bl
                        have hji : (i : Nat) < mid → hi ≤ j := fun h => by omega
                        clear hor'
                        go_wp2_with fail
                        go_loopw [16, 18] (fun vi vt wr => ∃ (i t : Nat) (h' : Nat → Nat), vi = .int .i64 i ∧ vt = .int .i64 t ∧ Idx wr ga cnt f ∧ Idx wr gb cnt h' ∧ Mid sn f h lo mid hi i j t h' ∧ (i < mid → hi ≤ j) ∧ Below w.heap.size w wr) (fun vi _ _ => mid - (intOf vi).toNat)
                        case atStart => exact ⟨i, t, h', rfl, rfl, IA.out, IB.out, MD.out, hji, BL.out⟩
                        case round =>
                          clear IA IB BL MD hji
                          obtain ⟨i, t, h', rfl, rfl, ia, ib, md, hji, bl⟩ := hrel
                          have IA : Hid (Idx wr ga cnt f) := ia
                          have IB : Hid (Idx wr gb cnt h') := ib
                          have MD : Hid (Mid sn f h lo mid hi i j t h') := md
                          have BL : Hid (Below w.heap.size w wr) := bl
                          have hti : lo ≤ i ∧ i ≤ mid ∧ mid ≤ j ∧ j ≤ hi := ⟨md.li, md.im, md.mj, md.jh⟩
                          have HTE : Hid (t = i + (j - mid)) := md.te
                          clear ia ib md bl
                          by_cases ci : i < mid
                          · have hj2 := hji ci
                            have ciI : (i : Int) < (mid : Int) := by omega
                            have cic : (i : Int) < (cnt : Int) := by omega
                            have htc : t < cnt := by have := HTE.out; omega
                            have ctc : (t : Int) < (cnt : Int) := by omega
                            have k2 := Blk.cell IA.out (i := i) (by omega)
                            have k3 := Blk.cell IB.out (i := t) (by omega)
                            have k4 := Blk.frozen IB.out t
                            have HSL : Hid (Mid sn f h lo mid hi (i + 1) j (t + 1) (put h' t (f i))) := MD.out.takeLeft ci SL.out (fun y h1 h2 => by omega)
                            have NY : Hid (Idx (wr.setCell ⟨gb, t, none⟩ (.int .i64 (f i : Int))) gb cnt (put h' t (f i))) := Idx.put IB.out (by omega)
                            have MY : Hid (Idx (wr.setCell ⟨gb, t, none⟩ (.int .i64 (f i : Int))) ga cnt f) := Blk.other IA.out hne _
                            go_wp2_with fail
                            go_roundw
                            case rel => exact ⟨i + 1, t + 1, put h' t (f i), by go_num, by go_num, MY.out, NY.out, HSL.out, fun _ => hj2, BL.out.setCell hgb _⟩
                            case measure => simp [intOf]; omega
                          · obtain rfl : mid = i := by omega
                            have ciI : ¬ (mid : Int) < (mid : Int) := by omega
                            clear hji
                            go_wp2_with fail
                            go_loopw [17, 18] (fun vj vt wr => ∃ (j t : Nat) (h' : Nat → Nat), vj = .int .i64 j ∧ vt = .int .i64 t ∧ Idx wr ga cnt f ∧ Idx wr gb cnt h' ∧ Mid sn f h lo mid hi mid j t h' ∧ Below w.heap.size w wr) (fun vi _ _ => hi - (intOf vi).toNat)
                            case atStart => exact ⟨j, t, h', rfl, rfl, IA.out, IB.out, MD.out, BL.out⟩
                            case round =>
                              clear IA IB BL MD hti HTE
                              obtain ⟨j, t, h', rfl, rfl, ia, ib, md, bl⟩ := hrel
                              have IA : Hid (Idx wr ga cnt f) := ia
                              have IB : Hid (Idx wr gb cnt h') := ib
                              have MD : Hid (Mid sn f h lo mid hi mid j t h') := md
                              have BL : Hid (Below w.heap.size w wr) := bl
                              have hti : mid ≤ j ∧ j ≤ hi := ⟨md.mj, md.jh⟩
                              have HTE : Hid (t = mid + (j - mid)) := md.te
                              clear ia ib md bl
                              by_cases cj : j < hi
                              · have cjI : (j : Int) < (hi : Int) := by omega
                                have cjc : (j : Int) < (cnt : Int) := by omega
                                have htc : t < cnt := by have := HTE.out; omega
                                have ctc : (t : Int) < (cnt : Int) := by omega
                                have k2 := Blk.cell IA.out (i := j) (by omega)
                                have k3 := Blk.cell IB.out (i := t) (by omega)
                                have k4 := Blk.frozen IB.out t
                                have HSL : Hid (Mid sn f h lo mid hi mid (j + 1) (t + 1) (put h' t (f j))) := MD.out.takeRight cj SR.out (fun y h1 h2 => by omega)
                                have NY : Hid (Idx (wr.setCell ⟨gb, t, none⟩ (.int .i64 (f j : Int))) gb cnt (put h' t (f j))) := Idx.put IB.out (by omega)
                                have MY : Hid (Idx (wr.setCell ⟨gb, t, none⟩ (.int .i64 (f j : Int))) ga cnt f) := Blk.other IA.out hne _
                                go_wp2_with fail
                                go_roundw
                                case rel => exact ⟨j + 1, t + 1, put h' t (f j), by go_num, by go_num, MY.out, NY.out, HSL.out, BL.out.setCell hgb _⟩
                                case measure => simp [intOf]; omega
                              · obtain rfl : hi = j := by omega
                                have cjI : ¬ (hi : Int) < (hi : Int) := by omega
                                have PN : Hid (Pass sn W (min (lo + 2 * W) cnt) f h') := by
                                  show Pass _ _ _ _ _
                                  have e := HLO.out
                                  have p0 := PS.out
                                  rw [show min lo cnt = lo by omega] at p0
                                  have m0 := MD.out
                                  have e1 := HMID.out
                                  have e2 := HHI.out
                                  rw [← e2]
                                  rw [e] at p0 m0 e1 e2
                                  exact (Pass.next p0 hW0 e1 e2 m0).1
                                have hlo2 : lo + 2 * W = 2 * W * (q + 1) := by rw [Nat.mul_add, ← HLO.out]; omega
                                have HL2 : Hid (lo + 2 * W = 2 * W * (q + 1)) := hlo2
                                clear hlo2
                                go_wp2_with fail
                                go_roundw
                                case rel => exact ⟨q + 1, lo + 2 * W, h', HL2.out, by omega, by go_num, IA.out, IB.out, PN.out, BL.out⟩
                                case measure => simp [intOf]; omega
                · have hlcI : ¬ (lo : Int) < (cnt : Int) := by omega
                  have PF : Hid (Pass sn W cnt f h) := by have := PS.out; rwa [show min lo cnt = cnt by omega] at this
                  go_wp2_with fail
                  go_roundw
                  case rel => exact ⟨gb, ga, W * 2, h, f, rfl, rfl, by go_num, by omega, by omega, Ne.symm hne, hgb, hga, IB.out, IA.out, PF.out.perm.trans PM.out, by have := PF.out.blocks; rwa [Nat.mul_comm 2 W] at this, BL.out⟩
                  case measure => simp [intOf]; omega
            · have hWcI : ¬ (W : Int) < (cnt : Int) := by omega
              have hcw : cnt ≤ W := by omega
              have SO : Hid (SortedOn sn f 0 cnt) := BK.out.whole hcw
              go_wp2_with fail
              have FIN : Hid (∀ d : Bool, (d = true → ∀ x y, x < y → y < cnt → sn (f x) < sn (f y)) → ∀ wz, Idx wz ga cnt f → Below w.heap.size w wz → Post N sn ho w (.returned (.tuple #[.slice (some ⟨ga, 0, none⟩) cnt cnt, .bool d])) wz) := fun d hd wz hI hB => by
                have e := HC.out
                have p := PM.out
                rw [e] at hd hI p
                exact ⟨ga, f, d, by rw [← e], hI, hga, hB, p, hd⟩
              clear PM HC
              go_loopw [19] (fun v wr => ∃ t : Nat, 0 < t ∧ (t ≤ cnt ∨ t = 1) ∧ v = .int .i64 t ∧ Idx wr ga cnt f ∧ (∀ x, 0 < x → x < t → sn (f (x - 1)) ≠ sn (f x)) ∧ Below w.heap.size w wr) (fun v _ => cnt - (intOf v).toNat)
              case atStart => exact ⟨1, by omega, Or.inr rfl, rfl, IA.out, fun x h1 h2 => by omega, BL.out⟩
              case round =>
                clear IA IB BL
                obtain ⟨t, ht0, ht1, rfl, ia, nd, bl⟩ := hrel
                have IA : Hid (Idx wr ga cnt f) := ia
                have ND : Hid (∀ x, 0 < x → x < t → sn (f (x - 1)) ≠ sn (f x)) := nd
                have BL : Hid (Below w.heap.size w wr) := bl
                clear ia nd bl
                by_cases ct : t < cnt
                · have hu : t - 1 + 1 = t := by omega
                  have x1 : f (t - 1) < N := FN.out (t - 1) (by omega)
                  have x2 : f t < N := FN.out t (by omega)
                  have k1 := Blk.cell IA.out (i := t - 1) (by omega)
                  have k2 := Blk.cell IA.out (i := t) (by omega)
                  have s1 := below_cell BL.out (HS.out (f (t - 1)) x1)
                  have s2 := below_cell BL.out (HS.out (f t) x2)
                  have b1 := BN.out (f (t - 1))
                  have b2 := BN.out (f t)
                  have ND2 : Hid (¬ sn (f (t - 1)) = sn (f t) → ∀ x, 0 < x → x < t + 1 → sn (f (x - 1)) ≠ sn (f x)) := fun hne x h1 h2 => by
                    by_cases e : x = t
                    · subst e; exact hne
                    · exact ND.out x h1 (by omega)
                  obtain ⟨x, hx⟩ : ∃ x, x = f (t - 1) := ⟨_, rfl⟩
                  obtain ⟨y, hy⟩ : ∃ y, y = f t := ⟨_, rfl⟩
                  simp only [← hx, ← hy] at x1 x2 k1 k2 s1 s2 b1 b2 ND2
                  clear hx hy
                  have cu : (t : Int) < (cnt : Int) := by omega
                  have cu' : (t : Int) - 1 < (cnt : Int) := by omega
                  have cu4 : (0 : Int) ≤ (t : Int) - 1 := by omega
                  have cu5 : ((t : Int) - 1).toNat = t - 1 := by omega
                  have cu3 : IntKind.i64.wrap ((t : Int) - 1) = (t : Int) - 1 := IntWalk.i64_in _ (by omega)
                  have cu6 : t ≤ cnt := by omega
                  have cu7 : (t : Int) ≤ (cnt : Int) := by omega
                  have cu8 : (1 : Int) ≤ (t : Int) := by omega
                  have cu9 : 1 ≤ t := by omega
                  clear ht1 hu
                  have x1I : (x : Int) < (N : Int) := by omega
                  have x2I : (y : Int) < (N : Int) := by omega
                  go_wp2_with fail
                  go_region_held3 (fun w' => w'.cell? ⟨ga, t - 1, none⟩ = some (.int .i64 (x : Nat)) ∧ w'.cell? ⟨ga, t, none⟩ = some (.int .i64 (y : Nat)) ∧ w'.cell? ⟨bs, os + x, none⟩ = some (.int .i32 (sn x)) ∧ w'.cell? ⟨bs, os + y, none⟩ = some (.int .i32 (sn y))) (go_keep) (fail)
                  have IE : Hid (Idx wr.drew ga cnt f) := IA.out
                  have BD : Hid (Below w.heap.size w wr.drew) := BL.out.drew
                  clear k1 k2 s1 s2 IA BL
                  generalize wr.drew = wd at *
                  by_cases c : sn x = sn y
                  · have c' : (sn x == sn y) = true := by simpa using c
                    go_wp2_with fail
                    exact bodyPost_ret (v := .tuple #[.slice (some ⟨ga, 0, none⟩) cnt cnt, .bool false]) (by simp [results, Try.results27, go_sem]) rfl (FIN.out false (fun h => by cases h) _ IE.out BD.out)
                  · have c' : (sn x == sn y) = false := by simpa using c
                    go_wp2_with fail
                    go_roundw
                    case rel => exact ⟨t + 1, by omega, by omega, by go_num, IE.out, ND2.out c, BD.out⟩
                    case measure => simp [intOf]; omega
                · have ctI : ¬ (t : Int) < (cnt : Int) := by omega
                  have hst : ∀ x, 0 < x → x < cnt → sn (f (x - 1)) ≠ sn (f x) := fun x h1 h2 => ND.out x h1 (by omega)
                  have HST : Hid (∀ x y, x < y → y < cnt → sn (f x) < sn (f y)) := Merge.strict SO.out hst
                  clear hst
                  go_wp2_with fail
                  exact bodyPost_ret (v := .tuple #[.slice (some ⟨ga, 0, none⟩) cnt cnt, .bool true]) (by simp [results, Try.results27, go_sem]) rfl (FIN.out true (fun _ => HST.out) _ IA.out BL.out)
end Go.Proofs.Qxb6613555a.Held
