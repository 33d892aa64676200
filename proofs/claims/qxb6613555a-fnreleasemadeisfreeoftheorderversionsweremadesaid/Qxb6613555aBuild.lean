import Derived.Test.Qxb6613555aPhase
import Derived.Test.Qxb6613555aHeld
import Derived.Deep.CutBlock
import Derived.Deep.RegionHeld3
/- zzBuildMVTO walked -/
namespace Go.Proofs.Qxb6613555a.Build
open Go.ChangeShapes Go.WideShapes Go.ChangeAt Go.RowKit Base Rec Set Chain Phase Held Merge

theorem J_lt {rev : Bool} {M p : Nat} (h : p < M) : J rev M p < M := by unfold J; split <;> omega
theorem J_inj {rev : Bool} {M p q : Nat} (hp : p < M) (hq : q < M) (h : J rev M p = J rev M q) : p = q := by
  unfold J at h
  split at h <;> omega
theorem mi_inj {N M I : Nat} {n : Int} {ho mi : Nat → Int} (pr : Prem N M I N N n ho mi) {rev : Bool} {p q : Nat} (hp : p < M) (hq : q < M) (h : p ≠ q) : (mi (J rev M p)).toNat ≠ (mi (J rev M q)).toNat := by
  have h1 : J rev M p ≠ J rev M q := fun e => h (J_inj hp hq e)
  have a1 := pr.mi0 _ (J_lt (rev := rev) hp)
  have a2 := pr.mi0 _ (J_lt (rev := rev) hq)
  have h2 : mi (J rev M p) ≠ mi (J rev M q) := by
    rcases Nat.lt_or_gt_of_ne h1 with h3 | h3
    · exact pr.miD _ _ h3 (J_lt hq)
    · exact fun e => pr.miD _ _ h3 (J_lt hp) e.symm
  omega
/-- the state and three rows besides -/
structure W3 (B : Nat) (A : Adr) (s : St) (gf gl gr M : Nat) (first last rmx : Nat → Int) (w0 w : World) : Prop where
  mv : MV B A s w
  f : I32 w gf M first
  l : I32 w gl M last
  r : I32 w gr M rmx
  bl : Below B w0 w
variable {B : Nat} {A : Adr} {s : St} {gf gl gr M : Nat} {first last rmx : Nat → Int} {w0 w w' : World}
theorem W3.keep {ts : List TypeId} (h : W3 B A s gf gl gr M first last rmx w0 w) (k : KeepT ts w w') (ht : ∀ t ∈ [108, 148, 91, 149, 154, 150, 162, 160], t ∉ ts) (h21 : 21 ∉ ts) (bl : Below B w w') : W3 B A s gf gl gr M first last rmx w0 w' :=
  ⟨h.mv.keep k ht, h.f.keep k h21, h.l.keep k h21, h.r.keep k h21, h.bl.trans bl⟩
theorem W3.next {s' : St} {ts : List TypeId} (h : W3 B A s gf gl gr M first last rmx w0 w) (hm : MV B A s' w') (k : KeepT ts w w') (h21 : 21 ∉ ts) (bl : Below B w w') : W3 B A s' gf gl gr M first last rmx w0 w' :=
  ⟨hm, h.f.keep k h21, h.l.keep k h21, h.r.keep k h21, h.bl.trans bl⟩
theorem W3.drew (h : W3 B A s gf gl gr M first last rmx w0 w) : W3 B A s gf gl gr M first last rmx w0 w.drew :=
  h.keep (KeepT.refl [] _).drew (by decide) (by decide) (Below.refl _ _).drew
theorem keep21 {g n : Nat} {f : Nat → Int} (h : I32 w g n f) (o : Nat) (v : Value) : KeepT [21] w (w.setCell ⟨g, o, none⟩ v) := Blk.keepSet h o v
theorem W3.setF (h : W3 B A s gf gl gr M first last rmx w0 w) (h1 : gl ≠ gf) (h2 : gr ≠ gf) (hB : B ≤ gf) {j : Nat} (hj : j < M) (v : Int) : W3 B A s gf gl gr M (ch first j v) last rmx w0 (w.setCell ⟨gf, j, none⟩ (.int .i32 v)) :=
  ⟨h.mv.keep (keep21 h.f j _) (by decide), I32.put h.f hj, h.l.other h1 _, h.r.other h2 _, h.bl.setCell hB _⟩
theorem W3.setL (h : W3 B A s gf gl gr M first last rmx w0 w) (h1 : gf ≠ gl) (h2 : gr ≠ gl) (hB : B ≤ gl) {j : Nat} (hj : j < M) (v : Int) : W3 B A s gf gl gr M first (ch last j v) rmx w0 (w.setCell ⟨gl, j, none⟩ (.int .i32 v)) :=
  ⟨h.mv.keep (keep21 h.l j _) (by decide), h.f.other h1 _, I32.put h.l hj, h.r.other h2 _, h.bl.setCell hB _⟩
theorem W3.setR (h : W3 B A s gf gl gr M first last rmx w0 w) (h1 : gf ≠ gr) (h2 : gl ≠ gr) (hB : B ≤ gr) {j : Nat} (hj : j < M) (v : Int) : W3 B A s gf gl gr M first last (ch rmx j v) w0 (w.setCell ⟨gr, j, none⟩ (.int .i32 v)) :=
  ⟨h.mv.keep (keep21 h.r j _) (by decide), h.f.other h1 _, h.l.other h2 _, I32.put h.r hj, h.bl.setCell hB _⟩
theorem W3.setX {gx n : Nat} {next : Nat → Int} (h : W3 B A s gf gl gr M first last rmx w0 w) (hx : I32 w gx n next) (h1 : gf ≠ gx) (h2 : gl ≠ gx) (h3 : gr ≠ gx) (hB : B ≤ gx) (j : Nat) (v : Int) : W3 B A s gf gl gr M first last rmx w0 (w.setCell ⟨gx, j, none⟩ (.int .i32 v)) :=
  ⟨h.mv.keep (keep21 hx j _) (by decide), h.f.other h1 _, h.l.other h2 _, h.r.other h3 _, h.bl.setCell hB _⟩
theorem W3.start (mv : MV B A s w) (bl : Below B w0 w) (hB : B ≤ w.heap.size) (M : Nat) : W3 B A s w.heap.size (w.heap.size + 1) (w.heap.size + 1 + 1) M (fun _ => 0) (fun _ => 0) (fun _ => 0) w0
    (((w.alloc (.cells (madeCells #[.int .i32 0] M) 21)).alloc (.cells (madeCells #[.int .i32 0] M) 21)).alloc (.cells (madeCells #[.int .i32 0] M) 21)) := by
  have b1 := Blk.made w (.int .i32 0) M 21
  have b2 := Blk.made (w.alloc (.cells (madeCells #[.int .i32 0] M) 21)) (.int .i32 0) M 21
  have b3 := Blk.made ((w.alloc (.cells (madeCells #[.int .i32 0] M) 21)).alloc (.cells (madeCells #[.int .i32 0] M) 21)) (.int .i32 0) M 21
  have e1 : (w.alloc (.cells (madeCells #[.int .i32 0] M) 21)).heap.size = w.heap.size + 1 := by simp
  have e2 : ((w.alloc (.cells (madeCells #[.int .i32 0] M) 21)).alloc (.cells (madeCells #[.int .i32 0] M) 21)).heap.size = w.heap.size + 1 + 1 := by simp
  rw [e1] at b2
  rw [e2] at b3
  exact ⟨mv.keep ((((KeepT.refl [] w).alloc _).alloc _).alloc _) (by decide), (b1.alloc _).alloc _, b2.alloc _, b3, ((bl.alloc hB _).alloc (by simp; omega) _).alloc (by simp; omega) _⟩
theorem W3.more (h : W3 B A s gf gl gr M first last rmx w0 w) (hB : B ≤ w.heap.size) (o : Obj) : W3 B A s gf gl gr M first last rmx w0 (w.alloc o) :=
  ⟨h.mv.keep ((KeepT.refl [] w).alloc _) (by decide), Blk.alloc h.f _, Blk.alloc h.l _, Blk.alloc h.r _, h.bl.alloc hB _⟩

set_option maxRecDepth 100000 in
set_option maxHeartbeats 8000000 in
theorem builds (bn on bs os bh oh gs : Nat) (ma ia : Option Addr) (N I M cnt nc sc hc mc ic : Nat) (n : Int) (nums since ho mi : Nat → Int) (names : Nat → ByteArray) (f : Nat → Nat) (rev : Bool) (w : World)
    (hN : N ≤ 65536) (hI : I ≤ 65536) (hM : M ≤ 65536) (hcnt : cnt ≤ N) (pr : Prem N M I N N n ho mi)
    (cn : ∀ i, i < N → w.cell? ⟨bn, on + i, none⟩ = some (.int .i32 (nums i)))
    (cs : ∀ i, i < N → w.cell? ⟨bs, os + i, none⟩ = some (.int .i32 (since i)))
    (chh : ∀ i, i < N → w.cell? ⟨bh, oh + i, none⟩ = some (.int .i32 (ho i)))
    (rn : SRow w ia I names) (rm : IRow w ma M mi) (ix : Idx w gs cnt f) (fb : ∀ k, k < cnt → f k < N ∧ 0 ≤ ho (f k)) (nd : (seg f 0 cnt).Nodup) :
    Calls Try.prog 28 #[.slice (some ⟨bn, on, none⟩) N nc, .slice (some ⟨bs, os, none⟩) N sc, .slice (some ⟨bh, oh, none⟩) N hc, .int .i32 n, .slice ia I ic, .slice ma M mc, .slice (some ⟨gs, 0, none⟩) cnt cnt, .bool rev] w
      fun e w' => ∃ A s first last next rm, e = .returned (.pointer (some ⟨A.O, 0, none⟩)) ∧ Built w.heap.size A s w' N I M n nums since ho names mi (seg f 0 cnt) rev first last next rm ∧ Below w.heap.size w w' := by
  have CN : Hid (∀ i, i < N → w.cell? ⟨bn, on + i, none⟩ = some (.int .i32 (nums i))) := cn
  have CS : Hid (∀ i, i < N → w.cell? ⟨bs, os + i, none⟩ = some (.int .i32 (since i))) := cs
  have CH : Hid (∀ i, i < N → w.cell? ⟨bh, oh + i, none⟩ = some (.int .i32 (ho i))) := chh
  have RN : Hid (SRow w ia I names) := rn
  have RM : Hid (IRow w ma M mi) := rm
  have IX : Hid (Idx w gs cnt f) := ix
  have FB : Hid (∀ k, k < cnt → f k < N ∧ 0 ≤ ho (f k)) := fb
  have ND : Hid ((seg f 0 cnt).Nodup) := nd
  have PR : Hid (Prem N M I N N n ho mi) := pr
  have hn : 0 ≤ n ∧ n < N := ⟨pr.n0, pr.nN⟩
  clear cn cs chh rn rm ix fb nd pr
  obtain ⟨it, hi21, hz, hs21, hbb⟩ := info_parts info21
  go_enter Try.func28, Try.ntmps28
  go_wp2_with fail
  refine (newMV N I M w hN hI hM).mono ?_
  rintro e w1 ⟨A, rfl, mv, bl⟩
  have MV1 : Hid (MV w.heap.size A (st0 N I M) w1) := mv
  have BL1 : Hid (Below w.heap.size w w1) := bl
  have hs1 : w.heap.size ≤ w1.heap.size := bl.size
  clear mv bl
  go_wp2_with (at_make; first | refine wpList_make_row _ rfl (.tmp 47) (.tmp 47) 46 rfl 21 it (.int .i32 0) Try.underlying46 hi21 hz hs21 rfl .i64 .i64 M rfl rfl (by rw [hbb]; omega) (by omega) ?_ | refine wpList_make_row _ rfl (.tmp 49) (.tmp 49) 46 rfl 21 it (.int .i32 0) Try.underlying46 hi21 hz hs21 rfl .i64 .i64 M rfl rfl (by rw [hbb]; omega) (by omega) ?_ | refine wpList_make_row _ rfl (.tmp 51) (.tmp 51) 46 rfl 21 it (.int .i32 0) Try.underlying46 hi21 hz hs21 rfl .i64 .i64 M rfl rfl (by rw [hbb]; omega) (by omega) ?_)
  have W1 : Hid (W3 w.heap.size A (st0 N I M) w1.heap.size (w1.heap.size + 1) (w1.heap.size + 1 + 1) M (fun _ => 0) (fun _ => 0) (fun _ => 0) w (((w1.alloc (.cells (madeCells #[.int .i32 0] M) 21)).alloc (.cells (madeCells #[.int .i32 0] M) 21)).alloc (.cells (madeCells #[.int .i32 0] M) 21))) := W3.start MV1.out BL1.out hs1 M
  have hs2 : (((w1.alloc (.cells (madeCells #[.int .i32 0] M) 21)).alloc (.cells (madeCells #[.int .i32 0] M) 21)).alloc (.cells (madeCells #[.int .i32 0] M) 21)).heap.size = w1.heap.size + 1 + 1 + 1 := by simp
  clear MV1 BL1
  generalize (((w1.alloc (.cells (madeCells #[.int .i32 0] M) 21)).alloc (.cells (madeCells #[.int .i32 0] M) 21)).alloc (.cells (madeCells #[.int .i32 0] M) 21)) = w2 at *
  obtain ⟨gf, hgf⟩ : ∃ g, g = w1.heap.size := ⟨_, rfl⟩
  obtain ⟨gl, hgl⟩ : ∃ g, g = w1.heap.size + 1 := ⟨_, rfl⟩
  obtain ⟨gr, hgr⟩ : ∃ g, g = w1.heap.size + 1 + 1 := ⟨_, rfl⟩
  have bg : w.heap.size ≤ gf ∧ w.heap.size ≤ gl ∧ w.heap.size ≤ gr := by omega
  have n1 : gf ≠ gl := by omega
  have n2 : gf ≠ gr := by omega
  have n3 : gl ≠ gr := by omega
  rw [← hgr, ← hgl, ← hgf] at W1 ⊢
  clear hgf hgl hgr hs2 hs1
  go_loopw [24] (fun v wr => ∃ (j : Nat) (first last : Nat → Int), j ≤ M ∧ v = .int .i64 j ∧ W3 w.heap.size A (st0 N I M) gf gl gr M first last (fun _ => 0) w wr ∧ ∀ k, k < j → first k = -1) (fun v _ => M - (intOf v).toNat)
  case atStart => exact ⟨0, _, _, by omega, rfl, W1.out, fun k hk => by omega⟩
  case round =>
    clear W1
    obtain ⟨j, first, last, hj, rfl, w3, hf⟩ := hrel
    have WW : Hid (W3 w.heap.size A (st0 N I M) gf gl gr M first last (fun _ => 0) w wr) := w3
    have HF : Hid (∀ k, k < j → first k = -1) := hf
    clear w3 hf
    by_cases hjM : j < M
    · have hjI : (j : Int) < (M : Int) := by omega
      have c1 := WW.out.f.cell hjM
      have c2 := WW.out.l.cell hjM
      have f1 := WW.out.f.frozen j
      have f2 := WW.out.l.frozen j
      have WN : Hid (W3 w.heap.size A (st0 N I M) gf gl gr M (ch first j (-1)) (ch last j (-1)) (fun _ => 0) w ((wr.setCell ⟨gf, j, none⟩ (.int .i32 (-1))).setCell ⟨gl, j, none⟩ (.int .i32 (-1)))) := (WW.out.setF (Ne.symm n1) (Ne.symm n2) bg.1 hjM (-1)).setL n1 (Ne.symm n3) bg.2.1 hjM (-1)
      go_wp2_with fail
      go_roundw
      case rel => exact ⟨j + 1, _, _, by omega, by go_num, WN.out, fun k hk => by
        by_cases e : k = j
        · subst e; exact ch_at _ _ _
        · rw [ch_ne _ _ e]; exact HF.out k (by omega)⟩
      case measure => simp [intOf]; omega
    · obtain rfl : M = j := by omega
      have hjI : ¬ (M : Int) < (M : Int) := by omega
      have hsz : w.heap.size ≤ wr.heap.size := WW.out.bl.size
      have hlt : gf < wr.heap.size ∧ gl < wr.heap.size ∧ gr < wr.heap.size := ⟨Blk.lt WW.out.f, Blk.lt WW.out.l, Blk.lt WW.out.r⟩
      go_wp2_with (at_make; refine wpList_make_row _ rfl (.tmp 64) (.tmp 64) 46 rfl 21 it (.int .i32 0) Try.underlying46 hi21 hz hs21 rfl .i64 .i64 N rfl rfl (by rw [hbb]; omega) (by omega) ?_)
      have X0 : Hid (I32 (wr.alloc (.cells (madeCells #[.int .i32 0] N) 21)) wr.heap.size N (fun _ => 0)) := Blk.made wr _ _ _
      have W0 : Hid (W3 w.heap.size A (st0 N I M) gf gl gr M first last (fun _ => 0) w (wr.alloc (.cells (madeCells #[.int .i32 0] N) 21))) := WW.out.more hsz _
      clear WW
      obtain ⟨gx, hgx⟩ : ∃ g, g = wr.heap.size := ⟨_, rfl⟩
      rw [← hgx] at X0 hlt hsz ⊢
      have n4 : gf ≠ gx := by omega
      have n5 : gl ≠ gx := by omega
      have n6 : gr ≠ gx := by omega
      generalize wr.alloc (.cells (madeCells #[.int .i32 0] N) 21) = w3 at *
      clear hgx hlt
      go_loopw [26] (fun v wr => ∃ (i : Nat) (next : Nat → Int), i ≤ N ∧ v = .int .i64 i ∧ W3 w.heap.size A (st0 N I M) gf gl gr M first last (fun _ => 0) w wr ∧ I32 wr gx N next ∧ ∀ k, k < i → next k = -1) (fun v _ => N - (intOf v).toNat)
      case atStart => exact ⟨0, _, by omega, rfl, W0.out, X0.out, fun k hk => by omega⟩
      case round =>
        clear W0 X0
        obtain ⟨i, next, hi, rfl, w3, xx, hf⟩ := hrel
        have WW : Hid (W3 w.heap.size A (st0 N I M) gf gl gr M first last (fun _ => 0) w wr) := w3
        have XX : Hid (I32 wr gx N next) := xx
        have HX : Hid (∀ k, k < i → next k = -1) := hf
        clear w3 hf xx
        by_cases hiN : i < N
        · have hiI : (i : Int) < (N : Int) := by omega
          have c1 := XX.out.cell hiN
          have f1 := XX.out.frozen i
          have WN : Hid (W3 w.heap.size A (st0 N I M) gf gl gr M first last (fun _ => 0) w (wr.setCell ⟨gx, i, none⟩ (.int .i32 (-1)))) := WW.out.setX XX.out n4 n5 n6 hsz i (-1)
          have XN : Hid (I32 (wr.setCell ⟨gx, i, none⟩ (.int .i32 (-1))) gx N (ch next i (-1))) := I32.put XX.out hiN
          go_wp2_with fail
          go_roundw
          case rel => exact ⟨i + 1, _, by omega, by go_num, WN.out, XN.out, fun k hk => by
            by_cases e : k = i
            · subst e; exact ch_at _ _ _
            · rw [ch_ne _ _ e]; exact HX.out k (by omega)⟩
          case measure => simp [intOf]; omega
        · obtain rfl : N = i := by omega
          have hiI : ¬ (N : Int) < (N : Int) := by omega
          have X1 : Hid (I32 wr gx N (fun _ => -1)) := Blk.congr XX.out (fun k hk => by rw [HX.out k hk])
          have L0 : Hid (Lists ho M [] first last (fun _ => -1)) := Lists.start _ _ _ _ _ HF.out (fun _ => rfl)
          clear XX HX HF
          go_wp2_with fail
          go_loopw [27] (fun v wr => ∃ (k : Nat) (first last rmx next : Nat → Int), k ≤ cnt ∧ v = .int .i64 k ∧ W3 w.heap.size A (st0 N I M) gf gl gr M first last rmx w wr ∧ I32 wr gx N next ∧ Lists ho M (seg f 0 k) first last next) (fun v _ => cnt - (intOf v).toNat)
          case atStart => exact ⟨0, first, last, _, _, by omega, rfl, WW.out, X1.out, L0.out⟩
          case round =>
            clear WW X1 L0
            obtain ⟨k, first, last, rmx, next, hk, rfl, w3, xx, ls⟩ := hrel
            have WW : Hid (W3 w.heap.size A (st0 N I M) gf gl gr M first last rmx w wr) := w3
            have XX : Hid (I32 wr gx N next) := xx
            have LS : Hid (Lists ho M (seg f 0 k) first last next) := ls
            clear w3 xx ls
            by_cases hkc : k < cnt
            · have hkI : (k : Int) < (cnt : Int) := by omega
              obtain ⟨hfN, hf0⟩ := FB.out k hkc
              have hsn : seg f 0 (k + 1) = seg f 0 k ++ [f k] := seg_snoc f (Nat.zero_le k)
              have hnin : f k ∉ seg f 0 k := fun hm => by
                have h1 := ND.out
                rw [seg_append f (Nat.zero_le (k + 1)) hkc, hsn] at h1
                have h2 := (List.nodup_append.1 h1).1
                have h3 := (List.nodup_append.1 h2).2.2 (f k) hm (f k) (by simp)
                exact h3 rfl
              have hndk : (seg f 0 k).Nodup := by
                have h1 := ND.out
                rw [seg_append f (Nat.zero_le k) (by omega : k ≤ cnt)] at h1
                exact (List.nodup_append.1 h1).1
              obtain ⟨j, hj⟩ : ∃ j : Nat, ho (f k) = (j : Int) := ⟨(ho (f k)).toNat, by omega⟩
              have hjM : j < M := by have := (PR.out.hoM (f k) hfN).2; omega
              have cx := below_cell WW.out.bl (Blk.cell IX.out hkc)
              have cj := below_cell WW.out.bl (CH.out (f k) hfN)
              rw [hj] at cj
              obtain ⟨x, hx⟩ : ∃ x, x = f k := ⟨_, rfl⟩
              rw [← hx] at hj hfN hf0 hsn hnin cx cj
              have HJ : Hid (ho x = (j : Int)) := hj
              have HSN : Hid (seg f 0 (k + 1) = seg f 0 k ++ [x]) := hsn
              have HNI : Hid (x ∉ seg f 0 k) := hnin
              have HND : Hid ((seg f 0 k).Nodup) := hndk
              clear hj hsn hnin hndk hx hf0
              have hxI : (x : Int) < (N : Int) := by omega
              have hjI : (j : Int) < (M : Int) := by omega
              have c1 := WW.out.f.cell hjM
              have c2 := WW.out.l.cell hjM
              have c3 := WW.out.r.cell hjM
              go_upto_if 92 with fail
              go_cut [] (fun wx => ∃ first next, W3 w.heap.size A (st0 N I M) gf gl gr M first last rmx w wx ∧ I32 wx gx N next ∧ Lists ho M (seg f 0 (k + 1)) first (ch last j x) next)
              case first =>
                by_cases he : cls ho (seg f 0 k) j = []
                · have h0 : first j = -1 := by
                    have := LS.out.first j hjM
                    rw [he] at this
                    exact this
                  have h0p : first j < 0 := by omega
                  have h0' : decide (first j < 0) = true := by rw [h0]; rfl
                  have f1 := WW.out.f.frozen j
                  have WN : Hid (W3 w.heap.size A (st0 N I M) gf gl gr M (ch first j x) last rmx w (wr.setCell ⟨gf, j, none⟩ (.int .i32 x))) := WW.out.setF (Ne.symm n1) (Ne.symm n2) bg.1 hjM x
                  have XN : Hid (I32 (wr.setCell ⟨gf, j, none⟩ (.int .i32 x)) gx N next) := XX.out.other (Ne.symm n4) _
                  have LN : Hid (Lists ho M (seg f 0 (k + 1)) (ch first j x) (ch last j x) next) := by
                    show Lists _ _ _ _ _ _
                    rw [HSN.out]; exact LS.out.new HJ.out HNI.out he
                  clear he h0
                  go_wp2_with fail
                  go_meet
                  exact ⟨_, _, WN.out, XN.out, LN.out⟩
                · obtain ⟨l, y, hly⟩ := last_of he
                  have hy := LS.out.last j hjM l y hly
                  have hyN : y < N := by
                    have h1 : y ∈ cls ho (seg f 0 k) j := by rw [hly]; simp
                    obtain ⟨z, _, hz, rfl⟩ := mem_seg.1 (mem_cls.1 h1).1
                    exact (FB.out z (by omega)).1
                  rw [hy] at c2
                  have h0 : ¬ first j < 0 := fun h => he ((LS.out.first j hjM).neg h)
                  have h0' : decide (first j < 0) = false := by simpa using h0
                  have hyI : (y : Int) < (N : Int) := by omega
                  have cy := XX.out.cell hyN
                  have fy := XX.out.frozen y
                  have WN : Hid (W3 w.heap.size A (st0 N I M) gf gl gr M first last rmx w (wr.setCell ⟨gx, y, none⟩ (.int .i32 x))) := WW.out.setX XX.out n4 n5 n6 hsz y x
                  have XN : Hid (I32 (wr.setCell ⟨gx, y, none⟩ (.int .i32 x)) gx N (ch next y x)) := I32.put XX.out hyN
                  have LN : Hid (Lists ho M (seg f 0 (k + 1)) first (ch last j x) (ch next y x)) := by
                    show Lists _ _ _ _ _ _
                    rw [HSN.out]; exact LS.out.more HJ.out HNI.out HND.out hly
                  clear he hly hy
                  go_wp2_with fail
                  go_meet
                  exact ⟨_, _, WN.out, XN.out, LN.out⟩
              case rest =>
                clear WW XX LS c1 c2 c3 cx cj
                obtain ⟨first, next, w3, xx, ls⟩ := hcut
                have W1 : Hid (W3 w.heap.size A (st0 N I M) gf gl gr M first (ch last j x) rmx w (wc.setCell ⟨gl, j, none⟩ (.int .i32 x))) := w3.setL n1 (Ne.symm n3) bg.2.1 hjM x
                have X1 : Hid (I32 (wc.setCell ⟨gl, j, none⟩ (.int .i32 x)) gx N next) := xx.other (Ne.symm n5) _
                have LS : Hid (Lists ho M (seg f 0 (k + 1)) first (ch last j x) next) := ls
                have W2 : Hid (W3 w.heap.size A (st0 N I M) gf gl gr M first (ch last j x) (ch rmx j (x + 1)) w ((wc.setCell ⟨gl, j, none⟩ (.int .i32 x)).setCell ⟨gr, j, none⟩ (.int .i32 (x + 1)))) := W1.out.setR n2 n3 bg.2.2 hjM (x + 1)
                have X2 : Hid (I32 ((wc.setCell ⟨gl, j, none⟩ (.int .i32 x)).setCell ⟨gr, j, none⟩ (.int .i32 (x + 1))) gx N next) := X1.out.other (Ne.symm n6) _
                have c2 := w3.l.cell hjM
                have f2 := w3.l.frozen j
                have c3 := w3.r.cell hjM
                have f3 := w3.r.frozen j
                clear w3 xx ls
                by_cases hr : rmx j < (x : Int) + 1
                · have hr' : decide (rmx j < (x : Int) + 1) = true := by simpa using hr
                  go_wp2_with fail
                  go_roundw
                  case rel => exact ⟨k + 1, _, _, _, _, by omega, by go_num, W2.out, X2.out, LS.out⟩
                  case measure => simp [intOf]; omega
                · have hr' : decide (rmx j < (x : Int) + 1) = false := by simpa using hr
                  go_wp2_with fail
                  go_roundw
                  case rel => exact ⟨k + 1, _, _, _, _, by omega, by go_num, W1.out, X1.out, LS.out⟩
                  case measure => simp [intOf]; omega
            · obtain rfl : cnt = k := by omega
              have hkI : ¬ (cnt : Int) < (cnt : Int) := by omega
              clear IX ND FB
              go_wp2_with fail
              go_loopw [30] (fun v wr => ∃ (i : Nat) (s : St), i ≤ N ∧ v = .int .i64 i ∧ W3 w.heap.size A s gf gl gr M first last rmx w wr ∧ I32 wr gx N next ∧ (s.N = N ∧ s.I = I ∧ s.M = M) ∧ ∀ k, k < i → s.F k = TX nums since ho n M next k) (fun v _ => N - (intOf v).toNat)
              case atStart => exact ⟨0, st0 N I M, by omega, rfl, WW.out, XX.out, ⟨rfl, rfl, rfl⟩, fun k hk => by omega⟩
              case round =>
                clear WW XX
                obtain ⟨i, s, hi, rfl, w3, xx, dm, hf⟩ := hrel
                have WW : Hid (W3 w.heap.size A s gf gl gr M first last rmx w wr) := w3
                have XX : Hid (I32 wr gx N next) := xx
                have HF : Hid (∀ k, k < i → s.F k = TX nums since ho n M next k) := hf
                have DM : Hid (s.N = N ∧ s.I = I ∧ s.M = M) := dm
                clear w3 hf xx dm
                by_cases hiN : i < N
                · have hiI : (i : Int) < (N : Int) := by omega
                  have c1 := below_cell WW.out.bl (CN.out i hiN)
                  have c2 := below_cell WW.out.bl (CS.out i hiN)
                  have c3 := below_cell WW.out.bl (CH.out i hiN)
                  have c4 := XX.out.cell hiN
                  obtain ⟨md, hmd⟩ : ∃ m, m = (if (i : Int) = n then (M : Int) - 1 else -1) := ⟨_, rfl⟩
                  obtain ⟨hsv, hhsv⟩ : ∃ m, m = (if 0 ≤ ho i then since i else 0) := ⟨_, rfl⟩
                  have HTX : Hid (TX nums since ho n M next i = txn (nums i) (phase ho n i) md hsv (next i)) := by show _ = _; unfold TX; rw [← hmd, ← hhsv]
                  have HMD : Hid (md = (if (i : Int) = n then (M : Int) - 1 else -1)) := hmd
                  have HHS : Hid (hsv = (if 0 ≤ ho i then since i else 0)) := hhsv
                  clear hmd hhsv
                  go_upto_if 133 with fail
                  go_cut [31] (fun v wx => v = .int .i32 md ∧ wx = wr)
                  case first =>
                    by_cases e : (i : Int) = n
                    · have e' : ((i : Int) == n) = true := by simpa using e
                      have hm := HMD.out
                      rw [if_pos e] at hm
                      go_wp2_with fail
                      go_meet
                      exact ⟨by rw [hm], rfl⟩
                    · have e' : ((i : Int) == n) = false := by simpa using e
                      have hm := HMD.out
                      rw [if_neg e] at hm
                      go_wp2_with fail
                      go_meet
                      exact ⟨by rw [hm], rfl⟩
                  case rest =>
                    obtain ⟨rfl, rfl⟩ := hcut
                    go_upto_if 141 with fail
                    go_cut [32] (fun v wx => v = .int .i32 hsv ∧ wx = wc)
                    case first =>
                      by_cases e : 0 ≤ ho i
                      · have e' : decide (0 ≤ ho i) = true := by simpa using e
                        have hm := HHS.out
                        rw [if_pos e] at hm
                        go_wp2_with fail
                        go_meet
                        exact ⟨by rw [hm], rfl⟩
                      · have e' : decide (0 ≤ ho i) = false := by simpa using e
                        have hm := HHS.out
                        rw [if_neg e] at hm
                        go_wp2_with fail
                        go_meet
                        exact ⟨by rw [hm], rfl⟩
                    case rest =>
                      obtain ⟨rfl, rfl⟩ := hcut
                      have WD : Hid (W3 w.heap.size A s gf gl gr M first last rmx w wc.drew) := WW.out.drew
                      have XD : Hid (I32 wc.drew gx N next) := XX.out
                      have hiS : i < s.N := by rw [DM.out.1]; exact hiN
                      clear HMD HHS
                      go_wp2_with fail
                      go_region_held3 (fun w' => w'.cell? ⟨bn, on + i, none⟩ = some (.int .i32 (nums i)) ∧ w'.cell? ⟨bh, oh + i, none⟩ = some (.int .i32 (ho i)) ∧ w'.cell? ⟨gx, i, none⟩ = some (.int .i32 (next i))) (go_keep)
                        (first | (go_at_call 30; refine (phaseBefore bh oh N hc i n ho _ hiN hN hn (by simp [*])).mono ?_; rintro e w' ⟨rfl, rfl⟩) | (go_at_call 43; refine (setTxn WD.out.mv i hiS (nums i) (phase ho n i) md hsv (next i)).mono ?_; rintro e w' ⟨rfl, hmv, hkp, hbl⟩; have WN : Hid (W3 w.heap.size A { s with F := upd s.F i (txn (nums i) (phase ho n i) md hsv (next i)) } gf gl gr M first last rmx w w') := WD.out.next hmv hkp (by decide) hbl; have XN : Hid (I32 w' gx N next) := XD.out.keep hkp (by decide); have z1 := below_cell WN.out.bl (CN.out i hiN); have z2 := below_cell WN.out.bl (CH.out i hiN); have z3 := XN.out.cell hiN; clear hmv hkp hbl))
                      go_wp2_with fail
                      go_roundw
                      case rel => exact ⟨i + 1, _, by omega, by go_num, WN.out, XN.out, DM.out, fun k hk => by
                        by_cases e : k = i
                        · subst e; rw [HTX.out]; exact funext fun y => upd_at _ _ _ _
                        · exact (funext fun y => upd_ne _ _ _ e).trans (HF.out k (by omega))⟩
                      case measure => simp [intOf]; omega
                · obtain rfl : N = i := by omega
                  have hiI : ¬ (N : Int) < (N : Int) := by omega
                  clear XX CN CS CH
                  go_wp2_with fail
                  go_loopw [33] (fun v wr => ∃ (x : Nat) (s : St), x ≤ I ∧ v = .int .i64 x ∧ W3 w.heap.size A s gf gl gr M first last rmx w wr ∧ (s.N = N ∧ s.I = I ∧ s.M = M) ∧ (∀ k, k < N → s.F k = TX nums since ho n M next k) ∧ ∀ y, y < x → s.nm y = names y ∧ s.Ln y = 1 ∧ s.vs y = v0) (fun v _ => I - (intOf v).toNat)
                  case atStart => exact ⟨0, s, by omega, rfl, WW.out, DM.out, HF.out, fun k hk => by omega⟩
                  case round =>
                    clear WW DM HF
                    obtain ⟨x, s, hx, rfl, w3, dm, hf, hv⟩ := hrel
                    have WW : Hid (W3 w.heap.size A s gf gl gr M first last rmx w wr) := w3
                    have HF : Hid (∀ k, k < N → s.F k = TX nums since ho n M next k) := hf
                    have DM : Hid (s.N = N ∧ s.I = I ∧ s.M = M) := dm
                    have HV : Hid (∀ y, y < x → s.nm y = names y ∧ s.Ln y = 1 ∧ s.vs y = v0) := hv
                    clear w3 hf dm hv
                    by_cases hxI : x < I
                    · have hxII : (x : Int) < (I : Int) := by omega
                      obtain ⟨b, o, rfl, hc⟩ := RN.out.1 (by omega)
                      have c1 := below_cell WW.out.bl (hc x hxI)
                      clear hc
                      have hxS : x < s.I := by rw [DM.out.2.1]; exact hxI
                      go_wp2_with fail
                      refine (setItem WW.out.mv x hxS (names x)).mono ?_
                      rintro e w' ⟨rfl, hmv, hkp, hbl⟩
                      have W1 : Hid (W3 w.heap.size A { s with nm := ch s.nm x (names x), Vv := ch s.Vv x (.slice none 0 0), Ln := ch s.Ln x 0, vs := ch s.vs x [] } gf gl gr M first last rmx w w') := WW.out.next hmv hkp (by decide) hbl
                      clear hmv hkp hbl
                      go_wp2_with fail
                      refine (addVersion W1.out.mv x hxS (by simp [ch]) 0 0 0 (-1) (-1)).mono ?_
                      rintro e w'' ⟨rfl, V, hmv, hkp, hbl⟩
                      have W2 : Hid (W3 w.heap.size A _ gf gl gr M first last rmx w w'') := W1.out.next hmv hkp (by decide) hbl
                      clear hmv hkp hbl
                      go_wp2_with fail
                      go_roundw
                      case rel => exact ⟨x + 1, _, by omega, by go_num, W2.out, DM.out, HF.out, fun y hy => by
                        by_cases e : y = x
                        · subst e; simp [ch, v0]
                        · have := HV.out y (by omega); simp only [ch, e, if_false]; exact this⟩
                      case measure => simp [intOf]; omega
                    · obtain rfl : I = x := by omega
                      have hxII : ¬ (I : Int) < (I : Int) := by omega
                      have HN1 : Hid (∀ y, y < I → s.nm y = names y) := fun y hy => (HV.out y hy).1
                      have HQ0 : Hid (∀ q, 0 ≤ q → q < M → s.Ln (mi (J rev M q)).toNat = 1 ∧ s.vs (mi (J rev M q)).toNat = v0) := fun q _ hq => (HV.out _ (by have := PR.out.mi0 _ (J_lt (rev := rev) hq); omega)).2
                      clear RN HV
                      go_wp2_with fail
                      go_loopw [34] (fun v wr => ∃ (p : Nat) (s : St), p ≤ M ∧ v = .int .i64 p ∧ W3 w.heap.size A s gf gl gr M first last rmx w wr ∧ (s.N = N ∧ s.I = I ∧ s.M = M) ∧ (∀ k, k < N → s.F k = TX nums since ho n M next k) ∧ (∀ y, y < I → s.nm y = names y) ∧ (∀ q : Nat, q < p → s.H q = three (mi (J rev M q)) 1 ((q : Int) - 1)) ∧
                        (∀ q, q < p → s.Ln (mi (J rev M q)).toNat = 2 ∧ s.vs (mi (J rev M q)).toNat = v0 ++ v1 n (rmx (J rev M q)) (first (J rev M q)) (last (J rev M q))) ∧ ∀ q, p ≤ q → q < M → s.Ln (mi (J rev M q)).toNat = 1 ∧ s.vs (mi (J rev M q)).toNat = v0) (fun v _ => M - (intOf v).toNat)
                      case atStart => exact ⟨0, s, by omega, rfl, WW.out, DM.out, HF.out, HN1.out, fun q hq => by omega, fun q hq => by omega, HQ0.out⟩
                      case round =>
                        clear WW DM HF HN1 HQ0
                        obtain ⟨p, s, hp, rfl, w3, dm, hf, hnm, hH, hv2, hv1⟩ := hrel
                        have WW : Hid (W3 w.heap.size A s gf gl gr M first last rmx w wr) := w3
                        have HF : Hid (∀ k, k < N → s.F k = TX nums since ho n M next k) := hf
                        have DM : Hid (s.N = N ∧ s.I = I ∧ s.M = M) := dm
                        have HNM : Hid (∀ y, y < I → s.nm y = names y) := hnm
                        have HH : Hid (∀ q : Nat, q < p → s.H q = three (mi (J rev M q)) 1 ((q : Int) - 1)) := hH
                        have HV2 : Hid (∀ q, q < p → s.Ln (mi (J rev M q)).toNat = 2 ∧ s.vs (mi (J rev M q)).toNat = v0 ++ v1 n (rmx (J rev M q)) (first (J rev M q)) (last (J rev M q))) := hv2
                        have HV1 : Hid (∀ q, p ≤ q → q < M → s.Ln (mi (J rev M q)).toNat = 1 ∧ s.vs (mi (J rev M q)).toNat = v0) := hv1
                        clear w3 hf dm hnm hH hv2 hv1
                        by_cases hpM : p < M
                        · have hpI : (p : Int) < (M : Int) := by omega
                          obtain ⟨j, hj⟩ : ∃ j, j = J rev M p := ⟨_, rfl⟩
                          have hjM : j < M := by rw [hj]; exact J_lt hpM
                          obtain ⟨x, hx⟩ : ∃ x : Nat, mi j = (x : Int) := ⟨(mi j).toNat, by have := (PR.out.mi0 j hjM).1; omega⟩
                          have hxI : x < I := by have := (PR.out.mi0 j hjM).2; omega
                          obtain ⟨b, o, rfl, hc⟩ := RM.out.1 (by omega)
                          have cm := below_cell WW.out.bl (hc j hjM)
                          rw [hx] at cm
                          clear hc
                          have HJ : Hid (j = J rev M p) := hj
                          have HX : Hid (mi j = (x : Int)) := hx
                          have hxS : x < s.I := by rw [DM.out.2.1]; exact hxI
                          have hpS : p < s.M := by rw [DM.out.2.2]; exact hpM
                          have HP1 : Hid (s.Ln x = 1 ∧ s.vs x = v0) := by
                            have := HV1.out p (Nat.le_refl _) hpM
                            rw [← hj, hx] at this
                            show _ ∧ _
                            simpa using this
                          have HNE : Hid (∀ q, q < M → q ≠ p → (mi (J rev M q)).toNat ≠ x) := fun q hq hne => by
                            have := mi_inj PR.out (rev := rev) hq hpM hne
                            rw [← hj, hx] at this
                            simpa using this
                          clear hj hx
                          have hjI : (j : Int) < (M : Int) := by omega
                          go_upto_if 184 with fail
                          go_cut [35] (fun v wx => v = .int .i64 (j : Nat) ∧ wx = wr)
                          case first =>
                            cases rev with
                            | true =>
                              go_wp2_with fail
                              go_meet
                              exact ⟨by have e : j = M - 1 - p := HJ.out; rw [e]; go_num, rfl⟩
                            | false =>
                              go_wp2_with fail
                              go_meet
                              exact ⟨by have e : j = p := HJ.out; rw [e], rfl⟩
                          case rest =>
                            obtain ⟨rfl, rfl⟩ := hcut
                            have WD : Hid (W3 w.heap.size A s gf gl gr M first last rmx w wc.drew) := WW.out.drew
                            have c1 := WW.out.f.cell hjM
                            have c2 := WW.out.l.cell hjM
                            have c3 := WW.out.r.cell hjM
                            have hx64 : IntKind.i64.wrap (x : Int) = (x : Int) := IntWalk.i64_in _ (by omega)
                            have hn1 : IntKind.i32.wrap (n + 1) = n + 1 := IntWalk.i32_in _ (by omega)
                            go_wp2_with fail
                            go_region_held3 (fun w' => w'.cell? ⟨gf, j, none⟩ = some (.int .i32 (first j)) ∧ w'.cell? ⟨gl, j, none⟩ = some (.int .i32 (last j)) ∧ w'.cell? ⟨gr, j, none⟩ = some (.int .i32 (rmx j))) (go_keep)
                              (first | (go_at_call 45; refine (addVersion WD.out.mv x hxS (by rw [HP1.out.1]; exact Nat.le_refl _) (n + 1) 1 (rmx j) (first j) (last j)).mono ?_; rintro e w' ⟨rfl, V, hmv, hkp, hbl⟩; have W1 : Hid (W3 w.heap.size A _ gf gl gr M first last rmx w w') := WD.out.next hmv hkp (by decide) hbl; have z1 := W1.out.f.cell hjM; have z2 := W1.out.l.cell hjM; have z3 := W1.out.r.cell hjM; clear hmv hkp hbl))
                            clear c1 c2 c3
                            go_wp2_with fail
                            refine (setMade W1.out.mv p hpS (x : Int) 1 ((p : Int) - 1)).mono ?_
                            rintro e w'' ⟨rfl, hmv, hkp, hbl⟩
                            have W2 : Hid (W3 w.heap.size A _ gf gl gr M first last rmx w w'') := W1.out.next hmv hkp (by decide) hbl
                            clear hmv hkp hbl
                            have HMI : Hid (mi (J rev M p) = (x : Int)) := by
                              show _ = _
                              rw [← HJ.out]; exact HX.out
                            go_wp2_with fail
                            go_roundw
                            case rel =>
                              refine ⟨p + 1, _, by omega, by go_num, W2.out, DM.out, HF.out, HNM.out, fun q hq => ?_, fun q hq => ?_, fun q h1 h2 => ?_⟩
                              · by_cases e : q = p
                                · subst e; rw [HMI.out]; exact funext fun y => upd_at _ _ _ _
                                · exact (funext fun y => upd_ne _ _ _ e).trans (HH.out q (by omega))
                              · by_cases e : q = p
                                · subst e
                                  rw [HMI.out, ← HJ.out, Int.toNat_natCast]
                                  refine ⟨?_, ?_⟩
                                  · show ch s.Ln x (s.Ln x + 1) x = 2
                                    rw [ch_at, HP1.out.1]
                                  · show ch s.vs x _ x = _
                                    rw [ch_at, HP1.out.2]; rfl
                                · have hne := HNE.out q (by omega) e
                                  have h3 := HV2.out q (by omega)
                                  refine ⟨?_, ?_⟩
                                  · show ch s.Ln x (s.Ln x + 1) _ = 2
                                    rw [ch_ne _ _ hne]; exact h3.1
                                  · show ch s.vs x _ _ = _
                                    rw [ch_ne _ _ hne]; exact h3.2
                              · have hne := HNE.out q h2 (by omega)
                                have h3 := HV1.out q (by omega) h2
                                refine ⟨?_, ?_⟩
                                · show ch s.Ln x (s.Ln x + 1) _ = 1
                                  rw [ch_ne _ _ hne]; exact h3.1
                                · show ch s.vs x _ _ = _
                                  rw [ch_ne _ _ hne]; exact h3.2
                            case measure => simp [intOf]; omega
                        · obtain rfl : M = p := by omega
                          have hpI : ¬ (M : Int) < (M : Int) := by omega
                          go_wp2_with fail
                          go_ret
                          exact ⟨A, rfl, ⟨s, first, last, next, rmx, WW.out.mv, DM.out, LS.out, HF.out, HNM.out, HH.out, HV2.out⟩, WW.out.bl⟩
end Go.Proofs.Qxb6613555a.Build
