import Derived.Test.Qxb6613555aPhase
import Derived.Deep.RegionHeld3
import Derived.Deep.RegionLaw
/- committedWriter, releaseHeld, releaseMade walked -/
namespace Go.Proofs.Qxb6613555a.Release
open Go.ChangeShapes Go.WideShapes Go.ChangeAt Go.RowKit Base Rec Set Chain Phase

set_option maxRecDepth 100000 in
set_option maxHeartbeats 2000000 in
theorem writer {B : Nat} {A : Adr} {s : St} {w : World} (h : MV B A s w) (i : Nat) (hi : i < s.N) (a p : Int) (ha : s.F i 0 = .int .i32 a) (hp : s.F i 1 = .int .u8 p) :
    Calls Try.prog 58 #[.pointer (some ⟨A.O, 0, none⟩), .int .i32 ((i : Int) + 1)] w fun e w' => (∃ b, e = .returned (.tuple #[.int .i32 a, .bool b])) ∧ w' = w.drew := by
  have hN := h.small.1
  have c0 := h.t.cell0 hi (by omega)
  have c1 := h.t.cell hi (k := 1) (by omega)
  rw [ha] at c0
  rw [hp] at c1
  have HM : Hid (MV B A s w) := h
  clear h
  have g : ((i : Int) + 1 == 0) = false := by simp; omega
  go_enter Try.func58, Try.ntmps58
  go_wp2_with fail
  refine (at48 A.O 3 A.T1 A.T s.N s.N i w hi HM.out.small.1 HM.out.c3 HM.out.d1).mono ?_
  rintro e w1 ⟨rfl, rfl⟩
  go_wp2_with fail
  go_region_held3 (fun w' => w'.cell? ⟨A.T, i * 5, none⟩ = some (.int .i32 a) ∧ w'.cell? ⟨A.T, i * 5 + 1, none⟩ = some (.int .u8 p)) (go_keep) (fail)
  go_wp2_with fail
  exact bodyPost_ret (v := .tuple #[.int .i32 a, .bool (p == 2)]) (by simp [results, Try.results58, go_sem]) rfl ⟨⟨_, rfl⟩, rfl⟩

/-- what a held read becomes: six cells -/
def rel (nums hs : Nat → Int) (nm : ByteArray) (wn : Int) (i : Nat) : List Value := [.int .i32 (hs i), .int .u8 0, .int .i32 (nums i), .string nm, .int .i32 wn, .bool true]
/-- the phases of l set to 0 -/
def freed (F : Nat → Nat → Value) (l : List Nat) : Nat → Nat → Value := fun i k => if k = 1 ∧ i ∈ l then .int .u8 0 else F i k
theorem freed_nil (F : Nat → Nat → Value) : freed F [] = F := by funext i k; simp [freed]
theorem freed_ne (F : Nat → Nat → Value) (l : List Nat) (i : Nat) {k : Nat} (h : k ≠ 1) : freed F l i k = F i k := by simp [freed, h]
theorem MV.setP {B : Nat} {A : Adr} {s : St} {w : World} (h : MV B A s w) {i : Nat} (hi : i < s.N) :
    MV B A { s with F := fun a b => if a = i ∧ b = 1 then .int .u8 0 else s.F a b } (w.setCell ⟨A.T, i * 5 + 1, none⟩ (.int .u8 0)) ∧ KeepT [91] w (w.setCell ⟨A.T, i * 5 + 1, none⟩ (.int .u8 0)) ∧ Below B w (w.setCell ⟨A.T, i * 5 + 1, none⟩ (.int .u8 0)) := by
  have r1 := Rec.set h.t hi (k := 1) (by omega) (.int .u8 0)
  have k := Rec.keepSet h.t (i * 5 + 1) (.int .u8 0)
  refine ⟨?_, k, (Below.refl B w).setCell (p := ⟨A.T, i * 5 + 1, none⟩) h.le.2.2.1 (.int .u8 0)⟩
  obtain ⟨Fo, o1, o2⟩ := h.o
  exact ⟨h.le, h.small, ⟨Fo, Blk.keep o1 k (by decide), o2⟩, Blk.keep h.t1 k (by decide), r1, Blk.keep h.i1 k (by decide), Rec.keep h.it k (by decide), Blk.keep h.m1 k (by decide), Rec.keep h.m k (by decide), fun x hx => k.owns (h.own x hx) (by decide), h.dis⟩
theorem freed_snoc (F : Nat → Nat → Value) (l : List Nat) (y : Nat) : (fun a b => if a = y ∧ b = 1 then .int .u8 0 else freed F l a b) = freed F (l ++ [y]) := by
  funext a b
  unfold freed
  by_cases h1 : a = y <;> by_cases h2 : b = 1 <;> simp [h1, h2]
def lenOf : Value → Nat
  | .slice _ n _ => n
  | _ => 0
theorem owns_len {w : World} {B : Nat} {e : TypeId} {s : Nat} {v : Value} {n : Nat} {xs : List Value} (ho : w.ownsRow B e s v n xs) : lenOf v = n := by
  rcases ho.2 with ⟨rfl, rfl⟩ | ⟨g, cap, cur, rfl, _⟩ <;> rfl

theorem step8 {B : Nat} {A : Adr} {s : St} {V w4 w1 : World} {L : List Nat} {u v : Value} {k k' im y : Nat} {ys zs : List Value} {a1 a2 a3 a4 a5 a6 : Value} {o : Obj} (MVV : MV B A { s with F := freed s.F L } V) (OWV : V.ownsRow B 179 6 u k ys) (KPV : KeepT [91, 179, 62] w1 V) (BLV : Below B w1 V)
    (HBK : V.heap[im]? = some (.cells #[a1, a2, a3, a4, a5] 62 (0, 0))) (hBV : B ≤ V.heap.size) (hyN : y < s.N) (y3 : s.F y 3 = a6) (hown : w4.ownsRow B 179 6 v k' zs) (hgrow : (V.alloc o).drew.grownBy w4 u.ownBlock) :
    Hid (w4.ownsRow B 179 6 v k' zs ∧ MV B A { s with F := freed s.F L } w4 ∧ KeepT [91, 179, 62] w1 w4 ∧ Below B w1 w4) ∧ w4.cell? ⟨A.T, y * 5 + 3, none⟩ = some a6 ∧ w4.cell? ⟨im, 0, none⟩ = some a1 ∧ w4.cell? ⟨im, 1, none⟩ = some a2 ∧ w4.cell? ⟨im, 2, none⟩ = some a3 ∧ w4.cell? ⟨im, 3, none⟩ = some a4 ∧ w4.cell? ⟨im, 4, none⟩ = some a5 := by
  have ho : (V.alloc o).drew.ownsRow B 179 6 u k ys := World.ownsRow.drew (owns_alloc OWV _)
  have hk4 : KeepT [179] V w4 := ((((KeepT.refl [] V).alloc o).drew).trans (keep_grown ho hgrow)).mono (by simp)
  have hb4 : Below B V w4 := (((Below.refl B V).alloc hBV o).drew).grown hgrow (by simp; omega) (own_le ho)
  have hb := hk4.block _ _ _ _ HBK (by decide)
  have mv := MVV.keep hk4 (by decide)
  refine ⟨⟨hown, mv, KPV.trans' (hk4.mono (by simp)), BLV.trans hb4⟩, ?_, ?_, ?_, ?_, ?_, ?_⟩
  · rw [← y3, ← freed_ne s.F L y (k := 3) (by omega)]; exact mv.t.cell hyN (by omega)
  all_goals rw [cell_of_row w4 im _ _ _ _ hb]; rfl

set_option maxRecDepth 100000 in
set_option maxHeartbeats 4000000 in
theorem held54 {B : Nat} {A : Adr} {s : St} {w : World} (h : MV B A s w) (x m r : Nat) (n wn ph rm fi la : Int) (nums hs next : Nat → Int) (l : List Nat) (R : Value) (xs : List Value) (hx : x < s.I) (hL : s.Ln x = 2) (hvs : s.vs x = v0 ++ v1 n rm fi la) (hn : n = (m : Int)) (hm : m < s.N)
    (h0 : s.F m 0 = .int .i32 wn) (h1 : s.F m 1 = .int .u8 ph) (hF : ∀ i, i ∈ l → i < s.N ∧ s.F i 0 = .int .i32 (nums i) ∧ s.F i 3 = .int .i32 (hs i) ∧ s.F i 4 = .int .i32 (next i)) (c : Chain next fi l) (ho : w.ownsRow B 179 6 R r xs) (hr : r + l.length ≤ 65536) :
    Calls Try.prog 54 #[.pointer (some ⟨A.O, 0, none⟩), R, .int .i32 (x : Int), .int .i32 1, .int .i32 fi] w fun e w' => ∃ R', e = .returned R' ∧ w'.ownsRow B 179 6 R' (r + l.length) (xs ++ l.flatMap (rel nums hs (s.nm x) wn)) ∧ MV B A { s with F := freed s.F l } w' ∧ KeepT [91, 179, 62] w w' ∧ Below B w w' := by
  have own := h.own x hx
  rw [hL, hvs] at own
  obtain ⟨gv, cap, hV, hgB, hgl⟩ := own.form (by omega)
  rw [hV] at own
  have hN := h.small.1
  have hI := h.small.2.1
  have ck : w.cell? ⟨gv, 5, none⟩ = some (.int .i32 ((m : Int) + 1)) := owns_cell own (by simp [v0, v1, hn])
  have cv : w.cell? ⟨A.It, x * 2 + 1, none⟩ = some (.slice (some ⟨gv, 0, none⟩) 2 cap) := by
    have := h.it.cell hx (k := 1) (by omega)
    rw [this]; simp [item, hV]
  have hBw : B ≤ w.heap.size := by have := h.le.2.2.2.2.1; have := h.it.lt; omega
  have HM : Hid (MV B A s w) := h
  have HF : Hid (∀ i, i ∈ l → i < s.N ∧ s.F i 0 = .int .i32 (nums i) ∧ s.F i 3 = .int .i32 (hs i) ∧ s.F i 4 = .int .i32 (next i)) := hF
  have HC : Hid (Chain next fi l) := c
  have HO : Hid (w.ownsRow B 179 6 R r xs) := ho
  have H0 : Hid (s.F m 0 = .int .i32 wn) := h0
  have H1 : Hid (s.F m 1 = .int .u8 ph) := h1
  clear h hF c ho h0 h1 own hvs hV hn
  obtain ⟨it, hi179, hz, hs179, hbb⟩ := row_some info179
  go_enter Try.func54, Try.ntmps54
  go_wp2_with fail
  refine (at52 A.O 6 A.I1 A.It s.I s.I x w hx hI HM.out.c6 HM.out.d2).mono ?_
  rintro e w1 ⟨rfl, rfl⟩
  go_wp2_with fail
  refine (writer HM.out m hm wn ph H0.out H1.out).mono ?_
  rintro e w2 ⟨⟨b, rfl⟩, rfl⟩
  have MD : Hid (MV B A s w1.drew) := HM.out.keep (KeepT.refl [] _).drew (by decide)
  have OD : Hid (w1.drew.ownsRow B 179 6 R r xs) := World.ownsRow.drew HO.out
  have KD : Hid (KeepT [91, 179, 62] w1 w1.drew) := (KeepT.refl _ _).drew
  have BD : Hid (Below B w1 w1.drew) := (Below.refl _ _).drew
  clear HO ck cv
  generalize w1.drew = w2 at *
  go_wp2_with fail
  go_loopw [1, 14] (fun rv v wr => ∃ (l1 l2 : List Nat) (hd : Int), l = l1 ++ l2 ∧ v = .int .i32 hd ∧ Chain next hd l2 ∧ wr.ownsRow B 179 6 rv (r + l1.length) (xs ++ l1.flatMap (rel nums hs (s.nm x) wn)) ∧ MV B A { s with F := freed s.F l1 } wr ∧ KeepT [91, 179, 62] w1 wr ∧ Below B w1 wr) (fun rv _ _ => r + l.length - lenOf rv)
  case atStart => exact ⟨[], l, fi, rfl, rfl, HC.out, by simpa using OD.out, by rw [freed_nil]; exact MD.out, KD.out, BD.out⟩
  case round =>
    clear MD OD KD BD HC
    obtain ⟨l1, l2, hd, hl, rfl, ch0, ow, mv, kp, bl⟩ := hrel
    have hlen := owns_len ow
    have OW : Hid (wr.ownsRow B 179 6 u1 (r + l1.length) (xs ++ l1.flatMap (rel nums hs (s.nm x) wn))) := ow
    have MV1 : Hid (MV B A { s with F := freed s.F l1 } wr) := mv
    have KP : Hid (KeepT [91, 179, 62] w1 wr) := kp
    have BL : Hid (Below B w1 wr) := bl
    clear ow mv kp bl
    cases l2 with
    | nil =>
      obtain rfl : hd = -1 := ch0
      obtain rfl : l = l1 := by simpa using hl
      go_wp2_with fail
      go_ret
      exact ⟨u1, rfl, OW.out, MV1.out, KP.out, BL.out⟩
    | cons y l3 =>
      obtain ⟨rfl, ch1⟩ := ch0
      obtain ⟨hyN, y0, y3, y4⟩ := HF.out y (by rw [hl]; simp)
      have CH1 : Hid (Chain next (next y) l3) := ch1
      have HL : Hid (l = (l1 ++ [y]) ++ l3) := by show _ = _; rw [hl]; simp
      have hll : r + l1.length + 1 ≤ r + l.length := by rw [hl]; simp; omega
      clear ch1 hl
      have c1 := MV1.out.t.cell hyN (k := 1) (by omega)
      have f1 := MV1.out.t.frozen (y * 5 + 1)
      have hyI : (y : Int) < (s.N : Int) := by omega
      have MVP : Hid (MV B A { s with F := freed s.F (l1 ++ [y]) } (wr.setCell ⟨A.T, y * 5 + 1, none⟩ (.int .u8 0))) := by
        have := (MV.setP MV1.out (i := y) hyN).1
        simp only [freed_snoc] at this
        exact this
      have OWP : Hid ((wr.setCell ⟨A.T, y * 5 + 1, none⟩ (.int .u8 0)).ownsRow B 179 6 u1 (r + l1.length) (xs ++ l1.flatMap (rel nums hs (s.nm x) wn))) := (MV.setP MV1.out (i := y) hyN).2.1.owns OW.out (by decide)
      have KPP : Hid (KeepT [91, 179, 62] w1 (wr.setCell ⟨A.T, y * 5 + 1, none⟩ (.int .u8 0))) := KP.out.trans' ((MV.setP MV1.out (i := y) hyN).2.1.mono (by simp))
      have BLP : Hid (Below B w1 (wr.setCell ⟨A.T, y * 5 + 1, none⟩ (.int .u8 0))) := BL.out.trans (MV.setP MV1.out (i := y) hyN).2.2
      go_wp2_with fail
      refine (at48 A.O 3 A.T1 A.T s.N s.N y wr hyN hN MV1.out.c3 MV1.out.d1).mono ?_
      rintro e w3 ⟨rfl, rfl⟩
      clear OW KP BL
      go_wp2_with fail
      clear MV1 c1 f1
      generalize w3.setCell ⟨A.T, y * 5 + 1, none⟩ (.int .u8 0) = W at *
      have a0 : W.cell? ⟨A.T, y * 5, none⟩ = some (.int .i32 (nums y)) := by
        rw [← y0, ← freed_ne s.F (l1 ++ [y]) y (k := 0) (by omega)]; exact MVP.out.t.cell0 hyN (by omega)
      have b0 : W.cell? ⟨A.It, x * 2, none⟩ = some (.string (s.nm x)) := MVP.out.it.cell0 hx (by omega)
      have q0 := World.new_ne W _ a0
      have q1 := World.new_ne W _ b0
      have hBW : B ≤ W.heap.size := by have := BLP.out.size; omega
      go_wp2_with fail
      go_region_held3 (fun w' => w'.cell? ⟨A.T, y * 5, none⟩ = some (.int .i32 (nums y)) ∧ w'.cell? ⟨A.It, x * 2, none⟩ = some (.string (s.nm x))) (go_keep) (fail)
      have HBK : Hid ((W.alloc (.cells #[.int .u8 0, .int .i32 (nums y), .string (s.nm x), .int .i32 wn, .bool true] 62)).drew.heap[W.heap.size]? = some (.cells #[.int .u8 0, .int .i32 (nums y), .string (s.nm x), .int .i32 wn, .bool true] 62 (0, 0))) := heap_alloc_new W _
      have KV : Hid (KeepT [] W (W.alloc (.cells #[.int .u8 0, .int .i32 (nums y), .string (s.nm x), .int .i32 wn, .bool true] 62)).drew) := ((KeepT.refl [] W).alloc _).drew
      have BV : Hid (Below B W (W.alloc (.cells #[.int .u8 0, .int .i32 (nums y), .string (s.nm x), .int .i32 wn, .bool true] 62)).drew) := ((Below.refl B W).alloc hBW _).drew
      rename_i hHeld
      clear a0 b0 q0 q1 hHeld
      generalize (W.alloc (.cells #[.int .u8 0, .int .i32 (nums y), .string (s.nm x), .int .i32 wn, .bool true] 62)).drew = V at *
      generalize W.heap.size = im at *
      have MVV : Hid (MV B A { s with F := freed s.F (l1 ++ [y]) } V) := MVP.out.keep KV.out (by decide)
      have OWV : Hid (V.ownsRow B 179 6 u1 (r + l1.length) (xs ++ l1.flatMap (rel nums hs (s.nm x) wn))) := KV.out.owns OWP.out (by decide)
      have KPV : Hid (KeepT [91, 179, 62] w1 V) := KPP.out.trans' (KV.out.mono (by simp))
      have BLV : Hid (Below B w1 V) := BLP.out.trans BV.out
      have hBV : B ≤ V.heap.size := by have := BLV.out.size; omega
      clear MVP OWP KPP BLP KV BV hBW
      have a3 : V.cell? ⟨A.T, y * 5 + 3, none⟩ = some (.int .i32 (hs y)) := by
        rw [← y3, ← freed_ne s.F (l1 ++ [y]) y (k := 3) (by omega)]; exact MVV.out.t.cell hyN (by omega)
      have i0 : V.cell? ⟨im, 0, none⟩ = some (.int .u8 0) := by rw [cell_of_row V im 0 _ _ _ HBK.out]; rfl
      have i1 : V.cell? ⟨im, 1, none⟩ = some (.int .i32 (nums y)) := by rw [cell_of_row V im 1 _ _ _ HBK.out]; rfl
      have i2 : V.cell? ⟨im, 2, none⟩ = some (.string (s.nm x)) := by rw [cell_of_row V im 2 _ _ _ HBK.out]; rfl
      have i3 : V.cell? ⟨im, 3, none⟩ = some (.int .i32 wn) := by rw [cell_of_row V im 3 _ _ _ HBK.out]; rfl
      have i4 : V.cell? ⟨im, 4, none⟩ = some (.bool true) := by rw [cell_of_row V im 4 _ _ _ HBK.out]; rfl
      have q0 := World.new_ne V _ a3
      have q1 := World.new_ne V _ i0
      go_wp2_with fail
      go_region_held3 (fun w' => w'.cell? ⟨A.T, y * 5 + 3, none⟩ = some (.int .i32 (hs y)) ∧ w'.cell? ⟨im, 0, none⟩ = some (.int .u8 0) ∧ w'.cell? ⟨im, 1, none⟩ = some (.int .i32 (nums y)) ∧ w'.cell? ⟨im, 2, none⟩ = some (.string (s.nm x)) ∧ w'.cell? ⟨im, 3, none⟩ = some (.int .i32 wn) ∧ w'.cell? ⟨im, 4, none⟩ = some (.bool true)) (go_keep)
        (first | (refine step_append_lies _ (by rfl) _ _ _ (by rfl) B 179 it _ 6 40 Try.underlying165 hi179 hz hs179 hbb rfl (by omega) u1 (r + l1.length) (xs ++ l1.flatMap (rel nums hs (s.nm x) wn)) (by rfl) (World.ownsRow.drew (owns_alloc OWV.out _)) ⟨V.heap.size, 0, none⟩ 1 1 [.int .i32 (hs y), .int .u8 0, .int .i32 (nums y), .string (s.nm x), .int .i32 wn, .bool true] (by rfl) (by rfl) (World.news_of_block (cs := #[.int .i32 (hs y), .int .u8 0, .int .i32 (nums y), .string (s.nm x), .int .i32 wn, .bool true]) (t := 179) (fr := (0, 0)) (heap_alloc_new V _)) (by simp [Value.oneCell']) (by omega) (by unfold maxLen; omega) (by omega) (by simp; omega) (V.heap.size + 1) (by simp) ?_; intro g cap2 w4 hown hgrow hat hlt; obtain ⟨H4, z3, j0, j1, j2, j3, j4⟩ := step8 MVV.out OWV.out KPV.out BLV.out HBK.out hBV hyN y3 hown hgrow; clear hown hgrow hat))
      clear a3 i0 i1 i2 i3 i4 q0 q1 j0 j1 j2 j3 j4 z3
      have a4 : w4.cell? ⟨A.T, y * 5 + 4, none⟩ = some (.int .i32 (next y)) := by
        rw [← y4, ← freed_ne s.F (l1 ++ [y]) y (k := 4) (by omega)]; exact H4.out.2.1.t.cell hyN (by omega)
      go_wp2_with fail
      go_roundw
      case rel => exact ⟨l1 ++ [y], l3, next y, HL.out, rfl, CH1.out, by
        have := H4.out.1
        simp only [List.length_append, List.length_singleton, List.flatMap_append, List.flatMap_singleton, ← Nat.add_assoc, ← List.append_assoc]
        exact this, H4.out.2.1, H4.out.2.2.1, H4.out.2.2.2⟩
      case measure =>
        show r + l.length - (r + l1.length + 1) < r + l.length - lenOf u1
        rw [hlen]; omega
end Go.Proofs.Qxb6613555a.Release
