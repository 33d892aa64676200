import Derived.Test.Qxb6613555aRec
/- the state as it lies in memory; its setters -/
namespace Go.Proofs.Qxb6613555a.Set
open Go.ChangeShapes Go.WideShapes Go.ChangeAt Go.RowKit Base Rec

theorem quo0 {i : Nat} (h : i < 65536) : (i : Int).tdiv 65536 = 0 := by
  rw [Int.tdiv_eq_ediv_of_nonneg (by omega)]; omega
theorem rem0 {i : Nat} (h : i < 65536) : (i : Int).tmod 65536 = i := by
  rw [Int.tmod_eq_emod_of_nonneg (by omega)]; omega

set_option maxRecDepth 100000 in
set_option maxHeartbeats 2000000 in
theorem at48 (b o T1 T N c i : Nat) (w : World) (hi : i < N) (hN : N ≤ 65536) (h1 : w.cell? ⟨b, o, none⟩ = some (.slice (some ⟨T1, 0, none⟩) 1 1)) (h2 : w.cell? ⟨T1, 0, none⟩ = some (.slice (some ⟨T, 0, none⟩) N c)) :
    Calls Try.prog 48 #[.pointer (some ⟨b, o, none⟩), .int .i64 i] w fun e w' => e = .returned (.pointer (some ⟨T, i * 5, none⟩)) ∧ w' = w := by
  have q := quo0 (i := i) (by omega)
  have r := rem0 (i := i) (by omega)
  have hiI : (i : Int) < (N : Int) := by omega
  go_enter Try.func48, Try.ntmps48
  go_wp2_with fail
  go_ret
  exact ⟨rfl, rfl⟩
set_option maxRecDepth 100000 in
set_option maxHeartbeats 2000000 in
theorem at52 (b o T1 T N c i : Nat) (w : World) (hi : i < N) (hN : N ≤ 65536) (h1 : w.cell? ⟨b, o, none⟩ = some (.slice (some ⟨T1, 0, none⟩) 1 1)) (h2 : w.cell? ⟨T1, 0, none⟩ = some (.slice (some ⟨T, 0, none⟩) N c)) :
    Calls Try.prog 52 #[.pointer (some ⟨b, o, none⟩), .int .i64 i] w fun e w' => e = .returned (.pointer (some ⟨T, i * 2, none⟩)) ∧ w' = w := by
  have q := quo0 (i := i) (by omega)
  have r := rem0 (i := i) (by omega)
  have hiI : (i : Int) < (N : Int) := by omega
  go_enter Try.func52, Try.ntmps52
  go_wp2_with fail
  go_ret
  exact ⟨rfl, rfl⟩
set_option maxRecDepth 100000 in
set_option maxHeartbeats 2000000 in
theorem at53 (b o T1 T N c i : Nat) (w : World) (hi : i < N) (hN : N ≤ 65536) (h1 : w.cell? ⟨b, o, none⟩ = some (.slice (some ⟨T1, 0, none⟩) 1 1)) (h2 : w.cell? ⟨T1, 0, none⟩ = some (.slice (some ⟨T, 0, none⟩) N c)) :
    Calls Try.prog 53 #[.pointer (some ⟨b, o, none⟩), .int .i64 i] w fun e w' => e = .returned (.pointer (some ⟨T, i * 3, none⟩)) ∧ w' = w := by
  have q := quo0 (i := i) (by omega)
  have r := rem0 (i := i) (by omega)
  have hiI : (i : Int) < (N : Int) := by omega
  go_enter Try.func53, Try.ntmps53
  go_wp2_with fail
  go_ret
  exact ⟨rfl, rfl⟩

/-- where the state lies -/
structure Adr where
  O : Nat
  T1 : Nat
  T : Nat
  I1 : Nat
  It : Nat
  M1 : Nat
  Mt : Nat
/-- what it holds -/
structure St where
  N : Nat
  I : Nat
  M : Nat
  F : Nat → Nat → Value
  nm : Nat → ByteArray
  Vv : Nat → Value
  Ln : Nat → Nat
  vs : Nat → List Value
  H : Nat → Nat → Value
/-- an item's two cells -/
def item (nm : Nat → ByteArray) (Vv : Nat → Value) (x : Nat) : Nat → Value
  | 0 => .string (nm x)
  | _ => Vv x
structure MV (B : Nat) (A : Adr) (s : St) (w : World) : Prop where
  le : B ≤ A.O ∧ B ≤ A.T1 ∧ B ≤ A.T ∧ B ≤ A.I1 ∧ B ≤ A.It ∧ B ≤ A.M1 ∧ B ≤ A.Mt
  small : s.N ≤ 65536 ∧ s.I ≤ 65536 ∧ s.M ≤ 65536
  o : ∃ Fo : Nat → Value, Blk w A.O 108 11 Fo ∧ Fo 3 = .slice (some ⟨A.T1, 0, none⟩) 1 1 ∧ Fo 6 = .slice (some ⟨A.I1, 0, none⟩) 1 1 ∧ Fo 8 = .slice (some ⟨A.M1, 0, none⟩) 1 1
  t1 : Blk w A.T1 148 1 (fun _ => .slice (some ⟨A.T, 0, none⟩) s.N s.N)
  t : Rec w A.T 91 s.N 5 s.F
  i1 : Blk w A.I1 149 1 (fun _ => .slice (some ⟨A.It, 0, none⟩) s.I s.I)
  it : Rec w A.It 154 s.I 2 (item s.nm s.Vv)
  m1 : Blk w A.M1 150 1 (fun _ => .slice (some ⟨A.Mt, 0, none⟩) s.M s.M)
  m : Rec w A.Mt 162 s.M 3 s.H
  own : ∀ x, x < s.I → w.ownsRow B 160 5 (s.Vv x) (s.Ln x) (s.vs x)
  dis : ∀ x y k, x < s.I → y < s.I → x ≠ y → (s.Vv x).ownBlock = some k → (s.Vv y).ownBlock ≠ some k

variable {B : Nat} {A : Adr} {s : St} {w w' : World}
theorem MV.keep {ts : List TypeId} (h : MV B A s w) (k : KeepT ts w w') (ht : ∀ t ∈ [108, 148, 91, 149, 154, 150, 162, 160], t ∉ ts) : MV B A s w' := by
  obtain ⟨Fo, o1, o2⟩ := h.o
  exact ⟨h.le, h.small, ⟨Fo, Blk.keep o1 k (ht _ (by simp)), o2⟩, Blk.keep h.t1 k (ht _ (by simp)), Rec.keep h.t k (ht _ (by simp)), Blk.keep h.i1 k (ht _ (by simp)), Rec.keep h.it k (ht _ (by simp)), Blk.keep h.m1 k (ht _ (by simp)), Rec.keep h.m k (ht _ (by simp)), fun x hx => k.owns (h.own x hx) (ht _ (by simp)), h.dis⟩
theorem MV.c3 (h : MV B A s w) : w.cell? ⟨A.O, 3, none⟩ = some (.slice (some ⟨A.T1, 0, none⟩) 1 1) := by
  obtain ⟨Fo, o1, o2, o3, o4⟩ := h.o
  rw [← o2]; exact Blk.cell o1 (by omega)
theorem MV.c6 (h : MV B A s w) : w.cell? ⟨A.O, 6, none⟩ = some (.slice (some ⟨A.I1, 0, none⟩) 1 1) := by
  obtain ⟨Fo, o1, o2, o3, o4⟩ := h.o
  rw [← o3]; exact Blk.cell o1 (by omega)
theorem MV.c8 (h : MV B A s w) : w.cell? ⟨A.O, 8, none⟩ = some (.slice (some ⟨A.M1, 0, none⟩) 1 1) := by
  obtain ⟨Fo, o1, o2, o3, o4⟩ := h.o
  rw [← o4]; exact Blk.cell o1 (by omega)
theorem MV.d1 (h : MV B A s w) : w.cell? ⟨A.T1, 0, none⟩ = some (.slice (some ⟨A.T, 0, none⟩) s.N s.N) := Blk.cell h.t1 (by omega)
theorem MV.d2 (h : MV B A s w) : w.cell? ⟨A.I1, 0, none⟩ = some (.slice (some ⟨A.It, 0, none⟩) s.I s.I) := Blk.cell h.i1 (by omega)
theorem MV.d3 (h : MV B A s w) : w.cell? ⟨A.M1, 0, none⟩ = some (.slice (some ⟨A.Mt, 0, none⟩) s.M s.M) := Blk.cell h.m1 (by omega)

/-- the five cells of a txn -/
def txn (a : Int) (p : Int) (b c d : Int) : Nat → Value
  | 0 => .int .i32 a
  | 1 => .int .u8 p
  | 2 => .int .i32 b
  | 3 => .int .i32 c
  | _ => .int .i32 d
/-- three numbers -/
def three (a b c : Int) : Nat → Value
  | 0 => .int .i32 a
  | 1 => .int .i32 b
  | _ => .int .i32 c

theorem MV.setT (h : MV B A s w) {i : Nat} (hi : i < s.N) (v0 v1 v2 v3 v4 : Value) (v : Nat → Value) (hv : v 0 = v0 ∧ v 1 = v1 ∧ v 2 = v2 ∧ v 3 = v3 ∧ v 4 = v4) :
    MV B A { s with F := upd s.F i v } (((((w.setCell ⟨A.T, i * 5, none⟩ v0).setCell ⟨A.T, i * 5 + 1, none⟩ v1).setCell ⟨A.T, i * 5 + 2, none⟩ v2).setCell ⟨A.T, i * 5 + 3, none⟩ v3).setCell ⟨A.T, i * 5 + 4, none⟩ v4) ∧
    KeepT [91] w (((((w.setCell ⟨A.T, i * 5, none⟩ v0).setCell ⟨A.T, i * 5 + 1, none⟩ v1).setCell ⟨A.T, i * 5 + 2, none⟩ v2).setCell ⟨A.T, i * 5 + 3, none⟩ v3).setCell ⟨A.T, i * 5 + 4, none⟩ v4) ∧
    Below B w (((((w.setCell ⟨A.T, i * 5, none⟩ v0).setCell ⟨A.T, i * 5 + 1, none⟩ v1).setCell ⟨A.T, i * 5 + 2, none⟩ v2).setCell ⟨A.T, i * 5 + 3, none⟩ v3).setCell ⟨A.T, i * 5 + 4, none⟩ v4) := by
  have r0 := Rec.set0 h.t hi (by omega) v0
  have r1 := Rec.set r0 hi (k := 1) (by omega) v1
  have r2 := Rec.set r1 hi (k := 2) (by omega) v2
  have r3 := Rec.set r2 hi (k := 3) (by omega) v3
  have r4 := Rec.set r3 hi (k := 4) (by omega) v4
  have k := ((((Rec.keepSet h.t (i * 5) v0).trans' (Rec.keepSet r0 (i * 5 + 1) v1)).trans' (Rec.keepSet r1 (i * 5 + 2) v2)).trans' (Rec.keepSet r2 (i * 5 + 3) v3)).trans' (Rec.keepSet r3 (i * 5 + 4) v4)
  have bl : Below B w _ := (((((Below.refl B w).setCell (p := ⟨A.T, i * 5, none⟩) h.le.2.2.1 v0).setCell (p := ⟨A.T, i * 5 + 1, none⟩) h.le.2.2.1 v1).setCell (p := ⟨A.T, i * 5 + 2, none⟩) h.le.2.2.1 v2).setCell (p := ⟨A.T, i * 5 + 3, none⟩) h.le.2.2.1 v3).setCell (p := ⟨A.T, i * 5 + 4, none⟩) h.le.2.2.1 v4
  refine ⟨?_, k, bl⟩
  obtain ⟨Fo, o1, o2⟩ := h.o
  refine ⟨h.le, h.small, ⟨Fo, Blk.keep o1 k (by decide), o2⟩, Blk.keep h.t1 k (by decide), Rec.congr r4 ?_ (by omega), Blk.keep h.i1 k (by decide), Rec.keep h.it k (by decide), Blk.keep h.m1 k (by decide), Rec.keep h.m k (by decide), fun x hx => k.owns (h.own x hx) (by decide), h.dis⟩
  intro x y hx hy
  unfold upd
  by_cases e : x = i
  · subst e
    match y, hy with
    | 0, _ => simp [hv.1]
    | 1, _ => simp [hv.2.1]
    | 2, _ => simp [hv.2.2.1]
    | 3, _ => simp [hv.2.2.2.1]
    | 4, _ => simp [hv.2.2.2.2]
  · simp [e]
theorem MV.setM (h : MV B A s w) {i : Nat} (hi : i < s.M) (v0 v1 v2 : Value) (v : Nat → Value) (hv : v 0 = v0 ∧ v 1 = v1 ∧ v 2 = v2) :
    MV B A { s with H := upd s.H i v } (((w.setCell ⟨A.Mt, i * 3, none⟩ v0).setCell ⟨A.Mt, i * 3 + 1, none⟩ v1).setCell ⟨A.Mt, i * 3 + 2, none⟩ v2) ∧
    KeepT [162] w (((w.setCell ⟨A.Mt, i * 3, none⟩ v0).setCell ⟨A.Mt, i * 3 + 1, none⟩ v1).setCell ⟨A.Mt, i * 3 + 2, none⟩ v2) ∧
    Below B w (((w.setCell ⟨A.Mt, i * 3, none⟩ v0).setCell ⟨A.Mt, i * 3 + 1, none⟩ v1).setCell ⟨A.Mt, i * 3 + 2, none⟩ v2) := by
  have r0 := Rec.set0 h.m hi (by omega) v0
  have r1 := Rec.set r0 hi (k := 1) (by omega) v1
  have r2 := Rec.set r1 hi (k := 2) (by omega) v2
  have k := ((Rec.keepSet h.m (i * 3) v0).trans' (Rec.keepSet r0 (i * 3 + 1) v1)).trans' (Rec.keepSet r1 (i * 3 + 2) v2)
  have bl : Below B w _ := (((Below.refl B w).setCell (p := ⟨A.Mt, i * 3, none⟩) h.le.2.2.2.2.2.2 v0).setCell (p := ⟨A.Mt, i * 3 + 1, none⟩) h.le.2.2.2.2.2.2 v1).setCell (p := ⟨A.Mt, i * 3 + 2, none⟩) h.le.2.2.2.2.2.2 v2
  refine ⟨?_, k, bl⟩
  obtain ⟨Fo, o1, o2⟩ := h.o
  refine ⟨h.le, h.small, ⟨Fo, Blk.keep o1 k (by decide), o2⟩, Blk.keep h.t1 k (by decide), Rec.keep h.t k (by decide), Blk.keep h.i1 k (by decide), Rec.keep h.it k (by decide), Blk.keep h.m1 k (by decide), Rec.congr r2 ?_ (by omega), fun x hx => k.owns (h.own x hx) (by decide), h.dis⟩
  intro x y hx hy
  unfold upd
  by_cases e : x = i
  · subst e
    match y, hy with
    | 0, _ => simp [hv.1]
    | 1, _ => simp [hv.2.1]
    | 2, _ => simp [hv.2.2]
  · simp [e]
/-- one value put in -/
def ch {α : Type} (f : Nat → α) (i : Nat) (v : α) : Nat → α := fun x => if x = i then v else f x
theorem MV.setI (h : MV B A s w) {i : Nat} (hi : i < s.I) (P : ByteArray) :
    MV B A { s with nm := ch s.nm i P, Vv := ch s.Vv i (.slice none 0 0), Ln := ch s.Ln i 0, vs := ch s.vs i [] } ((w.setCell ⟨A.It, i * 2, none⟩ (.string P)).setCell ⟨A.It, i * 2 + 1, none⟩ (.slice none 0 0)) ∧
    KeepT [154] w ((w.setCell ⟨A.It, i * 2, none⟩ (.string P)).setCell ⟨A.It, i * 2 + 1, none⟩ (.slice none 0 0)) ∧
    Below B w ((w.setCell ⟨A.It, i * 2, none⟩ (.string P)).setCell ⟨A.It, i * 2 + 1, none⟩ (.slice none 0 0)) := by
  have r0 := Rec.set0 h.it hi (by omega) (.string P)
  have r1 := Rec.set r0 hi (k := 1) (by omega) (.slice none 0 0)
  have k := (Rec.keepSet h.it (i * 2) (.string P)).trans' (Rec.keepSet r0 (i * 2 + 1) (.slice none 0 0))
  have bl : Below B w _ := ((Below.refl B w).setCell (p := ⟨A.It, i * 2, none⟩) h.le.2.2.2.2.1 (.string P)).setCell (p := ⟨A.It, i * 2 + 1, none⟩) h.le.2.2.2.2.1 (.slice none 0 0)
  refine ⟨?_, k, bl⟩
  obtain ⟨Fo, o1, o2⟩ := h.o
  refine ⟨h.le, h.small, ⟨Fo, Blk.keep o1 k (by decide), o2⟩, Blk.keep h.t1 k (by decide), Rec.keep h.t k (by decide), Blk.keep h.i1 k (by decide), Rec.congr r1 ?_ (by omega), Blk.keep h.m1 k (by decide), Rec.keep h.m k (by decide), ?_, ?_⟩
  · intro x y hx hy
    by_cases e : x = i
    · subst e
      match y, hy with
      | 0, _ => simp [item, ch]
      | 1, _ => simp [item, ch]
    · match y, hy with
      | 0, _ => simp [e, item, ch]
      | 1, _ => simp [e, item, ch]
  · intro x hx
    by_cases e : x = i
    · subst e; simp only [ch, if_true]; exact World.ownsRow_nil _ _ _ _
    · simp only [ch, e, if_false]; exact k.owns (h.own x hx) (by decide)
  · intro x y k' hx hy hne
    by_cases e : x = i
    · simp [ch, e, Value.ownBlock]
    · by_cases e2 : y = i
      · simp [ch, e2, Value.ownBlock]
      · simp only [ch, e, e2, if_false]; exact h.dis x y k' hx hy hne

set_option maxRecDepth 100000 in
set_option maxHeartbeats 2000000 in
theorem setTxn (h : MV B A s w) (i : Nat) (hi : i < s.N) (a p b c d : Int) :
    Calls Try.prog 43 #[.pointer (some ⟨A.O, 0, none⟩), .int .i64 i, .int .i32 a, .int .u8 p, .int .i32 b, .int .i32 c, .int .i32 d] w fun e w' => e = .returned (.tuple #[]) ∧ MV B A { s with F := upd s.F i (txn a p b c d) } w' ∧ KeepT [91] w w' ∧ Below B w w' := by
  have HP : Hid (∀ w', w' = _ → MV B A { s with F := upd s.F i (txn a p b c d) } w' ∧ KeepT [91] w w' ∧ Below B w w') := fun w' e => e ▸ h.setT hi (.int .i32 a) (.int .u8 p) (.int .i32 b) (.int .i32 c) (.int .i32 d) (txn a p b c d) ⟨rfl, rfl, rfl, rfl, rfl⟩
  have c0 := h.t.cell0 hi (by omega)
  have c1 := h.t.cell hi (k := 1) (by omega)
  have c2 := h.t.cell hi (k := 2) (by omega)
  have c3 := h.t.cell hi (k := 3) (by omega)
  have c4 := h.t.cell hi (k := 4) (by omega)
  have f0 := h.t.frozen (i * 5)
  have f1 := h.t.frozen (i * 5 + 1)
  have f2 := h.t.frozen (i * 5 + 2)
  have f3 := h.t.frozen (i * 5 + 3)
  have f4 := h.t.frozen (i * 5 + 4)
  have HM : Hid (MV B A s w) := h
  clear h
  go_enter Try.func43, Try.ntmps43
  go_wp2_with fail
  refine (at48 A.O 3 A.T1 A.T s.N s.N i w hi HM.out.small.1 HM.out.c3 HM.out.d1).mono ?_
  rintro e w1 ⟨rfl, rfl⟩
  go_wp2_with fail
  go_end0
  exact ⟨rfl, HP.out _ rfl⟩
end Go.Proofs.Qxb6613555a.Set
