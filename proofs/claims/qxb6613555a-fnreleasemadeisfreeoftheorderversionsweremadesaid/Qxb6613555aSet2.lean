import Derived.Test.Qxb6613555aSet
import Derived.Deep.DeepCutAuto
/- the other setters -/
namespace Go.Proofs.Qxb6613555a.Set
open Go.ChangeShapes Go.WideShapes Go.ChangeAt Go.RowKit Base Rec
variable {B : Nat} {A : Adr} {s : St} {w w' : World}

theorem MV.added (h : MV B A s w) {x g cap : Nat} (hx : x < s.I) {news : List Value} {o : Obj} {w1 : World} (hg : (w.alloc o).grownBy w1 (s.Vv x).ownBlock)
    (ho : w1.ownsRow B 160 5 (.slice (some ⟨g, 0, none⟩) (s.Ln x + 1) cap) (s.Ln x + 1) (s.vs x ++ news)) (hat : (s.Vv x).ownBlock = some g ∨ g = w.heap.size + 1) :
    MV B A { s with Vv := ch s.Vv x (.slice (some ⟨g, 0, none⟩) (s.Ln x + 1) cap), Ln := ch s.Ln x (s.Ln x + 1), vs := ch s.vs x (s.vs x ++ news) } (w1.setCell ⟨A.It, x * 2 + 1, none⟩ (.slice (some ⟨g, 0, none⟩) (s.Ln x + 1) cap)) ∧
    KeepT [160, 154] w (w1.setCell ⟨A.It, x * 2 + 1, none⟩ (.slice (some ⟨g, 0, none⟩) (s.Ln x + 1) cap)) ∧
    Below B w (w1.setCell ⟨A.It, x * 2 + 1, none⟩ (.slice (some ⟨g, 0, none⟩) (s.Ln x + 1) cap)) := by
  have hBw : B ≤ w.heap.size := Nat.le_trans h.le.1 (by obtain ⟨Fo, o1, _⟩ := h.o; exact Nat.le_of_lt (Blk.lt o1))
  have k1 : KeepT [160] w w1 := (((KeepT.refl [] w).alloc o).trans (keep_grown (owns_alloc (h.own x hx) o) hg)).mono (by simp)
  have it1 := Rec.keep h.it k1 (by decide)
  have k2 := Rec.keepSet it1 (x * 2 + 1) (.slice (some ⟨g, 0, none⟩) (s.Ln x + 1) cap)
  have k : KeepT [160, 154] w _ := (k1.trans k2).mono (by simp)
  have r1 := Rec.set it1 hx (k := 1) (by omega) (.slice (some ⟨g, 0, none⟩) (s.Ln x + 1) cap)
  have bl : Below B w _ := (((Below.refl B w).alloc hBw o).grown hg (by simp; omega) (own_le (h.own x hx))).setCell (p := ⟨A.It, x * 2 + 1, none⟩) h.le.2.2.2.2.1 (.slice (some ⟨g, 0, none⟩) (s.Ln x + 1) cap)
  refine ⟨?_, k, bl⟩
  obtain ⟨Fo, o1, o2⟩ := h.o
  refine ⟨h.le, h.small, ⟨Fo, Blk.keep o1 k (by decide), o2⟩, Blk.keep h.t1 k (by decide), Rec.keep h.t k (by decide), Blk.keep h.i1 k (by decide), Rec.congr r1 ?_ (by omega), Blk.keep h.m1 k (by decide), Rec.keep h.m k (by decide), ?_, ?_⟩
  · intro y z hy hz
    by_cases e : y = x
    · subst e
      match z, hz with
      | 0, _ => simp [item]
      | 1, _ => simp [item, ch]
    · match z, hz with
      | 0, _ => simp [item]
      | 1, _ => simp [e, item, ch]
  · intro y hy
    by_cases e : y = x
    · subst e; simp only [ch, if_true]; exact k2.owns ho (by decide)
    · simp only [ch, e, if_false]
      exact k2.owns (owns_grown (owns_alloc (h.own y hy) o) hg (fun k' hk' => h.dis y x k' hy hx e hk')) (by decide)
  · intro y z k' hy hz hne
    have new : ∀ v, v < s.I → v ≠ x → (s.Vv v).ownBlock ≠ some g := fun v hv hvx e => by
      rcases hat with h1 | h1
      · exact h.dis v x g hv hx hvx e h1
      · have := owns_lt (h.own v hv) _ e; omega
    by_cases e : y = x
    · have e2 : z ≠ x := fun h => hne (e.trans h.symm)
      simp only [ch, e, e2, if_true, if_false]
      intro h1 h2
      have : g = k' := by simpa [Value.ownBlock] using h1
      subst this
      exact new z hz e2 h2
    · by_cases e2 : z = x
      · simp only [ch, e, e2, if_true, if_false]
        intro h1 h2
        have : g = k' := by simpa [Value.ownBlock] using h2
        subst this
        exact new y hy e h1
      · simp only [ch, e, e2, if_false]; exact h.dis y z k' hy hz hne

set_option maxRecDepth 100000 in
set_option maxHeartbeats 2000000 in
theorem setItem (h : MV B A s w) (i : Nat) (hi : i < s.I) (P : ByteArray) :
    Calls Try.prog 44 #[.pointer (some ⟨A.O, 0, none⟩), .int .i64 i, .string P] w fun e w' => e = .returned (.tuple #[]) ∧ MV B A { s with nm := ch s.nm i P, Vv := ch s.Vv i (.slice none 0 0), Ln := ch s.Ln i 0, vs := ch s.vs i [] } w' ∧ KeepT [154] w w' ∧ Below B w w' := by
  have HP : Hid (∀ w', w' = _ → MV B A { s with nm := ch s.nm i P, Vv := ch s.Vv i (.slice none 0 0), Ln := ch s.Ln i 0, vs := ch s.vs i [] } w' ∧ KeepT [154] w w' ∧ Below B w w') := fun w' e => e ▸ h.setI hi P
  have c0 := h.it.cell0 hi (by omega)
  have c1 := h.it.cell hi (k := 1) (by omega)
  have f0 := h.it.frozen (i * 2)
  have f1 := h.it.frozen (i * 2 + 1)
  have HM : Hid (MV B A s w) := h
  clear h
  go_enter Try.func44, Try.ntmps44
  go_wp2_with fail
  refine (at52 A.O 6 A.I1 A.It s.I s.I i w hi HM.out.small.2.1 HM.out.c6 HM.out.d2).mono ?_
  rintro e w1 ⟨rfl, rfl⟩
  go_wp2_with fail
  go_end0
  exact ⟨rfl, HP.out _ rfl⟩
set_option maxRecDepth 100000 in
set_option maxHeartbeats 2000000 in
theorem setMade (h : MV B A s w) (i : Nat) (hi : i < s.M) (a b c : Int) :
    Calls Try.prog 46 #[.pointer (some ⟨A.O, 0, none⟩), .int .i64 i, .int .i32 a, .int .i32 b, .int .i32 c] w fun e w' => e = .returned (.tuple #[]) ∧ MV B A { s with H := upd s.H i (three a b c) } w' ∧ KeepT [162] w w' ∧ Below B w w' := by
  have HP : Hid (∀ w', w' = _ → MV B A { s with H := upd s.H i (three a b c) } w' ∧ KeepT [162] w w' ∧ Below B w w') := fun w' e => e ▸ h.setM hi (.int .i32 a) (.int .i32 b) (.int .i32 c) (three a b c) ⟨rfl, rfl, rfl⟩
  have c0 := h.m.cell0 hi (by omega)
  have c1 := h.m.cell hi (k := 1) (by omega)
  have c2 := h.m.cell hi (k := 2) (by omega)
  have f0 := h.m.frozen (i * 3)
  have f1 := h.m.frozen (i * 3 + 1)
  have f2 := h.m.frozen (i * 3 + 2)
  have HM : Hid (MV B A s w) := h
  clear h
  go_enter Try.func46, Try.ntmps46
  go_wp2_with fail
  refine (at53 A.O 8 A.M1 A.Mt s.M s.M i w hi HM.out.small.2.2 HM.out.c8 HM.out.d3).mono ?_
  rintro e w1 ⟨rfl, rfl⟩
  go_wp2_with fail
  go_end0
  exact ⟨rfl, HP.out _ rfl⟩
theorem cell_new5 (w : World) (a b c d e : Value) (n : Nat) : ∀ j u, [a, b, c, d, e][j]? = some u → (w.alloc (.cells #[a, b, c, d, e] n)).cell? ((⟨w.heap.size, 0, none⟩ : Addr).add j) = some u :=
  World.news_of_block (heap_alloc_new w (.cells #[a, b, c, d, e] n))
set_option maxRecDepth 100000 in
set_option maxHeartbeats 2000000 in
theorem addVersion (h : MV B A s w) (x : Nat) (hx : x < s.I) (hL : s.Ln x ≤ 1) (a b c d f : Int) :
    Calls Try.prog 45 #[.pointer (some ⟨A.O, 0, none⟩), .int .i64 x, .int .i32 a, .int .i32 b, .int .i32 c, .int .i32 d, .int .i32 f] w fun e w' => e = .returned (.tuple #[]) ∧
      ∃ V, MV B A { s with Vv := ch s.Vv x V, Ln := ch s.Ln x (s.Ln x + 1), vs := ch s.vs x (s.vs x ++ [.int .i32 a, .int .i32 b, .int .i32 c, .int .i32 d, .int .i32 f]) } w' ∧ KeepT [160, 154] w w' ∧ Below B w w' := by
  have HM : Hid (MV B A s w) := h
  have hIt : A.It < w.heap.size := h.it.lt
  have c1 : w.cell? ⟨A.It, x * 2 + 1, none⟩ = some (s.Vv x) := h.it.cell hx (k := 1) (by omega)
  have hBw : B ≤ w.heap.size := by have := h.le.2.2.2.2.1; omega
  clear h
  obtain ⟨i, hi, hz, hs, hb⟩ := row_some info160
  go_enter Try.func45, Try.ntmps45
  go_wp2_with fail
  refine (at52 A.O 6 A.I1 A.It s.I s.I x w hx HM.out.small.2.1 HM.out.c6 HM.out.d2).mono ?_
  rintro e w1 ⟨rfl, rfl⟩
  go_wp2_with (at_builtin; refine wpList_append_lies _ rfl _ _ _ rfl B 160 i _ 5 20 Try.underlying152 hi hz hs hb rfl (by omega) (s.Vv x) (s.Ln x) (s.vs x) (by rfl) (owns_alloc (HM.out.own x hx) _) ⟨w1.heap.size, 0, none⟩ 1 1 [.int .i32 a, .int .i32 b, .int .i32 c, .int .i32 d, .int .i32 f] (by rfl) rfl (cell_new5 w1 _ _ _ _ _ _) (by simp [Value.oneCell']) (by omega) (by unfold maxLen; omega) (by omega) (by simp; omega) (w1.heap.size + 1) (by simp) ?_; intro g cap w2 hown hgrow hat hlt; have HA : Hid _ := HM.out.added hx hgrow hown hat; have it1 := Rec.keep HM.out.it ((((KeepT.refl [] w1).alloc _).trans (keep_grown (owns_alloc (HM.out.own x hx) _) hgrow)).mono (us := [160]) (by simp)) (by decide); have q1 : w2.cell? ⟨A.It, x * 2 + 1, none⟩ = some (s.Vv x) := it1.cell hx (k := 1) (by omega); have q2 := it1.frozen (x * 2 + 1); clear hown hgrow hat it1)
  go_end0
  exact ⟨rfl, _, HA.out⟩

/-- the new state -/
def st0 (N I M : Nat) : St := { N := N, I := I, M := M, F := fun _ => txn 0 0 0 0 0, nm := fun _ => ⟨#[]⟩, Vv := fun _ => .slice none 0 0, Ln := fun _ => 0, vs := fun _ => [], H := fun _ => three 0 0 0 }
theorem rec_alloc {w : World} {g n s : Nat} {t : TypeId} {F : Nat → Nat → Value} (h : Rec w g t n s F) (o : Obj) : Rec (w.alloc o) g t n s F := Blk.alloc h o
theorem blk_one (w : World) (v : Value) (t : TypeId) : Blk (w.alloc (.cells #[v] t)) w.heap.size t 1 (fun _ => v) :=
  ⟨_, heap_alloc_new w _, rfl, fun i hi => by obtain rfl : i = 0 := by omega
                                              rfl⟩
theorem MV.fresh (w : World) (N I M : Nat) (hN : N ≤ 65536) (hI : I ≤ 65536) (hM : M ≤ 65536) (cs : Array Value) (hcs : cs.size = 11) (e3 : cs[3]! = .slice (some ⟨w.heap.size + 1 + 1, 0, none⟩) 1 1) (e6 : cs[6]! = .slice (some ⟨w.heap.size + 1 + 1 + 1 + 1, 0, none⟩) 1 1) (e8 : cs[8]! = .slice (some ⟨w.heap.size + 1 + 1 + 1 + 1 + 1 + 1, 0, none⟩) 1 1) :
    MV w.heap.size ⟨w.heap.size, w.heap.size + 1 + 1, w.heap.size + 1, w.heap.size + 1 + 1 + 1 + 1, w.heap.size + 1 + 1 + 1, w.heap.size + 1 + 1 + 1 + 1 + 1 + 1, w.heap.size + 1 + 1 + 1 + 1 + 1⟩ (st0 N I M)
      (((((((w.alloc (.cells cs 108)).alloc (.cells (madeCells (Value.agg #[.int .i32 0, .int .u8 0, .int .i32 0, .int .i32 0, .int .i32 0]).cells (N * 5)) 91)).alloc (.cells #[.slice (some ⟨w.heap.size + 1, 0, none⟩) N N] 148)).alloc
        (.cells (madeCells (Value.agg #[.string ⟨#[]⟩, .slice none 0 0]).cells (I * 2)) 154)).alloc (.cells #[.slice (some ⟨w.heap.size + 1 + 1 + 1, 0, none⟩) I I] 149)).alloc
        (.cells (madeCells (Value.agg #[.int .i32 0, .int .i32 0, .int .i32 0]).cells (M * 3)) 162)).alloc (.cells #[.slice (some ⟨w.heap.size + 1 + 1 + 1 + 1 + 1, 0, none⟩) M M] 150)) := by
  have b0 : Blk (w.alloc (.cells cs 108)) w.heap.size 108 11 (fun i => cs[i]!) := ⟨_, heap_alloc_new w _, hcs, fun i hi => by simp [hcs, hi]⟩
  generalize hw0 : w.alloc (.cells cs 108) = w0 at *
  have z0 : w0.heap.size = w.heap.size + 1 := by rw [← hw0]; simp
  have b1 := Rec.made w0 (.agg #[.int .i32 0, .int .u8 0, .int .i32 0, .int .i32 0, .int .i32 0]) N 5 91 rfl
  have b0 := b0.alloc (.cells (madeCells (Value.agg #[.int .i32 0, .int .u8 0, .int .i32 0, .int .i32 0, .int .i32 0]).cells (N * 5)) 91)
  rw [z0] at b1
  generalize hw1 : w0.alloc (.cells (madeCells (Value.agg #[.int .i32 0, .int .u8 0, .int .i32 0, .int .i32 0, .int .i32 0]).cells (N * 5)) 91) = w1 at *
  have z1 : w1.heap.size = w.heap.size + 1 + 1 := by rw [← hw1]; simp [z0]
  have b2 := blk_one w1 (.slice (some ⟨w.heap.size + 1, 0, none⟩) N N) 148
  have b0 := b0.alloc (.cells #[.slice (some ⟨w.heap.size + 1, 0, none⟩) N N] 148)
  have b1 := rec_alloc b1 (.cells #[.slice (some ⟨w.heap.size + 1, 0, none⟩) N N] 148)
  rw [z1] at b2
  generalize hw2 : w1.alloc (.cells #[.slice (some ⟨w.heap.size + 1, 0, none⟩) N N] 148) = w2 at *
  have z2 : w2.heap.size = w.heap.size + 1 + 1 + 1 := by rw [← hw2]; simp [z1]
  have b3 := Rec.made w2 (.agg #[.string ⟨#[]⟩, .slice none 0 0]) I 2 154 rfl
  have b0 := b0.alloc (.cells (madeCells (Value.agg #[.string ⟨#[]⟩, .slice none 0 0]).cells (I * 2)) 154)
  have b1 := rec_alloc b1 (.cells (madeCells (Value.agg #[.string ⟨#[]⟩, .slice none 0 0]).cells (I * 2)) 154)
  have b2 := b2.alloc (.cells (madeCells (Value.agg #[.string ⟨#[]⟩, .slice none 0 0]).cells (I * 2)) 154)
  rw [z2] at b3
  generalize hw3 : w2.alloc (.cells (madeCells (Value.agg #[.string ⟨#[]⟩, .slice none 0 0]).cells (I * 2)) 154) = w3 at *
  have z3 : w3.heap.size = w.heap.size + 1 + 1 + 1 + 1 := by rw [← hw3]; simp [z2]
  have b4 := blk_one w3 (.slice (some ⟨w.heap.size + 1 + 1 + 1, 0, none⟩) I I) 149
  have b0 := b0.alloc (.cells #[.slice (some ⟨w.heap.size + 1 + 1 + 1, 0, none⟩) I I] 149)
  have b1 := rec_alloc b1 (.cells #[.slice (some ⟨w.heap.size + 1 + 1 + 1, 0, none⟩) I I] 149)
  have b2 := b2.alloc (.cells #[.slice (some ⟨w.heap.size + 1 + 1 + 1, 0, none⟩) I I] 149)
  have b3 := rec_alloc b3 (.cells #[.slice (some ⟨w.heap.size + 1 + 1 + 1, 0, none⟩) I I] 149)
  rw [z3] at b4
  generalize hw4 : w3.alloc (.cells #[.slice (some ⟨w.heap.size + 1 + 1 + 1, 0, none⟩) I I] 149) = w4 at *
  have z4 : w4.heap.size = w.heap.size + 1 + 1 + 1 + 1 + 1 := by rw [← hw4]; simp [z3]
  have b5 := Rec.made w4 (.agg #[.int .i32 0, .int .i32 0, .int .i32 0]) M 3 162 rfl
  have b0 := b0.alloc (.cells (madeCells (Value.agg #[.int .i32 0, .int .i32 0, .int .i32 0]).cells (M * 3)) 162)
  have b1 := rec_alloc b1 (.cells (madeCells (Value.agg #[.int .i32 0, .int .i32 0, .int .i32 0]).cells (M * 3)) 162)
  have b2 := b2.alloc (.cells (madeCells (Value.agg #[.int .i32 0, .int .i32 0, .int .i32 0]).cells (M * 3)) 162)
  have b3 := rec_alloc b3 (.cells (madeCells (Value.agg #[.int .i32 0, .int .i32 0, .int .i32 0]).cells (M * 3)) 162)
  have b4 := b4.alloc (.cells (madeCells (Value.agg #[.int .i32 0, .int .i32 0, .int .i32 0]).cells (M * 3)) 162)
  rw [z4] at b5
  generalize hw5 : w4.alloc (.cells (madeCells (Value.agg #[.int .i32 0, .int .i32 0, .int .i32 0]).cells (M * 3)) 162) = w5 at *
  have z5 : w5.heap.size = w.heap.size + 1 + 1 + 1 + 1 + 1 + 1 := by rw [← hw5]; simp [z4]
  have b6 := blk_one w5 (.slice (some ⟨w.heap.size + 1 + 1 + 1 + 1 + 1, 0, none⟩) M M) 150
  have b0 := b0.alloc (.cells #[.slice (some ⟨w.heap.size + 1 + 1 + 1 + 1 + 1, 0, none⟩) M M] 150)
  have b1 := rec_alloc b1 (.cells #[.slice (some ⟨w.heap.size + 1 + 1 + 1 + 1 + 1, 0, none⟩) M M] 150)
  have b2 := b2.alloc (.cells #[.slice (some ⟨w.heap.size + 1 + 1 + 1 + 1 + 1, 0, none⟩) M M] 150)
  have b3 := rec_alloc b3 (.cells #[.slice (some ⟨w.heap.size + 1 + 1 + 1 + 1 + 1, 0, none⟩) M M] 150)
  have b4 := b4.alloc (.cells #[.slice (some ⟨w.heap.size + 1 + 1 + 1 + 1 + 1, 0, none⟩) M M] 150)
  have b5 := rec_alloc b5 (.cells #[.slice (some ⟨w.heap.size + 1 + 1 + 1 + 1 + 1, 0, none⟩) M M] 150)
  rw [z5] at b6
  refine ⟨by simp only; omega, ⟨hN, hI, hM⟩, ⟨_, b0, e3, e6, e8⟩, b2, Rec.congr b1 ?_ (by omega), b4, Rec.congr b3 ?_ (by omega), b6, Rec.congr b5 ?_ (by omega), fun x _ => World.ownsRow_nil _ _ _ _, fun x y k _ _ _ h => by simp [st0, Value.ownBlock] at h⟩
  · intro x y hx hy
    match y, hy with
    | 0, _ => rfl
    | 1, _ => rfl
    | 2, _ => rfl
    | 3, _ => rfl
    | 4, _ => rfl
  · intro x y hx hy
    match y, hy with
    | 0, _ => rfl
    | 1, _ => rfl
  · intro x y hx hy
    match y, hy with
    | 0, _ => rfl
    | 1, _ => rfl
    | 2, _ => rfl
set_option maxRecDepth 100000 in
set_option maxHeartbeats 2000000 in
theorem newMV (N I M : Nat) (w : World) (hN : N ≤ 65536) (hI : I ≤ 65536) (hM : M ≤ 65536) :
    Calls Try.prog 42 #[.int .i64 N, .int .i64 I, .int .i64 M] w fun e w' => ∃ A, e = .returned (.pointer (some ⟨A.O, 0, none⟩)) ∧ MV w.heap.size A (st0 N I M) w' ∧ Below w.heap.size w w' := by
  obtain ⟨i1, hi1, hz1, hs1, hb1⟩ := row_some info91
  obtain ⟨i2, hi2, hz2, hs2, hb2⟩ := row_some info154
  obtain ⟨i3, hi3, hz3, hs3, hb3⟩ := row_some info162
  go_enter Try.func42, Try.ntmps42
  go_wp2_with (at_make; first | refine wpList_make_rec _ rfl (.tmp 11) (.tmp 11) 148 rfl 91 i1 _ 5 Try.underlying148 hi1 hz1 hs1 .i64 .i64 N rfl rfl (by rw [hb1]; omega) (by omega) ?_ | refine wpList_make_rec _ rfl (.tmp 19) (.tmp 19) 149 rfl 154 i2 _ 2 Try.underlying149 hi2 hz2 hs2 .i64 .i64 I rfl rfl (by rw [hb2]; omega) (by omega) ?_ | refine wpList_make_rec _ rfl (.tmp 27) (.tmp 27) 150 rfl 162 i3 _ 3 Try.underlying150 hi3 hz3 hs3 .i64 .i64 M rfl rfl (by rw [hb3]; omega) (by omega) ?_)
  go_ret
  refine ⟨_, rfl, MV.fresh w N I M hN hI hM _ rfl rfl rfl rfl, ?_⟩
  exact (((((((Below.refl _ w).alloc (Nat.le_refl _) _).alloc (by simp) _).alloc (by simp; omega) _).alloc (by simp; omega) _).alloc (by simp; omega) _).alloc (by simp; omega) _).alloc (by simp; omega) _
end Go.Proofs.Qxb6613555a.Set
