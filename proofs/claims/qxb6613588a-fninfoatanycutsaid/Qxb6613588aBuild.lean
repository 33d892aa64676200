import Derived.Test.Qxb6613588aRows2
import Derived.Deep.DeepCutAuto
import Derived.Deep.RegionHeld3
import Derived.Deep.RegionLaw
namespace Go.Proofs.Qxb6613588a.Build
open Go.ChangeShapes Go.WideShapes Go.ChangeAt Go.RowKit Base Mem Qxb6613588a.Add Info Qxb6613588a.Inv Rows2
set_option maxRecDepth 100000 in
set_option maxHeartbeats 8000000 in
theorem build_any (S : Specs) (path : ByteArray) (b o n c : Nat) (w : World) (hn : n + tot S n ≤ 1048576) (htm : ∀ i, i < n → tot S (i + 1) ≤ tot S n) (hS : ∀ i, i < n → Decl S w b o i) (hb : b < w.heap.size) :
    Calls Try.prog 15 #[.string path, .slice (some ⟨b, o, none⟩) n c] w fun e w' => ∃ iv tv bv dv ds bs is ts ni nt, e = .returned (.tuple #[.pointer (some ⟨w.heap.size, 0, none⟩), iv, tv, bv]) ∧ Inv S w.heap.size w.heap.size path w n iv tv bv dv ds bs is ts ni nt (tot S n) w' := by
  have HS : Hid (∀ i, i < n → Decl S w b o i) := hS
  clear hS
  go_enter Try.func15, Try.ntmps15
  go_wp2_with fail
  go_loopw [9, 10, 11, 12] (fun iv tv bv i wr => ∃ (k : Nat) (dv : Value) (ds bs is ts : List Value) (ni nt : Nat), k ≤ n ∧ i = .int .i64 k ∧ Inv S w.heap.size w.heap.size path w k iv tv bv dv ds bs is ts ni nt (tot S k) wr) (fun _ _ _ i _ => n - (intOf i).toNat)
  case atStart => 
    refine ⟨0, .slice none 0 0, [], [], [], [], 0, 0, by omega, rfl, ?_⟩
    refine ⟨(Below.refl _ _).alloc (Nat.le_refl _) _, heap_alloc_new _ _, World.ownsRow_nil _ _ _ _, World.ownsRow_nil _ _ _ _, World.ownsRow_nil _ _ _ _, World.ownsRow_nil _ _ _ _, by simp [tot], fun i hi => by omega⟩
  case round =>
    obtain ⟨k, dv, ds, bs, is, ts, ni, nt, hk, rfl, inv⟩ := hrel
    by_cases hlt : k < n
    · have D := HS.out k hlt
      have hkn : (k : Int) < (n : Int) := by omega
      have cb : ∀ j, wr.cell? ⟨b, j, none⟩ = w.cell? ⟨b, j, none⟩ := fun j => inv.below.cell (p := ⟨b, j, none⟩) hb
      have c0 := (cb _).trans D.kind
      have c1 := (cb _).trans D.imps
      have c2 := (cb _).trans D.tys
      have HI : Hid _ := inv
      have TR : Hid _ := D.tr
      have IR : Hid _ := D.ir
      clear D cb inv
      by_cases h1 : S.K k = 1
      · rw [h1] at c0
        go_wp2_with fail
        refine (add23 w.heap.size w.heap.size k _ (.string path) (.slice none 0 0) dv ds _ (((HI.out.alloc (Nat.le_refl _) _).alloc (Nat.le_refl _) _).alloc (Nat.le_refl _) _).file (Nat.le_refl _) (((HI.out.alloc (Nat.le_refl _) _).alloc (Nat.le_refl _) _).alloc (Nat.le_refl _) _).od (by omega)).mono ?_
        intro e w4 hp
        obtain rfl := hp.1
        have hob4 : Hid (w4.ownsRow w.heap.size 46 1 u11 (cnt S k) bs) := hp.2.elim fun _ h => h.elim fun _ h => h.2.2.1.owns (((HI.out.alloc (Nat.le_refl _) _).alloc (Nat.le_refl _) _).alloc (Nat.le_refl _) _).ob (by decide)
        have hs4 : w.heap.size ≤ w4.heap.size := hp.2.elim fun _ h => h.elim fun _ h => by have := (Array.getElem?_eq_some_iff.1 h.1).1; omega
        have HN : Hid (∀ (w'' : World) (bv' : Value) (m : Nat), m = cnt S k + 1 → (w4.alloc (.cells #[.pointer (some ⟨wr.heap.size + 1, 0, none⟩)] 46)).grownBy w'' u11.ownBlock → w''.ownsRow w.heap.size 46 1 bv' m (bs ++ [.pointer (some ⟨wr.heap.size + 1, 0, none⟩)]) → ∃ dv' ds' bs', Inv S w.heap.size w.heap.size path w (k + 1) u9 u10 bv' dv' ds' bs' is ts ni nt (tot S k) w'') :=
          fun w'' bv' m hm hg hob => (((HI.out.alloc (Nat.le_refl _) _).alloc (Nat.le_refl _) _).alloc (Nat.le_refl _) _).info (Nat.le_refl _) (heap3 _ _ _ _) hp h1 hm hg hob
        have hck := cnt_le S k
        clear hp
        obtain ⟨it, hi, hz, hs, hbb⟩ := row_some info46
        go_wp2_with (at_builtin; refine wpList_append_lies _ rfl _ _ _ rfl w.heap.size 46 it (.pointer none) 1 8 Try.underlying30 hi hz hs hbb rfl (by omega) u11 (cnt S k) bs (by rfl) (owns_alloc hob4.out _) ⟨w4.heap.size, 0, none⟩ 1 1 [.pointer (some ⟨wr.heap.size + 1, 0, none⟩)] (by rfl) rfl (cell_new1 w4 _ _) (by simp [Value.oneCell']) (by omega) (by unfold maxLen; omega) (by omega) (by simp; omega) (w4.heap.size + 1) (by simp) ?_; intro g cap w5 hown hgrow hat hlt; have HH : Hid _ := HN.out _ _ _ rfl hgrow hown; clear hown hgrow hat)
        obtain ⟨dv', ds', bs', hinv⟩ := HH.out
        go_roundw
        case rel => exact ⟨k + 1, dv', ds', bs', is, ts, ni, nt, by omega, by go_num, { hinv with num := Nat.le_trans hinv.num (by simp [tot]; omega) }⟩
        case measure => simp [intOf]; omega
      · by_cases h2 : S.K k = 2
        · rw [h2] at c0
          obtain ⟨htl, htm', htc⟩ := TR.out
          unfold maxLen at htm'
          have HTC : Hid _ := htc
          clear htc
          go_wp2_with fail
          have I2 : Hid _ := (HI.out.alloc (Nat.le_refl _) (Obj.cells #[Value.int IntKind.i64 2, Value.slice (S.Ia k) (S.In k) (S.Ic k), Value.slice (S.Ta k) (S.Tn k) (S.Tc k)] 69)).alloc (Nat.le_refl _) (Obj.cells #[Value.string path, Value.int IntKind.i64 (↑k + 1), Value.int IntKind.i64 1, Value.slice none 0 0, Value.string { data := #[] }, Value.int IntKind.i64 0, Value.int IntKind.i64 0, Value.string { data := #[] }, Value.int IntKind.i64 0, Value.int IntKind.i64 0] 61)
          obtain ⟨W, hW⟩ : ∃ W, W = ((wr.alloc (Obj.cells #[Value.int IntKind.i64 2, Value.slice (S.Ia k) (S.In k) (S.Ic k), Value.slice (S.Ta k) (S.Tn k) (S.Tc k)] 69)).alloc (Obj.cells #[Value.string path, Value.int IntKind.i64 (↑k + 1), Value.int IntKind.i64 1, Value.slice none 0 0, Value.string { data := #[] }, Value.int IntKind.i64 0, Value.int IntKind.i64 0, Value.string { data := #[] }, Value.int IntKind.i64 0, Value.int IntKind.i64 0] 61)) := ⟨_, rfl⟩
          have hD : DRow W (wr.heap.size + 1) 61 (.slice none 0 0) := by rw [hW]; exact drow_new _ _ _ _ _ _ _ _ _ _ _ _ _
          have HSB : Hid (W.heap[wr.heap.size]? = some (Obj.cells #[Value.int IntKind.i64 2, Value.slice (S.Ia k) (S.In k) (S.Ic k), Value.slice (S.Ta k) (S.Tn k) (S.Tc k)] 69 (0, 0))) := by rw [hW]; exact heap_alloc_cells (heap_alloc_new _ _) _
          have hsz : W.heap.size = wr.heap.size + 1 + 1 := by rw [hW]; simp
          rw [← hW] at I2 ⊢
          clear hW
          have hBw := HI.out.size (Nat.le_refl _)
          obtain ⟨D, hDe⟩ : ∃ D, D = wr.heap.size + 1 := ⟨_, rfl⟩
          obtain ⟨sb, hsb⟩ : ∃ sb, sb = wr.heap.size := ⟨_, rfl⟩
          have hBD : w.heap.size ≤ D := by omega
          rw [← hDe] at hD ⊢
          rw [← hsb] at HSB ⊢
          have HD : Hid (DRow W D 61 (.slice none 0 0)) := hD
          clear hD c0 c1 c2 hDe hsb hsz hBw
          go_loopw [10, 16] (fun tv j v => ∃ (i : Nat) (dt : Value) (ts' xs : List Value), i ≤ S.Tn k ∧ j = .int .i64 i ∧ v.ownsRow w.heap.size 62 1 dt i xs ∧ v.ownsRow w.heap.size 62 1 tv (nt + i) ts' ∧ Apart dt tv ∧ DRow v D 61 dt ∧ KeepT [62, 61] W v ∧ Below w.heap.size W v) (fun _ j _ => S.Tn k - (intOf j).toNat)
          case atStart => exact ⟨0, .slice none 0 0, ts, [], by omega, rfl, World.ownsRow_nil _ _ _ _, I2.out.ot, apart_nil _, HD.out, KeepT.refl _ _, Below.refl _ _⟩
          case round =>
            obtain ⟨i, dt, ts', xs, hi, rfl, r1, r2, ap, hd, kp, bl⟩ := hrel
            have sB := HSB.out
            have hsc := cell_three (kp.block _ _ _ _ HSB.out (by decide))
            have R1 : Hid _ := r1
            have R2 : Hid _ := r2
            have HD2 : Hid (DRow wr D 61 dt) := hd
            have KB : Hid _ := And.intro kp bl
            have ap : Hid _ := ap
            have hdc := hd.cell
            have hdl := hd.lt
            have hnt : nt ≤ tot S k := by have := HI.out.num; omega
            have htk := htm k hlt
            have htk' : tot S (k + 1) = tot S k + S.In k + S.Tn k := rfl
            clear r1 r2 hd kp bl sB
            by_cases hil : i < S.Tn k
            · obtain ⟨b', o', P, hta, hpc⟩ := HTC.out (by omega)
              obtain ⟨hp0, hps⟩ := hpc i hil
              have hp : wr.cell? ⟨b', o' + i, none⟩ = some (.string (P i)) := ((I2.out.below.trans KB.out.2).cell (p := ⟨b', o' + i, none⟩) (cell_lt hp0)).trans hp0
              rw [hta] at hsc
              clear hpc hp0 hps hta
              have hin : (i : Int) < (S.Tn k : Int) := by omega
              obtain ⟨it, hi62, hz, hs, hbb⟩ := row_some info62
              go_wp2_with (first
                | (at_builtin; (refine wpList_append_lies _ rfl (.tmp 79) (.tmp 81) 29 rfl w.heap.size 62 it (.pointer none) 1 8 Try.underlying29 hi62 hz hs hbb rfl (by omega) dt i xs (by rfl) (owns_alloc (owns_alloc R1.out _) _) ⟨wr.heap.size + 1, 0, none⟩ 1 1 [.pointer (some ⟨wr.heap.size, 0, none⟩)] (by rfl) rfl (new_cells (by simp) _ _ _) (by simp [Value.oneCell']) (by omega) (by unfold maxLen; omega) (by omega) (by simp; omega) (wr.heap.size + 1 + 1) (by simp) ?_); intro g cap w1 hown hgrow hat hlt; have H1 : Hid _ := step1 (td := 61) (by decide) (owns_alloc R1.out _) (owns_alloc R2.out _) ap.out (DRow.alloc HD2.out _) hBD hgrow (by simpa using hat) hown; have hD1 := DRow.grown (DRow.alloc (DRow.alloc HD2.out _) _) hgrow (DRow.ne HD2.out R1.out (by decide)); have hdc1 := hD1.cell; have hdf1 := hD1.frozen; have hdl1 := hD1.lt; clear hown hgrow hat hD1)
                | (at_builtin; go_must (refine wpList_append_lies _ rfl (.tmp 85) (.tmp 87) 29 rfl w.heap.size 62 it (.pointer none) 1 8 Try.underlying29 hi62 hz hs hbb rfl (by omega) u10 (nt + i) ts' (by rfl) (owns_alloc H1.out.2.2.1 _) ⟨w1.heap.size, 0, none⟩ 1 1 [.pointer (some ⟨wr.heap.size, 0, none⟩)] (by rfl) rfl (new_cells (by simp) _ _ _) (by simp [Value.oneCell']) (by omega) (by unfold maxLen; omega) (by omega) (by simp; omega) (w1.heap.size + 1) (by simp) ?_); intro g2 cap2 w2 hown hgrow hat hlt; have H2 : Hid _ := And.intro hown (step2 (n1 := nt + i + 1) (cap := cap2) (td := 61) (by decide) H1.out.1 H1.out.2.1 H1.out.2.2.1 H1.out.2.2.2.1 hBD hgrow (by simpa using hat)); clear hown hgrow hat))
              go_roundw
              case rel => exact ⟨i + 1, _, _, _, by omega, by go_num, H2.out.2.2.1, H2.out.1, H2.out.2.2.2.1, H2.out.2.1, (((KB.out.1.trans ((KeepT.refl [] wr).alloc _)).trans H1.out.2.2.2.2.1).trans H2.out.2.2.2.2.1).mono (by simp), ((KB.out.2.trans ((Below.refl _ _).alloc (by omega) _)).trans H1.out.2.2.2.2.2.1).trans H2.out.2.2.2.2.2⟩
              case measure => simp [intOf]; omega
            · have hin : ¬ (i : Int) < (S.Tn k : Int) := by omega
              go_wp2_with fail
              have I3 : Hid _ := I2.out.types (N' := tot S (k + 1)) KB.out.1 KB.out.2 R2.out (by have := HI.out.num; omega)
              refine (add28 w.heap.size w.heap.size k _ (.string path) (.slice none 0 0) dv ds _ I3.out.file (Nat.le_refl _) I3.out.od (by omega)).mono ?_
              intro e w4 hp
              obtain rfl := hp.1
              obtain ⟨dv', ds', hinv⟩ := I3.out.other hp ⟨_, .inl rfl⟩ h1
              have HV : Hid _ := hinv
              clear hp hinv
              go_wp2_with fail
              go_roundw
              case rel => exact ⟨k + 1, dv', ds', bs, is, _, ni, _, by omega, by go_num, HV.out⟩
              case measure => simp [intOf]; omega
        · have e1 : (S.K k == 1) = false := by simp [h1]
          have e2 : (S.K k == 2) = false := by simp [h2]
          obtain ⟨hil', him', hic⟩ := IR.out
          unfold maxLen at him'
          have HIC : Hid _ := hic
          clear hic
          go_wp2_with fail
          have I2 : Hid _ := (HI.out.alloc (Nat.le_refl _) (Obj.cells #[Value.int IntKind.i64 (S.K k), Value.slice (S.Ia k) (S.In k) (S.Ic k), Value.slice (S.Ta k) (S.Tn k) (S.Tc k)] 69)).alloc (Nat.le_refl _) (Obj.cells #[Value.string path, Value.int IntKind.i64 (↑k + 1), Value.int IntKind.i64 1, Value.slice none 0 0, Value.string { data := #[] }, Value.int IntKind.i64 0, Value.int IntKind.i64 0, Value.string { data := #[] }, Value.int IntKind.i64 0, Value.int IntKind.i64 0] 74)
          obtain ⟨W, hW⟩ : ∃ W, W = ((wr.alloc (Obj.cells #[Value.int IntKind.i64 (S.K k), Value.slice (S.Ia k) (S.In k) (S.Ic k), Value.slice (S.Ta k) (S.Tn k) (S.Tc k)] 69)).alloc (Obj.cells #[Value.string path, Value.int IntKind.i64 (↑k + 1), Value.int IntKind.i64 1, Value.slice none 0 0, Value.string { data := #[] }, Value.int IntKind.i64 0, Value.int IntKind.i64 0, Value.string { data := #[] }, Value.int IntKind.i64 0, Value.int IntKind.i64 0] 74)) := ⟨_, rfl⟩
          have hD : DRow W (wr.heap.size + 1) 74 (.slice none 0 0) := by rw [hW]; exact drow_new _ _ _ _ _ _ _ _ _ _ _ _ _
          have HSB : Hid (W.heap[wr.heap.size]? = some (Obj.cells #[Value.int IntKind.i64 (S.K k), Value.slice (S.Ia k) (S.In k) (S.Ic k), Value.slice (S.Ta k) (S.Tn k) (S.Tc k)] 69 (0, 0))) := by rw [hW]; exact heap_alloc_cells (heap_alloc_new _ _) _
          rw [← hW] at I2 ⊢
          clear hW
          have hBw := HI.out.size (Nat.le_refl _)
          obtain ⟨D, hDe⟩ : ∃ D, D = wr.heap.size + 1 := ⟨_, rfl⟩
          obtain ⟨sb, hsb⟩ : ∃ sb, sb = wr.heap.size := ⟨_, rfl⟩
          have hBD : w.heap.size ≤ D := by omega
          rw [← hDe] at hD ⊢
          rw [← hsb] at HSB ⊢
          have HD : Hid (DRow W D 74 (.slice none 0 0)) := hD
          clear hD c0 c1 c2 hDe hsb hBw
          go_loopw [9, 19] (fun iv j v => ∃ (i : Nat) (dt : Value) (is' xs : List Value), i ≤ S.In k ∧ j = .int .i64 i ∧ v.ownsRow w.heap.size 45 4 dt i xs ∧ v.ownsRow w.heap.size 45 4 iv (ni + i) is' ∧ Apart dt iv ∧ DRow v D 74 dt ∧ KeepT [45, 74] W v ∧ Below w.heap.size W v) (fun _ j _ => S.In k - (intOf j).toNat)
          case atStart => exact ⟨0, .slice none 0 0, is, [], by omega, rfl, World.ownsRow_nil _ _ _ _, I2.out.oi, apart_nil _, HD.out, KeepT.refl _ _, Below.refl _ _⟩
          case round =>
            obtain ⟨i, dt, is', xs, hi, rfl, r1, r2, ap, hd, kp, bl⟩ := hrel
            have hsc := cell_mid (kp.block _ _ _ _ HSB.out (by decide))
            have hsl := cell_lt hsc
            have R1 : Hid _ := r1
            have R2 : Hid _ := r2
            have HD2 : Hid (DRow wr D 74 dt) := hd
            have KB : Hid _ := And.intro kp bl
            have ap : Hid _ := ap
            have hdc := hd.cell
            have hdl := hd.lt
            have hnt : ni + nt ≤ tot S k := by have := HI.out.num; omega
            have htk := htm k hlt
            have htk' : tot S (k + 1) = tot S k + S.In k + S.Tn k := rfl
            clear r1 r2 hd kp bl
            by_cases hil : i < S.In k
            · obtain ⟨b', o', P, Fi, L, C, hta, hpc⟩ := HIC.out (by omega)
              obtain ⟨p0, p1, p2, p3, _, _⟩ := hpc i hil
              have hbl := cell_lt p0
              have cb : ∀ j, wr.cell? ⟨b', j, none⟩ = w.cell? ⟨b', j, none⟩ := fun j => (I2.out.below.trans KB.out.2).cell (p := ⟨b', j, none⟩) hbl
              have q0 := (cb _).trans p0
              have q1 := (cb _).trans p1
              have q2 := (cb _).trans p2
              have q3 := (cb _).trans p3
              rw [hta] at hsc
              clear hpc p0 p1 p2 p3 hta cb
              have hin : (i : Int) < (S.In k : Int) := by omega
              have h0i : (0 : Int) ≤ (i : Int) := by omega
              obtain ⟨it, hi45, hz, hs, hbb⟩ := row_some info45
              have n0 := World.new_ne wr _ hsc
              have n1 := World.new_ne wr _ q0
              have n2 := World.new_ne wr _ q1
              have n3 := World.new_ne wr _ q2
              have n4 := World.new_ne wr _ q3
              go_wp2_with fail
              go_region_held3 (fun w' => w'.cell? ⟨sb, 1, none⟩ = some (.slice (some ⟨b', o', none⟩) (S.In k) (S.Ic k)) ∧ w'.cell? ⟨b', o' + i * 4, none⟩ = some (.string (P i)) ∧ w'.cell? ⟨b', o' + i * 4 + 1, none⟩ = some (.string (Fi i)) ∧ w'.cell? ⟨b', o' + i * 4 + 2, none⟩ = some (.int .i64 (L i)) ∧ w'.cell? ⟨b', o' + i * 4 + 3, none⟩ = some (.int .i64 (C i))) (go_keep) (fail)
              have V1 : Hid _ := World.ownsRow.drew (owns_alloc R1.out (Obj.cells #[Value.string (P i), Value.string (Fi i), Value.int IntKind.i64 (L i), Value.int IntKind.i64 (C i)] 45))
              have V2 : Hid _ := World.ownsRow.drew (owns_alloc R2.out (Obj.cells #[Value.string (P i), Value.string (Fi i), Value.int IntKind.i64 (L i), Value.int IntKind.i64 (C i)] 45))
              have VD : Hid (DRow (wr.alloc (Obj.cells #[Value.string (P i), Value.string (Fi i), Value.int IntKind.i64 (L i), Value.int IntKind.i64 (C i)] 45)).drew D 74 dt) := DRow.drew (DRow.alloc HD2.out (Obj.cells #[Value.string (P i), Value.string (Fi i), Value.int IntKind.i64 (L i), Value.int IntKind.i64 (C i)] 45))
              have VK : Hid _ := And.intro ((KB.out.1.trans ((KeepT.refl [] wr).alloc (Obj.cells #[Value.string (P i), Value.string (Fi i), Value.int IntKind.i64 (L i), Value.int IntKind.i64 (C i)] 45)).drew).mono (us := [45, 74]) (by simp)) ((KB.out.2.alloc (by omega) (Obj.cells #[Value.string (P i), Value.string (Fi i), Value.int IntKind.i64 (L i), Value.int IntKind.i64 (C i)] 45)).drew)
              have VI : Hid ((wr.alloc (Obj.cells #[Value.string (P i), Value.string (Fi i), Value.int IntKind.i64 (L i), Value.int IntKind.i64 (C i)] 45)).drew.heap[wr.heap.size]? = some (Obj.cells #[Value.string (P i), Value.string (Fi i), Value.int IntKind.i64 (L i), Value.int IntKind.i64 (C i)] 45 (0, 0))) := heap_alloc_new wr _
              have VN1 : Hid (some wr.heap.size ≠ dt.ownBlock) := fun h => by have := owns_lt R1.out _ h.symm; omega
              have VN2 : Hid (some wr.heap.size ≠ u9.ownBlock) := fun h => by have := owns_lt R2.out _ h.symm; omega
              have hDi : D ≠ wr.heap.size := by omega
              clear n0 n1 n2 n3 n4 q0 q1 q2 q3 hsc hdc
              generalize (wr.alloc (Obj.cells #[Value.string (P i), Value.string (Fi i), Value.int IntKind.i64 (L i), Value.int IntKind.i64 (C i)] 45)).drew = V at *
              generalize wr.heap.size = im at *
              have hdc := VD.out.cell
              have hdl2 := VD.out.lt
              have hdf := VD.out.frozen
              obtain ⟨i0, i1, i2, i3⟩ := cell_four VI.out
              have n0 := World.new_ne V _ hdc
              have n1 := World.new_ne V _ i0
              have himl := cell_lt i0
              have hfa : ∀ o, (V.alloc o).drew.frozen? ⟨D, 3, none⟩ = false := fun o => frozen_alloc_drew hdf hdl2 o
              go_wp2_with fail
              go_region_law (first | (refine step_append_lies _ (by rfl) _ _ _ (by rfl) w.heap.size 45 it _ 4 48 Try.underlying28 hi45 hz hs hbb rfl (by omega) dt i xs (by rfl) (World.ownsRow.drew (owns_alloc V1.out _)) ⟨V.heap.size, 0, none⟩ 1 1 [.string (P i), .string (Fi i), .int .i64 (L i), .int .i64 (C i)] (by rfl) (by rfl) (World.news_of_block (cs := #[.string (P i), .string (Fi i), .int .i64 (L i), .int .i64 (C i)]) (t := 45) (fr := (0, 0)) (heap_alloc_new V _)) (by simp [Value.oneCell']) (by omega) (by unfold maxLen; omega) (by omega) (by simp; omega) (V.heap.size + 1) (by simp) ?_; intro g cap w1 hown hgrow hat hlt; have hD1 := DRow.grown (DRow.drew (DRow.alloc VD.out _)) hgrow (DRow.ne VD.out V1.out (by decide)); have hdc1 := hD1.cell; have hdf1 := hD1.frozen; have hdl1 := hD1.lt; have HP : Hid _ := And.intro hown (And.intro (grown_drew hgrow) hat); clear hown hgrow hat hD1))
              all_goals
                have H1 : Hid _ := step1 (td := 74) (by decide) V1.out V2.out ap.out VD.out hBD HP.out.2.1 HP.out.2.2 HP.out.1
                obtain ⟨j0, j1, j2, j3⟩ := cell_four (grown_heap HP.out.2.1 (heap_alloc_cells VI.out _) VN1.out)
                have hDi' : im ≠ D := fun h => hDi h.symm
                clear i0 i1 i2 i3 n0 n1 hdc hdf hfa hdc1 hdf1
                go_wp2_with (at_builtin; go_must (refine wpList_append_lies _ rfl (.tmp 141) (.tmp 143) 28 rfl w.heap.size 45 it _ 4 48 Try.underlying28 hi45 hz hs hbb rfl (by omega) u9 (ni + i) is' (by rfl) (owns_alloc H1.out.2.2.1 _) ⟨w1.heap.size, 0, none⟩ 1 1 [.string (P i), .string (Fi i), .int .i64 (L i), .int .i64 (C i)] (by rfl) rfl (new_cells (by simp) _ _ _) (by simp [Value.oneCell']) (by omega) (by unfold maxLen; omega) (by omega) (by simp; omega) (w1.heap.size + 1) (by simp) ?_); intro g2 cap2 w2 hown hgrow hat hlt2; have H2 : Hid _ := And.intro hown (step2 (n1 := ni + i + 1) (cap := cap2) (td := 74) (by decide) H1.out.1 H1.out.2.1 H1.out.2.2.1 H1.out.2.2.2.1 hBD hgrow (by simpa using hat)); clear hown hgrow hat)
                go_roundw
                case rel => exact ⟨i + 1, _, _, _, by omega, by go_num, H2.out.2.2.1, H2.out.1, H2.out.2.2.2.1, H2.out.2.1, ((VK.out.1.trans H1.out.2.2.2.2.1).trans H2.out.2.2.2.2.1).mono (by simp), (VK.out.2.trans H1.out.2.2.2.2.2.1).trans H2.out.2.2.2.2.2⟩
                case measure => simp [intOf]; omega
            · have hin : ¬ (i : Int) < (S.In k : Int) := by omega
              go_wp2_with fail
              have I3 : Hid _ := I2.out.imps (N' := tot S (k + 1)) KB.out.1 KB.out.2 R2.out (by have := HI.out.num; omega)
              refine (add32 w.heap.size w.heap.size k _ (.string path) (.slice none 0 0) dv ds _ I3.out.file (Nat.le_refl _) I3.out.od (by omega)).mono ?_
              intro e w4 hp
              obtain rfl := hp.1
              obtain ⟨dv', ds', hinv⟩ := I3.out.other hp ⟨_, .inr rfl⟩ h1
              have HV : Hid _ := hinv
              clear hp hinv
              go_wp2_with fail
              go_roundw
              case rel => exact ⟨k + 1, dv', ds', bs, _, ts, _, nt, by omega, by go_num, HV.out⟩
              case measure => simp [intOf]; omega
    · obtain rfl : k = n := by omega
      have hkn : ¬ (k : Int) < (k : Int) := by omega
      have HI : Hid _ := inv
      clear inv
      go_wp2_with fail
      refine bodyPost_ret (v := .tuple #[.pointer (some ⟨w.heap.size, 0, none⟩), u9, u10, u11]) (by simp [results, Try.results15, go_sem]) rfl ⟨u9, u10, u11, rfl, dv, ds, bs, is, ts, ni, nt, HI.out⟩
end Go.Proofs.Qxb6613588a.Build
