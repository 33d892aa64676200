import Derived.Test.Qxb6613588aBuild
import Derived.Test.Qxb6613588aCount
import Derived.Test.Qxb6613588aSize
import Derived.Test.Qxb6613588aBytes
import Derived.LaidEqlPtr
namespace Go.Proofs.Qxb6613588a.Main
open Go.ChangeShapes Go.WideShapes Go.ChangeAt Go.RowKit Base Mem Qxb6613588a.Add Info Qxb6613588a.Inv Rows2 Count Size Bytes Build

theorem und46 : Try.prog.underlying 46 = some (.pointer 50) := by kernel_rfl
theorem has50 : (Try.prog.info? 50).isSome = true := by kernel_rfl
theorem eql46 (q : Addr) (w : World) : (binOp .eql 46 (.pointer (some q)) (.pointer (some q))).run Try.prog w = .ok (.bool true) w := by
  obtain ⟨j, hj⟩ := Option.isSome_iff_exists.1 has50
  exact run_eql_ptr_same w q und46 hj
attribute [local go_sem] eql46
theorem decl_below {S : Specs} {w w' : World} {b o i : Nat} (h : Decl S w b o i) (hb : Below w.heap.size w w') : Decl S w' b o i := by
  have cb : ∀ g j v, w.cell? ⟨g, j, none⟩ = some v → w'.cell? ⟨g, j, none⟩ = some v := fun g j v h => (hb.cell (p := ⟨g, j, none⟩) (cell_lt h)).trans h
  refine ⟨cb _ _ _ h.kind, cb _ _ _ h.imps, cb _ _ _ h.tys, ⟨h.ir.1, h.ir.2.1, fun h0 => ?_⟩, ⟨h.tr.1, h.tr.2.1, fun h0 => ?_⟩⟩
  · obtain ⟨b', o', P, F, L, C, ha, hc⟩ := h.ir.2.2 h0
    refine ⟨b', o', P, F, L, C, ha, fun j hj => ?_⟩
    obtain ⟨p0, p1, p2, p3, r⟩ := hc j hj
    exact ⟨cb _ _ _ p0, cb _ _ _ p1, cb _ _ _ p2, cb _ _ _ p3, r⟩
  · obtain ⟨b', o', P, ha, hc⟩ := h.tr.2.2 h0
    exact ⟨b', o', P, ha, fun j hj => ⟨cb _ _ _ (hc j hj).1, (hc j hj).2⟩⟩
theorem cnt_mono (S : Specs) : ∀ i j, i ≤ j → cnt S i ≤ cnt S j := by
  intro i j h
  induction j with
  | zero => obtain rfl : i = 0 := by omega
            exact Nat.le_refl _
  | succ j ih =>
    by_cases e : i = j + 1
    · subst e; exact Nat.le_refl _
    · have := ih (by omega)
      simp only [cnt]; omega
theorem tot_mono (S : Specs) : ∀ i j, i ≤ j → tot S i ≤ tot S j := by
  intro i j h
  induction j with
  | zero => obtain rfl : i = 0 := by omega
            exact Nat.le_refl _
  | succ j ih =>
    by_cases e : i = j + 1
    · subst e; exact Nat.le_refl _
    · have := ih (by omega)
      simp only [tot]; omega
theorem cnt_none (S : Specs) {i j : Nat} (hij : cnt S (i) = cnt S j) {p : Nat} (h1 : i ≤ p) (h2 : p < j) : S.K p ≠ 1 := by
  intro h
  have a := cnt_mono S i p h1
  have b := cnt_mono S (p + 1) j h2
  simp only [cnt, h, if_true] at b
  omega
/-- the one info's place -/
theorem cnt_one (S : Specs) : ∀ n, cnt S n = 1 → ∃ p, p < n ∧ S.K p = 1 ∧ cnt S p = 0
  | 0, h => by simp [cnt] at h
  | n + 1, h => by
    by_cases e : S.K n = 1
    · simp [cnt, e] at h
      exact ⟨n, by omega, e, h⟩
    · simp [cnt, e] at h
      obtain ⟨p, hp, h1, h2⟩ := cnt_one S n h
      exact ⟨p, by omega, h1, h2⟩
theorem cell_two {w : World} {a : Addr} {v : Value} (h : w.cell? a = some v) (o1 o2 : Obj) : ((w.alloc o1).alloc o2).cell? a = some v := by
  have hl := cell_lt h
  have e : ((w.alloc o1).alloc o2).heap[a.block]? = w.heap[a.block]? := by
    rw [Below.heap_alloc (w.alloc o1) o2 a.block (by simp; omega), Below.heap_alloc w o1 a.block hl]
  exact (World.cell?_of_block e).trans h
theorem cell_fst (w : World) (x y z : Value) (t : TypeId) (o : Obj) : ((w.alloc (.cells #[x, y, z] t)).alloc o).cell? ⟨w.heap.size, 1, none⟩ = some y :=
  cell_mid (heap_alloc_cells (heap_alloc_new w _) o)
theorem cell_snd (w : World) (o : Obj) (x y z : Value) (t : TypeId) : ((w.alloc o).alloc (.cells #[x, y, z] t)).cell? ⟨w.heap.size + 1, 1, none⟩ = some y :=
  cell_mid (heap_new (by simp) _)
theorem own_cell {w : World} {B : Nat} {e : TypeId} {g n m cap : Nat} {xs : List Value} (ho : w.ownsRow B e 1 (.slice (some ⟨g, 0, none⟩) n cap) m xs) {i : Nat} {v : Value} (h : xs[i]? = some v) : w.cell? ⟨g, i, none⟩ = some v := by
  have := ho.cells (g := g) rfl i v h
  by_cases e : i = 0
  · subst e; simpa [Addr.add] using this
  · simpa [Addr.add, e] using this

set_option maxRecDepth 100000 in
set_option maxHeartbeats 8000000 in
theorem main_pos (S : Specs) (path : ByteArray) (b o n c : Nat) (k : Int) (w : World) (h0 : 0 < n) (hn : n ≤ maxLen) (hp : path.size ≤ maxLen) (hb : b < w.heap.size) (hS : ∀ i, i < n → Decl S w b o i) :
    Calls Try.prog 7 #[.string path, .slice (some ⟨b, o, none⟩) n c, .int .i64 k] w fun e w' => e = .returned (.bool true) ∧ Below w.heap.size w w' := by
  have HS : Hid (∀ i, i < n → Decl S w b o i) := hS
  clear hS
  go_enter Try.func7, Try.ntmps7
  go_wp2_with fail
  refine (bytes_any S path b o n c k w hn hp HS.out).mono ?_
  rintro e w ⟨he, rfl⟩
  rcases he with rfl | ⟨rfl, hbt⟩
  · go_wp2_with fail
    go_ret
    exact ⟨rfl, Below.refl _ _⟩
  go_wp2_with fail
  refine (size_any S path b o n c w (by omega) HS.out).mono ?_
  rintro e w ⟨⟨r, rfl⟩, rfl⟩
  by_cases hr : 1048576 < r
  · have hr' : decide (1048576 < r) = true := by simpa using hr
    go_wp2_with fail
    go_ret
    exact ⟨rfl, Below.refl _ _⟩
  have hr' : decide (1048576 < r) = false := by simpa using hr
  by_cases hk0 : k < 0
  · have hk' : decide (k < 0) = true := by simpa using hk0
    go_wp2_with fail
    go_ret
    exact ⟨rfl, Below.refl _ _⟩
  have hk' : decide (k < 0) = false := by simpa using hk0
  by_cases hk1 : (n : Int) < k
  · have hk1' : decide ((n : Int) < k) = true := by simpa using hk1
    go_wp2_with fail
    go_ret
    exact ⟨rfl, Below.refl _ _⟩
  obtain ⟨k, rfl⟩ : ∃ x : Nat, k = x := ⟨k.toNat, by omega⟩
  have hk1' : decide (n < k) = false := by simp; omega
  have hk2' : decide ((n : Int) < (k : Int)) = false := by simpa using hk1
  have hkn : k ≤ n := by omega
  go_wp2_with fail
  refine (count_any S b o n c n w (by omega) (Nat.le_refl _) HS.out).mono ?_
  rintro e w ⟨⟨x1, x2, rfl⟩, rfl⟩
  have hcn := cnt_le S n
  by_cases hc1 : 1 < cnt S n
  · have hc1' : decide (1 < cnt S n) = true := by simpa using hc1
    go_wp2_with fail
    go_ret
    exact ⟨rfl, Below.refl _ _⟩
  have hc1' : decide (1 < cnt S n) = false := by simpa using hc1
  go_wp2_with fail
  refine (build_any S path b o n c w hbt (fun i hi => tot_mono S _ _ hi) HS.out hb).mono ?_
  rintro e w1 ⟨iv, tv, bv, dv, ds, bs, is, ts, ni, nt, rfl, inv⟩
  have hcb : ∀ i, i < n → Decl S w1 b o i := fun i hi => decl_below (HS.out i hi) inv.below
  have HS1 : Hid _ := hcb
  have HI : Hid _ := inv
  clear hcb inv
  obtain ⟨ck, hck⟩ : ∃ ck, ck = cnt S k := ⟨_, rfl⟩
  go_wp2_with fail
  refine (count_any S b o n c k w1 (by omega) hkn HS1.out).mono ?_
  rintro e w1 ⟨⟨x3, x4, rfl⟩, rfl⟩
  clear HS1
  obtain ⟨g, cap, rfl, hBg, hgl, hnc, hcm⟩ := owns_form HI.out.od h0
  unfold maxLen at hcm
  have hf := cell_mid HI.out.file
  have hfl := cell_lt hf
  have hkc : k ≤ cap := by omega
  have hkcap : (k : Int) ≤ (cap : Int) := by omega
  have hknI : (k : Int) ≤ (n : Int) := by omega
  by_cases hc0 : cnt S n = 0
  · have hck0 : cnt S k = 0 := by have := cnt_mono S k n hkn; omega
    have HO : Hid (∀ i, i < n → ∃ v, w1.cell? ⟨g, i, none⟩ = some v ∧ Other v) := fun i hi => by
      obtain ⟨v, hv, ho⟩ := (HI.out.decls i hi).2 (cnt_none S (i := 0) (j := n) (by simp [cnt, hc0]) (Nat.zero_le _) hi)
      exact ⟨v, own_cell HI.out.od hv, ho⟩
    have hob := HI.out.ob
    rw [hc0] at hob
    rw [hck0]
    rcases owns_cases hob with ⟨rfl, _⟩ | ⟨gb, capb, rfl, _, _⟩
    · clear hob
      by_cases hkcp : k = cap
      · have e1 : n = k := by omega
        have e2 : n = cap := by omega
        clear hkcp
        subst e1
        subst e2
        go_wp2_with fail
        refine (info_none w.heap.size _ g 0 n n _ (cell_two hf _ _) (by unfold maxLen; omega) (fun _ => rfl) (fun i hi => ((HO.out (i) (by omega)).elim fun v h => ⟨v, by simpa using cell_two h.1 _ _, h.2⟩))).mono ?_
        rintro e w3 ⟨rfl, rfl⟩
        go_wp2_with fail
        refine (info_none w1.heap.size _ g 0 n n _ (cell_fst _ _ _ _ _ _) (by unfold maxLen; omega) (fun _ => rfl) (fun i hi => ((HO.out (i) (by omega)).elim fun v h => ⟨v, by simpa using cell_two h.1 _ _, h.2⟩))).mono ?_
        rintro e w3 ⟨rfl, rfl⟩
        go_wp2_with fail
        refine (info_none (w1.heap.size + 1) (some ⟨g, 0, none⟩) g 0 0 0 _ (cell_snd _ _ _ _ _ _) (by unfold maxLen; omega) (fun _ => rfl) (fun i hi => by omega)).mono ?_
        rintro e w3 ⟨rfl, rfl⟩
        go_wp2_with fail
        go_ret
        exact ⟨rfl, (HI.out.below.alloc (by omega) _).alloc (by simp; omega) _⟩
      · go_wp2_with fail
        refine (info_none w.heap.size _ g 0 n cap _ (cell_two hf _ _) (by unfold maxLen; omega) (fun _ => rfl) (fun i hi => ((HO.out (i) (by omega)).elim fun v h => ⟨v, by simpa using cell_two h.1 _ _, h.2⟩))).mono ?_
        rintro e w3 ⟨rfl, rfl⟩
        go_wp2_with fail
        refine (info_none w1.heap.size _ g 0 k cap _ (cell_fst _ _ _ _ _ _) (by unfold maxLen; omega) (fun _ => rfl) (fun i hi => ((HO.out (i) (by omega)).elim fun v h => ⟨v, by simpa using cell_two h.1 _ _, h.2⟩))).mono ?_
        rintro e w3 ⟨rfl, rfl⟩
        go_wp2_with fail
        refine (info_none (w1.heap.size + 1) _ g k (n - k) (cap - k) _ (cell_snd _ _ _ _ _ _) (by unfold maxLen; omega) (fun _ => rfl) (fun i hi => ((HO.out (k + i) (by omega)).elim fun v h => ⟨v, by simpa using cell_two h.1 _ _, h.2⟩))).mono ?_
        rintro e w3 ⟨rfl, rfl⟩
        go_wp2_with fail
        go_ret
        exact ⟨rfl, (HI.out.below.alloc (by omega) _).alloc (by simp; omega) _⟩
    · clear hob
      by_cases hkcp : k = cap
      · have e1 : n = k := by omega
        have e2 : n = cap := by omega
        clear hkcp
        subst e1
        subst e2
        go_wp2_with fail
        refine (info_none w.heap.size _ g 0 n n _ (cell_two hf _ _) (by unfold maxLen; omega) (fun _ => rfl) (fun i hi => ((HO.out (i) (by omega)).elim fun v h => ⟨v, by simpa using cell_two h.1 _ _, h.2⟩))).mono ?_
        rintro e w3 ⟨rfl, rfl⟩
        go_wp2_with fail
        refine (info_none w1.heap.size _ g 0 n n _ (cell_fst _ _ _ _ _ _) (by unfold maxLen; omega) (fun _ => rfl) (fun i hi => ((HO.out (i) (by omega)).elim fun v h => ⟨v, by simpa using cell_two h.1 _ _, h.2⟩))).mono ?_
        rintro e w3 ⟨rfl, rfl⟩
        go_wp2_with fail
        refine (info_none (w1.heap.size + 1) (some ⟨g, 0, none⟩) g 0 0 0 _ (cell_snd _ _ _ _ _ _) (by unfold maxLen; omega) (fun _ => rfl) (fun i hi => by omega)).mono ?_
        rintro e w3 ⟨rfl, rfl⟩
        go_wp2_with fail
        go_ret
        exact ⟨rfl, (HI.out.below.alloc (by omega) _).alloc (by simp; omega) _⟩
      · go_wp2_with fail
        refine (info_none w.heap.size _ g 0 n cap _ (cell_two hf _ _) (by unfold maxLen; omega) (fun _ => rfl) (fun i hi => ((HO.out (i) (by omega)).elim fun v h => ⟨v, by simpa using cell_two h.1 _ _, h.2⟩))).mono ?_
        rintro e w3 ⟨rfl, rfl⟩
        go_wp2_with fail
        refine (info_none w1.heap.size _ g 0 k cap _ (cell_fst _ _ _ _ _ _) (by unfold maxLen; omega) (fun _ => rfl) (fun i hi => ((HO.out (i) (by omega)).elim fun v h => ⟨v, by simpa using cell_two h.1 _ _, h.2⟩))).mono ?_
        rintro e w3 ⟨rfl, rfl⟩
        go_wp2_with fail
        refine (info_none (w1.heap.size + 1) _ g k (n - k) (cap - k) _ (cell_snd _ _ _ _ _ _) (by unfold maxLen; omega) (fun _ => rfl) (fun i hi => ((HO.out (k + i) (by omega)).elim fun v h => ⟨v, by simpa using cell_two h.1 _ _, h.2⟩))).mono ?_
        rintro e w3 ⟨rfl, rfl⟩
        go_wp2_with fail
        go_ret
        exact ⟨rfl, (HI.out.below.alloc (by omega) _).alloc (by simp; omega) _⟩
  · have hcn1 : cnt S n = 1 := by omega
    obtain ⟨p, hpn, hKp, hcp0⟩ := cnt_one S n hcn1
    have hcp1 : cnt S (p + 1) = 1 := by simp [cnt, hKp, hcp0]
    obtain ⟨A, q, hdp, hAh, hbp⟩ := (HI.out.decls p hpn).1 hKp
    rw [hcp0] at hbp
    have hob := HI.out.ob
    rw [hcn1] at hob
    obtain ⟨gb, capb, rfl, _, hgbl, hb1, _⟩ := owns_form hob (by omega)
    have hcp := own_cell HI.out.od hdp
    have hA : w1.cell? ⟨A, 0, none⟩ = some (.pointer (some q)) := by simp [World.cell?, hAh]
    have hbq := own_cell hob hbp
    have HO : Hid (∀ i, i < n → i ≠ p → ∃ v, w1.cell? ⟨g, i, none⟩ = some v ∧ Other v) := fun i hi hip => by
      obtain ⟨v, hv, ho⟩ := (HI.out.decls i hi).2 (by
        rcases Nat.lt_or_ge i p with h | h
        · exact cnt_none S (i := 0) (j := p) (by simp [cnt, hcp0]) (Nat.zero_le _) h
        · exact cnt_none S (i := p + 1) (j := n) (by rw [hcp1, hcn1]) (by omega) hi)
      exact ⟨v, own_cell HI.out.od hv, ho⟩
    clear hob hdp hAh hbp
    by_cases hpk : p < k
    · have hck1 : cnt S k = 1 := by
        have h1 := cnt_mono S (p + 1) k hpk
        have h2 := cnt_mono S k n hkn
        omega
      rw [hck1]
      by_cases hkcp : k = cap
      · have e1 : n = k := by omega
        have e2 : n = cap := by omega
        clear hkcp
        subst e1
        subst e2
        go_wp2_with fail
        refine (info_hit w.heap.size g 0 n n p A _ _ (cell_two hf _ _) (by unfold maxLen; omega) (by omega) (fun i hi => ((HO.out (i) (by omega) (by omega)).elim fun v h => ⟨v, by simpa using cell_two h.1 _ _, h.2⟩)) (by simpa using cell_two hcp _ _) (cell_two hA _ _)).mono ?_
        rintro e w3 ⟨rfl, rfl⟩
        go_wp2_with fail
        refine (info_hit w1.heap.size g 0 n n p A _ _ (cell_fst _ _ _ _ _ _) (by unfold maxLen; omega) (by omega) (fun i hi => ((HO.out (i) (by omega) (by omega)).elim fun v h => ⟨v, by simpa using cell_two h.1 _ _, h.2⟩)) (by simpa using cell_two hcp _ _) (cell_two hA _ _)).mono ?_
        rintro e w3 ⟨rfl, rfl⟩
        go_wp2_with fail
        refine (info_none (w1.heap.size + 1) (some ⟨g, 0, none⟩) g 0 0 0 _ (cell_snd _ _ _ _ _ _) (by unfold maxLen; omega) (fun _ => rfl) (fun i hi => by omega)).mono ?_
        rintro e w3 ⟨rfl, rfl⟩
        go_wp2_with fail
        go_ret
        exact ⟨rfl, (HI.out.below.alloc (by omega) _).alloc (by simp; omega) _⟩
      · go_wp2_with fail
        refine (info_hit w.heap.size g 0 n cap p A _ _ (cell_two hf _ _) (by unfold maxLen; omega) (by omega) (fun i hi => ((HO.out (i) (by omega) (by omega)).elim fun v h => ⟨v, by simpa using cell_two h.1 _ _, h.2⟩)) (by simpa using cell_two hcp _ _) (cell_two hA _ _)).mono ?_
        rintro e w3 ⟨rfl, rfl⟩
        go_wp2_with fail
        refine (info_hit w1.heap.size g 0 k cap p A _ _ (cell_fst _ _ _ _ _ _) (by unfold maxLen; omega) (by omega) (fun i hi => ((HO.out (i) (by omega) (by omega)).elim fun v h => ⟨v, by simpa using cell_two h.1 _ _, h.2⟩)) (by simpa using cell_two hcp _ _) (cell_two hA _ _)).mono ?_
        rintro e w3 ⟨rfl, rfl⟩
        go_wp2_with fail
        refine (info_none (w1.heap.size + 1) _ g k (n - k) (cap - k) _ (cell_snd _ _ _ _ _ _) (by unfold maxLen; omega) (fun _ => rfl) (fun i hi => ((HO.out (k + i) (by omega) (by omega)).elim fun v h => ⟨v, by simpa using cell_two h.1 _ _, h.2⟩))).mono ?_
        rintro e w3 ⟨rfl, rfl⟩
        go_wp2_with fail
        go_ret
        exact ⟨rfl, (HI.out.below.alloc (by omega) _).alloc (by simp; omega) _⟩
    · have hck1 : cnt S k = 0 := by have := cnt_mono S k p (by omega); omega
      rw [hck1]
      have hkcp : ¬ k = cap := by omega
      go_wp2_with fail
      refine (info_hit w.heap.size g 0 n cap p A _ _ (cell_two hf _ _) (by unfold maxLen; omega) (by omega) (fun i hi => ((HO.out (i) (by omega) (by omega)).elim fun v h => ⟨v, by simpa using cell_two h.1 _ _, h.2⟩)) (by simpa using cell_two hcp _ _) (cell_two hA _ _)).mono ?_
      rintro e w3 ⟨rfl, rfl⟩
      go_wp2_with fail
      refine (info_none w1.heap.size _ g 0 k cap _ (cell_fst _ _ _ _ _ _) (by unfold maxLen; omega) (fun _ => rfl) (fun i hi => ((HO.out (i) (by omega) (by omega)).elim fun v h => ⟨v, by simpa using cell_two h.1 _ _, h.2⟩))).mono ?_
      rintro e w3 ⟨rfl, rfl⟩
      go_wp2_with fail
      refine (info_hit (w1.heap.size + 1) g k (n - k) (cap - k) (p - k) A _ _ (cell_snd _ _ _ _ _ _) (by unfold maxLen; omega) (by omega) (fun i hi => ((HO.out (k + i) (by omega) (by omega)).elim fun v h => ⟨v, by simpa using cell_two h.1 _ _, h.2⟩)) (by rw [show k + (p - k) = p by omega]; exact cell_two hcp _ _) (cell_two hA _ _)).mono ?_
      rintro e w3 ⟨rfl, rfl⟩
      go_wp2_with fail
      go_ret
      exact ⟨rfl, (HI.out.below.alloc (by omega) _).alloc (by simp; omega) _⟩
end Go.Proofs.Qxb6613588a.Main
