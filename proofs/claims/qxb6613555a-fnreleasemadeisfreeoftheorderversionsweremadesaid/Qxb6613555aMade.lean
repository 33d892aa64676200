import Derived.Test.Qxb6613555aSorts
import Derived.Test.Qxb6613555aBuild
/- releaseMade walked -/
namespace Go.Proofs.Qxb6613555a.Made
open Go.ChangeShapes Go.WideShapes Go.ChangeAt Go.RowKit Base Rec Set Chain Phase Release Sorts Build

/-- the reads released by the first d of n's versions -/
def outs (ho : Nat → Int) (L : List Nat) (rev : Bool) (M : Nat) : Nat → List Nat
  | 0 => []
  | d + 1 => outs ho L rev M d ++ cls ho L (J rev M (M - 1 - d))
variable {ho : Nat → Int} {L : List Nat} {rev : Bool} {M : Nat}
theorem mem_outs {d x : Nat} : x ∈ outs ho L rev M d ↔ ∃ e, e < d ∧ x ∈ cls ho L (J rev M (M - 1 - e)) := by
  induction d with
  | zero => simp [outs]
  | succ d ih =>
    rw [outs, List.mem_append, ih]
    constructor
    · rintro (⟨e, h1, h2⟩ | h)
      · exact ⟨e, by omega, h2⟩
      · exact ⟨d, by omega, h⟩
    · rintro ⟨e, h1, h2⟩
      by_cases h : e = d
      · subst h; exact .inr h2
      · exact .inl ⟨e, by omega, h2⟩
theorem outs_nodup (hL : L.Nodup) : ∀ d, d ≤ M → (outs ho L rev M d).Nodup
  | 0, _ => by simp [outs]
  | d + 1, h => by
    rw [outs, List.nodup_append]
    refine ⟨outs_nodup hL d (by omega), List.Nodup.sublist List.filter_sublist hL, fun a ha b hb hab => ?_⟩
    subst hab
    obtain ⟨e, h1, h2⟩ := mem_outs.1 ha
    have a1 := (mem_cls.1 h2).2
    have a2 := (mem_cls.1 hb).2
    have : J rev M (M - 1 - e) = J rev M (M - 1 - d) := by omega
    have := J_inj (by omega) (by omega) this
    omega
theorem outs_perm (hL : L.Nodup) (hb : ∀ x, x ∈ L → 0 ≤ ho x ∧ ho x < M) : (outs ho L rev M M).Perm L := by
  refine (List.perm_ext_iff_of_nodup (outs_nodup hL M (Nat.le_refl _)) hL).2 fun x => ?_
  rw [mem_outs]
  constructor
  · rintro ⟨e, _, h⟩; exact (mem_cls.1 h).1
  · intro hx
    obtain ⟨h1, h2⟩ := hb x hx
    obtain ⟨j, hj⟩ : ∃ j : Nat, ho x = (j : Int) := ⟨(ho x).toNat, by omega⟩
    have hjM : j < M := by omega
    cases rev with
    | true => exact ⟨j, hjM, mem_cls.2 ⟨hx, by rw [hj]; unfold J; simp; omega⟩⟩
    | false => exact ⟨M - 1 - j, by omega, mem_cls.2 ⟨hx, by rw [hj]; unfold J; simp; omega⟩⟩
theorem outs_mono {d e : Nat} (h : d ≤ e) : (outs ho L rev M d).length ≤ (outs ho L rev M e).length := by
  induction e with
  | zero => obtain rfl : d = 0 := by omega
            exact Nat.le_refl _
  | succ e ih =>
    by_cases hd : d = e + 1
    · subst hd; exact Nat.le_refl _
    · have := ih (by omega)
      rw [outs, List.length_append]; omega
theorem freed_app (F : Nat → Nat → Value) (l1 l2 : List Nat) : freed (freed F l1) l2 = freed F (l1 ++ l2) := by
  funext i k
  unfold freed
  by_cases h1 : k = 1 <;> by_cases h2 : i ∈ l1 <;> by_cases h3 : i ∈ l2 <;> simp [h1, h2, h3]
theorem freed_perm (F : Nat → Nat → Value) {l1 l2 : List Nat} (h : l1.Perm l2) : freed F l1 = freed F l2 := by
  funext i k
  unfold freed
  simp [h.mem_iff]
theorem flatMap_eq {f g : Nat → List Value} : ∀ {l : List Nat}, (∀ x, x ∈ l → f x = g x) → l.flatMap f = l.flatMap g
  | [], _ => rfl
  | a :: l, h => by rw [List.flatMap_cons, List.flatMap_cons, h a (by simp), flatMap_eq fun x hx => h x (by simp [hx])]
/-- the name of the item that a held read waits for -/
def ns (names : Nat → ByteArray) (mi ho : Nat → Int) (i : Nat) : ByteArray := names (mi (ho i).toNat).toNat

theorem mcells {B : Nat} {A : Adr} {s : St} {w : World} (h : MV B A s w) {p : Nat} (hp : p < s.M) : w.cell? ⟨A.Mt, p * 3, none⟩ = some (s.H p 0) ∧ w.cell? ⟨A.Mt, p * 3 + 1, none⟩ = some (s.H p 1) :=
  ⟨h.m.cell0 hp (by omega), h.m.cell hp (k := 1) (by omega)⟩
set_option maxRecDepth 100000 in
set_option maxHeartbeats 4000000 in
theorem made47 {B : Nat} {A : Adr} {s : St} {w : World} {N I M m : Nat} {n : Int} {nums since ho mi : Nat → Int} {names : Nat → ByteArray} {L : List Nat} {rev : Bool} {first last next rm : Nat → Int} (bt : Built B A s w N I M n nums since ho names mi L rev first last next rm) (pr : Prem N M I N N n ho mi)
    (hN : N ≤ 65536) (hLb : ∀ x, x ∈ L → x < N ∧ 0 ≤ ho x) (hnd : L.Nodup) (hst : L.Pairwise (fun a b => since a < since b)) (hLl : L.length ≤ 65536) (hn : n = (m : Int)) :
    Calls Try.prog 47 #[.pointer (some ⟨A.O, 0, none⟩), .int .i32 (m : Int)] w fun e w' => ∃ g2, e = .returned (.slice (some ⟨g2, 0, none⟩) L.length L.length) ∧ B ≤ g2 ∧ Rec w' g2 62 L.length 5 (Out L (RL since nums (ns names mi ho) (nums m))) ∧ MV B A { s with F := freed s.F L } w' ∧ Below B w w' := by
  have hmN : m < N := by have := pr.nN; omega
  have hM : M ≤ 65536 := by have := bt.mv.small.2.2; have := bt.dim.2.2; omega
  have hsN := bt.dim.1
  have hmS : m < s.N := by omega
  have cT : w.cell? ⟨A.T, m * 5 + 2, none⟩ = some (.int .i32 ((M : Int) - 1)) := by
    have := bt.mv.t.cell hmS (k := 2) (by omega)
    rw [this, bt.F m hmN]; simp [TX, txn, hn]
  have hperm := outs_perm (ho := ho) (rev := rev) (M := M) hnd (fun x hx => ⟨(hLb x hx).2, (pr.hoM x (hLb x hx).1).2⟩)
  have HPM : Hid ((outs ho L rev M M).Perm L) := hperm
  have hBw : B ≤ w.heap.size := by have := bt.mv.le.2.2.2.2.1; have := bt.mv.it.lt; omega
  have BT : Hid (Built B A s w N I M n nums since ho names mi L rev first last next rm) := bt
  have PR : Hid (Prem N M I N N n ho mi) := pr
  have HLB : Hid (∀ x, x ∈ L → x < N ∧ 0 ≤ ho x) := hLb
  have HND : Hid (L.Nodup) := hnd
  have HST : Hid (L.Pairwise (fun a b => since a < since b)) := hst
  have HOL : Hid (∀ d, d ≤ M → (outs ho L rev M d).length ≤ 65536) := fun d hd => by
    have := outs_mono (ho := ho) (L := L) (rev := rev) (M := M) hd
    have := hperm.length_eq
    omega
  have HNN : Hid (n = (m : Int)) := hn
  clear bt pr hLb hnd hst hperm hn hsN
  go_enter Try.func47, Try.ntmps47
  go_wp2_with fail
  refine (at48 A.O 3 A.T1 A.T s.N s.N m w hmS BT.out.mv.small.1 BT.out.mv.c3 BT.out.mv.d1).mono ?_
  rintro e w1 ⟨rfl, rfl⟩
  go_wp2_with fail
  go_loopw [5, 6] (fun rv v wr => ∃ d : Nat, d ≤ M ∧ v = .int .i32 ((M : Int) - d - 1) ∧ wr.ownsRow B 179 6 rv (outs ho L rev M d).length ((outs ho L rev M d).flatMap (RL since nums (ns names mi ho) (nums m))) ∧ MV B A { s with F := freed s.F (outs ho L rev M d) } wr ∧ Below B w1 wr) (fun _ v _ => (intOf v + 1).toNat)
  case atStart => exact ⟨0, by omega, by go_num, World.ownsRow_nil _ _ _ _, by rw [show outs ho L rev M 0 = [] from rfl, freed_nil]; exact BT.out.mv, Below.refl _ _⟩
  case round =>
    obtain ⟨d, hd, rfl, ow, mv, bl⟩ := hrel
    have OW : Hid (wr.ownsRow B 179 6 u5 (outs ho L rev M d).length ((outs ho L rev M d).flatMap (RL since nums (ns names mi ho) (nums m)))) := ow
    have MV1 : Hid (MV B A { s with F := freed s.F (outs ho L rev M d) } wr) := mv
    have BL : Hid (Below B w1 wr) := bl
    have hBr : B ≤ wr.heap.size := by have := bl.size; omega
    clear ow mv bl
    by_cases hdM : d < M
    · obtain ⟨p, hp⟩ : ∃ p : Nat, p = M - 1 - d := ⟨_, rfl⟩
      have hpM : p < M := by omega
      have hpe : (M : Int) - (d : Int) - 1 = (p : Int) := by omega
      rw [hpe]
      obtain ⟨j, hj⟩ : ∃ j, j = J rev M p := ⟨_, rfl⟩
      have hjM : j < M := by rw [hj]; exact J_lt hpM
      obtain ⟨x, hx⟩ : ∃ x : Nat, mi j = (x : Int) := ⟨(mi j).toNat, by have := (PR.out.mi0 j hjM).1; omega⟩
      have hxI : x < I := by have := (PR.out.mi0 j hjM).2; omega
      have hxS : x < s.I := by rw [BT.out.dim.2.1]; exact hxI
      have hpS : p < s.M := by rw [BT.out.dim.2.2]; exact hpM
      have hv := BT.out.v p hpM
      rw [← hj, hx, Int.toNat_natCast] at hv
      have own : wr.ownsRow B 160 5 (s.Vv x) (s.Ln x) (s.vs x) := MV1.out.own x hxS
      rw [hv.1, hv.2] at own
      obtain ⟨gv, cap, hV, _, _⟩ := own.form (by omega)
      rw [hV] at own
      have k8 : wr.cell? ⟨gv, 8, none⟩ = some (.int .i32 (first j)) := owns_cell own (by simp [v0, v1])
      have kv : wr.cell? ⟨A.It, x * 2 + 1, none⟩ = some (.slice (some ⟨gv, 0, none⟩) 2 cap) := by
        have := MV1.out.it.cell hxS (k := 1) (by omega)
        rw [this]; simp [item, hV]
      have hH := BT.out.H p hpM
      rw [← hj, hx] at hH
      have HH0 : Hid (s.H p 0 = .int .i32 (x : Int)) := by show _ = _; rw [hH]; rfl
      have HH1 : Hid (s.H p 1 = .int .i32 1) := by show _ = _; rw [hH]; rfl
      have HH2 : Hid (s.H p 2 = .int .i32 ((p : Int) - 1)) := by show _ = _; rw [hH]; rfl
      have m0 : wr.cell? ⟨A.Mt, p * 3, none⟩ = some (.int .i32 (x : Int)) := by rw [← HH0.out]; exact MV1.out.m.cell0 hpS (by omega)
      have m1 : wr.cell? ⟨A.Mt, p * 3 + 1, none⟩ = some (.int .i32 1) := by rw [← HH1.out]; exact MV1.out.m.cell hpS (k := 1) (by omega)
      have HV2 : Hid (s.Ln x = 2 ∧ s.vs x = v0 ++ v1 n (rm j) (first j) (last j)) := hv
      have HOU : Hid (outs ho L rev M (d + 1) = outs ho L rev M d ++ cls ho L j) := by show _ = _; rw [hj, hp]; rfl
      have HCL : Hid (∀ i, i ∈ cls ho L j → i < s.N ∧ s.F i 0 = .int .i32 (nums i) ∧ s.F i 3 = .int .i32 (since i) ∧ s.F i 4 = .int .i32 (next i)) := fun i hi => by
        obtain ⟨h1, h2⟩ := mem_cls.1 hi
        obtain ⟨h3, h4⟩ := HLB.out i h1
        rw [BT.out.F i h3]
        refine ⟨by rw [BT.out.dim.1]; exact h3, rfl, ?_, rfl⟩
        simp [TX, txn, h4]
      have HRL : Hid ((cls ho L j).flatMap (rel nums since (s.nm x) (nums m)) = (cls ho L j).flatMap (RL since nums (ns names mi ho) (nums m))) := flatMap_eq fun i hi => by
        have h2 := (mem_cls.1 hi).2
        unfold RL
        rw [BT.out.nm x hxI]
        unfold ns
        rw [h2, Int.toNat_natCast, hx, Int.toNat_natCast]
      obtain ⟨ph, hph⟩ : ∃ ph, freed s.F (outs ho L rev M d) m 1 = .int .u8 ph := by
        unfold freed
        split
        · exact ⟨0, rfl⟩
        · rw [BT.out.F m hmN]; exact ⟨_, rfl⟩
      have HPH : Hid (freed s.F (outs ho L rev M d) m 1 = .int .u8 ph) := hph
      have HP0 : Hid (freed s.F (outs ho L rev M d) m 0 = .int .i32 (nums m)) := by
        show _ = _
        rw [freed_ne _ _ _ (by omega), BT.out.F m hmN]; rfl
      have hle := HOL.out (d + 1) hdM
      rw [HOU.out, List.length_append] at hle
      have hsM : s.M ≤ 65536 := by rw [BT.out.dim.2.2]; exact hM
      have hsI : s.I ≤ 65536 := BT.out.mv.small.2.1
      have hpp : d + 1 + p = M := by omega
      clear hv own hH hph hp hj hx hV hpe cT
      go_wp2_with fail
      refine (at53 A.O 8 A.M1 A.Mt s.M s.M p wr hpS hsM MV1.out.c8 MV1.out.d3).mono ?_
      rintro e w2 ⟨rfl, rfl⟩
      have hx64 : IntKind.i64.wrap (x : Int) = (x : Int) := IntWalk.i64_in _ (by omega)
      have hxI2 : (x : Int) < (s.I : Int) := by omega
      have MD : Hid (MV B A { s with F := freed s.F (outs ho L rev M d) } w2.drew) := MV1.out.keep (KeepT.refl [] _).drew (by decide)
      go_wp2_with fail
      go_region_held3 (fun w' => w'.cell? ⟨A.Mt, p * 3, none⟩ = some (.int .i32 (x : Int)) ∧ w'.cell? ⟨A.Mt, p * 3 + 1, none⟩ = some (.int .i32 1) ∧ w'.cell? ⟨A.It, x * 2 + 1, none⟩ = some (.slice (some ⟨gv, 0, none⟩) 2 cap) ∧ w'.cell? ⟨gv, 8, none⟩ = some (.int .i32 (first j))) (go_keep)
        (first | (go_at_call 52; refine (at52 A.O 6 A.I1 A.It s.I s.I x _ hxS hsI MD.out.c6 MD.out.d2).mono ?_; rintro e w' ⟨rfl, rfl⟩))
      rename_i hHeld
      have OD : Hid (w2.drew.ownsRow B 179 6 u5 (outs ho L rev M d).length ((outs ho L rev M d).flatMap (RL since nums (ns names mi ho) (nums m)))) := World.ownsRow.drew OW.out
      have BD : Hid (Below B w1 w2.drew) := BL.out.drew
      clear hHeld k8 kv m0 m1 OW BL MV1
      generalize w2.drew = w3 at *
      have m0 : w3.cell? ⟨A.Mt, p * 3, none⟩ = some (.int .i32 (x : Int)) := by rw [← HH0.out]; exact MD.out.m.cell0 hpS (by omega)
      have m1 : w3.cell? ⟨A.Mt, p * 3 + 1, none⟩ = some (.int .i32 1) := by rw [← HH1.out]; exact MD.out.m.cell hpS (k := 1) (by omega)
      have MD2 : Hid (MV B A { s with F := freed s.F (outs ho L rev M d) } w3.drew) := MD.out.keep (KeepT.refl [] _).drew (by decide)
      have OD2 : Hid (w3.drew.ownsRow B 179 6 u5 (outs ho L rev M d).length ((outs ho L rev M d).flatMap (RL since nums (ns names mi ho) (nums m)))) := World.ownsRow.drew OD.out
      have BD2 : Hid (Below B w1 w3.drew) := BD.out.drew
      have HFF : Hid (∀ i, i ∈ cls ho L j → i < s.N ∧ freed s.F (outs ho L rev M d) i 0 = .int .i32 (nums i) ∧ freed s.F (outs ho L rev M d) i 3 = .int .i32 (since i) ∧ freed s.F (outs ho L rev M d) i 4 = .int .i32 (next i)) := fun i hi => by
        obtain ⟨h1, h2, h3, h4⟩ := HCL.out i hi
        exact ⟨h1, (freed_ne s.F (outs ho L rev M d) i (by omega)).trans h2, (freed_ne s.F (outs ho L rev M d) i (by omega)).trans h3, (freed_ne s.F (outs ho L rev M d) i (by omega)).trans h4⟩
      go_wp2_with fail
      go_region_held3 (fun w' => w'.cell? ⟨A.Mt, p * 3, none⟩ = some (.int .i32 (x : Int)) ∧ w'.cell? ⟨A.Mt, p * 3 + 1, none⟩ = some (.int .i32 1)) (go_keep)
        (first | (go_at_call 54; refine (held54 MD2.out x m (outs ho L rev M d).length n (nums m) ph (rm j) (first j) (last j) nums since next (cls ho L j) u5 _ hxS HV2.out.1 HV2.out.2 HNN.out hmS HP0.out HPH.out HFF.out (BT.out.lists.first j hjM) OD2.out hle).mono ?_; rintro e w4 ⟨R', rfl, hpost⟩; have HPO : Hid _ := hpost; clear hpost; have z0 : w4.cell? ⟨A.Mt, p * 3, none⟩ = some (.int .i32 (x : Int)) := (mcells HPO.out.2.1 hpS).1.trans (congrArg some HH0.out); have z1 : w4.cell? ⟨A.Mt, p * 3 + 1, none⟩ = some (.int .i32 1) := (mcells HPO.out.2.1 hpS).2.trans (congrArg some HH1.out)))
      rename_i hHeld
      clear hHeld z0 z1 m0 m1 HFF OD BD MD
      have MN : Hid (MV B A { s with F := freed s.F (outs ho L rev M (d + 1)) } w4) := by
        have h := HPO.out.2.1
        simp only [freed_app] at h
        show MV _ _ _ _
        rw [HOU.out]; exact h
      have ON : Hid (w4.ownsRow B 179 6 R' (outs ho L rev M (d + 1)).length ((outs ho L rev M (d + 1)).flatMap (RL since nums (ns names mi ho) (nums m)))) := by
        show World.ownsRow _ _ _ _ _ _ _
        rw [HOU.out, List.length_append, List.flatMap_append, ← HRL.out]; exact HPO.out.1
      have BN : Hid (Below B w1 w4) := BD2.out.trans HPO.out.2.2.2
      clear HPO MD2 OD2 BD2
      have m2 : w4.cell? ⟨A.Mt, p * 3 + 2, none⟩ = some (.int .i32 ((p : Int) - 1)) := by rw [← HH2.out]; exact MN.out.m.cell hpS (k := 2) (by omega)
      go_wp2_with fail
      refine (at53 A.O 8 A.M1 A.Mt s.M s.M p w4 hpS hsM MN.out.c8 MN.out.d3).mono ?_
      rintro e w5 ⟨rfl, rfl⟩
      go_wp2_with fail
      go_roundw
      case rel => exact ⟨d + 1, by omega, by go_num, ON.out, MN.out, BN.out⟩
      case measure => simp [intOf]
    · obtain rfl : M = d := by omega
      have hpn : ¬ (0 : Int) ≤ (M : Int) - (M : Int) - 1 := by omega
      have hx : (M : Int) - (M : Int) - 1 = -1 := by omega
      rw [hx]
      go_wp2_with (go_at_call 55; refine (order55 B u5 since nums (ns names mi ho) (nums m) (outs ho L rev M M) L wr OW.out (HOL.out M (Nat.le_refl _)) HPM.out.symm HST.out hBr).mono ?_; rintro e w2 ⟨g2, rfl, hg2, hrec, hkp, hbl⟩; have HR : Hid (Rec w2 g2 62 L.length 5 (Out L (RL since nums (ns names mi ho) (nums m)))) := hrec; have HK : Hid (KeepT [179, 62] wr w2) := hkp; have HB : Hid (Below B wr w2) := hbl; clear hrec hkp hbl)
      go_ret
      exact ⟨g2, rfl, hg2, HR.out, by rw [← freed_perm s.F HPM.out]; exact MV1.out.keep HK.out (by decide), BL.out.trans HB.out⟩
end Go.Proofs.Qxb6613555a.Made
