import Derived.Test.Qxb6613555aRelease
import Derived.Shelf.SlSortCmp.WholeK
import Derived.Shelf.Lay
import Derived.Ground.SlsfProg
/- the released reads sorted: slices.SortFunc by the shelf -/
namespace Go.Proofs.Qxb6613555a
open Go.Shelf Go.RowKit Go.Lib Go.Sort
shelf_lay_g SlLaysF0.n6 Slsf 6 at Try 59 as Try.sortRel
end Go.Proofs.Qxb6613555a
namespace Go.Proofs.Qxb6613555a.Sorts
open Go.ChangeShapes Go.WideShapes Go.ChangeAt Go.RowKit Base Rec Set Chain Phase Release
open Go.Sort (flatK size_flatK get_flatK HoldsK holdsK_grow holdsK_ahead holdsK_putRowK putRowK putRow mapBlock grow grow_grow alloc_eq_grow heap_grow_old SWO PermIn SortedIn)

/-- a strictly sorted list is the only sorted permutation of itself -/
theorem uniq (sn : Nat → Int) : ∀ (L D : List Nat), L.Pairwise (fun a b => sn a < sn b) → D.Pairwise (fun a b => sn a ≤ sn b) → D.Perm L → D = L
  | [], D, _, _, hp => hp.eq_nil
  | a :: L, [], _, _, hp => absurd hp.symm.eq_nil (by simp)
  | a :: L, b :: D, hL, hD, hp => by
    obtain ⟨h1, h2⟩ := List.pairwise_cons.1 hL
    obtain ⟨h3, h4⟩ := List.pairwise_cons.1 hD
    have hb : b ∈ a :: L := hp.mem_iff.1 (by simp)
    have ha : a ∈ b :: D := hp.mem_iff.2 (by simp)
    have e : b = a := by
      rcases List.mem_cons.1 hb with e | e
      · exact e
      · rcases List.mem_cons.1 ha with e2 | e2
        · exact e2.symm
        · have := h1 b e; have := h3 a e2; omega
    subst e
    rw [uniq sn L D h2 h4 (List.Perm.cons_inv hp)]
theorem flat_get (enc : Nat → List Value) (k : Nat) (hk : ∀ x, (enc x).length = k) (h0 : 0 < k) : ∀ (l : List Nat) (t : Nat), t < l.length * k → (l.flatMap enc)[t]? = (enc l[t / k]!)[t % k]?
  | [], t, h => by simp at h
  | a :: l, t, h => by
    rw [List.flatMap_cons]
    by_cases ht : t < k
    · rw [List.getElem?_append_left (by rw [hk]; exact ht), Nat.div_eq_of_lt ht, Nat.mod_eq_of_lt ht]; rfl
    · obtain ⟨u, rfl⟩ : ∃ u, t = u + k := ⟨t - k, by omega⟩
      rw [List.getElem?_append_right (by rw [hk]; omega), hk, Nat.add_sub_cancel, flat_get enc k hk h0 l u (by simp [Nat.add_mul] at h; omega), Nat.add_div_right _ h0, Nat.add_mod_right]
      simp

/-- a released read -/
def RL (sn nums : Nat → Int) (ns : Nat → ByteArray) (wn : Int) (i : Nat) : List Value := rel nums sn (ns i) wn i

set_option maxRecDepth 100000 in
set_option maxHeartbeats 2000000 in
theorem nan65 (a : Int) (w : World) : Calls Try.prog 65 #[.int .i32 a] w fun e w' => e = .returned (.bool false) ∧ w' = w := by
  go_enter Try.func65, Try.ntmps65
  go_wp2_with fail
  go_ret
  exact ⟨rfl, rfl⟩
set_option maxRecDepth 100000 in
set_option maxHeartbeats 2000000 in
theorem cmp61 (a b : Int) (w : World) : Calls Try.prog 61 #[.int .i32 a, .int .i32 b] w fun e w' => e = .returned (.int .i64 (Lib.compareInt a b)) ∧ w' = w := by
  by_cases h1 : a < b
  · have e : Lib.compareInt a b = -1 := by unfold Lib.compareInt; simp [h1]
    have h1' : decide (a < b) = true := by simpa using h1
    rw [e]; clear e
    go_enter Try.func61, Try.ntmps61
    go_wp2_with (go_at_call 65; refine (nan65 _ _).mono ?_; rintro e w' ⟨rfl, rfl⟩)
    go_ret
    exact ⟨rfl, rfl⟩
  · have h1' : decide (a < b) = false := by simpa using h1
    by_cases h2 : b < a
    · have e : Lib.compareInt a b = 1 := by unfold Lib.compareInt; simp [h1, h2]
      have h2' : decide (b < a) = true := by simpa using h2
      rw [e]; clear e
      go_enter Try.func61, Try.ntmps61
      go_wp2_with (go_at_call 65; refine (nan65 _ _).mono ?_; rintro e w' ⟨rfl, rfl⟩)
      go_ret
      exact ⟨rfl, rfl⟩
    · have e : Lib.compareInt a b = 0 := by unfold Lib.compareInt; simp [h1, h2]
      have h2' : decide (b < a) = false := by simpa using h2
      rw [e]; clear e
      go_enter Try.func61, Try.ntmps61
      go_wp2_with (go_at_call 65; refine (nan65 _ _).mono ?_; rintro e w' ⟨rfl, rfl⟩)
      go_ret
      exact ⟨rfl, rfl⟩
set_option maxRecDepth 100000 in
set_option maxHeartbeats 2000000 in
theorem closure60 (a1 a2 a3 : Int) (n1 : ByteArray) (b1 b2 : Int) (n2 : ByteArray) (a4 b4 : Int) (W : World) : Calls Try.prog 60 #[.agg #[.int .i32 a1, .int .u8 a3, .int .i32 a2, .string n1, .int .i32 a4, .bool true], .agg #[.int .i32 b1, .int .u8 a3, .int .i32 b2, .string n2, .int .i32 b4, .bool true]] W fun e w' => e = .returned (.int .i64 (Lib.compareInt a1 b1)) ∧ ∃ q os', w' = grow (W.drewN q) os' := by
  have hcon := fun W' => cmp61 a1 b1 W'
  generalize Lib.compareInt a1 b1 = r at hcon ⊢
  go_enter Try.func60, Try.ntmps60
  go_wp2_with (go_at_call 61; refine (hcon _).mono ?_; rintro e w' ⟨rfl, rfl⟩)
  go_ret
  exact ⟨rfl, 0, _, by rw [alloc_eq_grow, alloc_eq_grow, grow_grow]; rfl⟩
theorem ltRL (sn : Nat → Int) (x y : Nat) : ltOf (fun x y : Nat => Lib.compareInt (sn x) (sn y)) x y = decide (sn x < sn y) := by
  unfold ltOf Lib.compareInt
  by_cases h1 : sn x < sn y
  · simp [h1]
  · by_cases h2 : sn y < sn x <;> simp [h1, h2]
theorem swoRL (sn : Nat → Int) : SWO (ltOf fun x y : Nat => Lib.compareInt (sn x) (sn y)) where
  irrefl x := by rw [ltRL]; simp
  trans x y z h1 h2 := by rw [ltRL] at *; simp at *; omega
  ntrans x y z h1 h2 := by rw [ltRL] at *; simp at *; omega

theorem RL_len (sn nums : Nat → Int) (ns : Nat → ByteArray) (wn : Int) (i : Nat) : (RL sn nums ns wn i).length = 6 := rfl
theorem RL_one (sn nums : Nat → Int) (ns : Nat → ByteArray) (wn : Int) (i : Nat) : ∀ v ∈ RL sn nums ns wn i, v.oneCell' = true := fun v hv => by
  simp [RL, rel] at hv
  rcases hv with rfl | rfl | rfl | rfl | rfl | rfl <;> rfl
theorem cmpLays (sn nums : Nat → Int) (ns : Nat → ByteArray) (wn : Int) (blk off size : Nat) (w : World) : CmpLays Try.prog 60 #[] (RL sn nums ns wn) 6 (fun x y => Lib.compareInt (sn x) (sn y)) blk off size w :=
  fun _ _ _ _ x y => closure60 (sn x) (nums x) 0 (ns x) (sn y) (nums y) (ns y) wn wn _
theorem grownBy_sortK {w : World} {g n k : Nat} {os : Array Obj} (enc : Nat → List Value) (d : Array Nat) : w.grownBy (sortWorldK enc k w g 0 n d os) (some g) := by
  refine ⟨rfl, rfl, rfl, by simp [sortWorldK, putRowK], fun k hk hne => ?_⟩
  unfold sortWorldK putRowK
  rw [heap_grow_old _ _ (by simpa using hk)]
  have : g ≠ k := fun e => hne (by rw [e])
  simp [putRow, mapBlock, Sort.ahead, Array.getElem?_modify, this]
theorem holds_owned {w : World} {B g n cap : Nat} {enc : Nat → List Value} {lst : List Nat} (hk : ∀ x, (enc x).length = 6) (ho : w.ownsRow B 179 6 (.slice (some ⟨g, 0, none⟩) n cap) n (lst.flatMap enc)) : HoldsK enc 6 w g 0 lst.toArray := by
  intro j hj
  have hj' : j < lst.length * 6 := by simpa using hj
  have h1 := flat_get enc 6 hk (by omega) lst j hj'
  have h2 : (enc lst[j / 6]!)[j % 6]? = some (enc lst[j / 6]!)[j % 6]! := by
    have hm : j % 6 < (enc lst[j / 6]!).length := by rw [hk]; exact Nat.mod_lt _ (by omega)
    rw [getElem!_pos (enc lst[j / 6]!) (j % 6) hm, List.getElem?_eq_getElem hm]
  rw [h2] at h1
  have c := owns_cell ho h1
  refine ⟨?_, ?_⟩
  · rw [Nat.zero_add, c, get_flatK _ _ _ _ (by simpa using hj')]
    simp
  · rcases ho.2 with ⟨h0, _⟩ | ⟨g', cap', cur, he, hb, hh, _⟩
    · cases h0
    · obtain ⟨rfl, rfl⟩ : g = g' ∧ cap = cap' := by simpa using he
      simp [World.frozen?, hh]

/-- what the sort leaves -/
def Sorted (B : Nat) (R : Value) (enc : Nat → List Value) (L : List Nat) (w w' : World) : Prop :=
  KeepT [179] w w' ∧ Below B w w' ∧ ∀ g n cap, R = .slice (some ⟨g, 0, none⟩) n cap → ∀ k c, k < L.length → c < 6 → w'.cell? ⟨g, k * 6 + c, none⟩ = some (enc L[k]!)[c]!
set_option maxRecDepth 100000 in
set_option maxHeartbeats 2000000 in
theorem sort59 (B : Nat) (R : Value) (sn nums : Nat → Int) (ns : Nat → ByteArray) (wn : Int) (lst L : List Nat) (w : World) (hown : w.ownsRow B 179 6 R lst.length (lst.flatMap (RL sn nums ns wn))) (hl : lst.length ≤ 65536) (hp : L.Perm lst) (hs : L.Pairwise (fun a b => sn a < sn b)) (hB : B ≤ w.heap.size) :
    Calls Try.prog 59 #[R, .func (.func 60) #[] #[]] w fun e w' => e = .returned (.tuple #[]) ∧ Sorted B R (RL sn nums ns wn) L w w' := by
  rcases hown.2 with ⟨rfl, h0⟩ | ⟨g, cap, cur, rfl, hb, hg, hrest⟩
  · have hz : lst = [] := List.length_eq_zero_iff.1 h0
    subst hz
    have hL : L = [] := hp.eq_nil
    subst hL
    have hlen : Calls Try.prog 64 #[.int .u64 (0 : Int)] w fun e w' => e = .returned (.int .i64 (Lib.bitLen 0 : Nat)) ∧ w' = w := by
      have h := Any.bits_Len (SlLaysF0.n15.bits (P := Try.prog) (ρ := Try.sortRel_ren) { Try.sortRel with }) (0 : Int) w (by omega) (by omega)
      exact h
    have HP : Hid (Sorted B (.slice none 0 0) (RL sn nums ns wn) [] w w) := ⟨KeepT.refl _ _, Below.refl _ _, fun g n cap h => by cases h⟩
    have hins : Calls Try.prog 66 #[.slice none 0 0, .int .i64 0, .int .i64 0, .func (.func 60) #[] #[]] w fun e w' => e = .returned (.tuple #[]) ∧ w' = w := by
      clear HP hlen hown hs hp
      go_enter Try.func66, Try.ntmps66
      go_wp2_with fail
      go_loopw [8] (fun v wr => v = .int .i64 1 ∧ wr = w) (fun _ _ => 0)
      case atStart => exact ⟨rfl, rfl⟩
      case round =>
        obtain ⟨rfl, rfl⟩ := hrel
        go_wp2_with fail
        go_end0
        exact ⟨rfl, rfl⟩
    have hpdq : ∀ l : Int, Calls Try.prog 63 #[.slice none 0 0, .int .i64 0, .int .i64 0, .int .i64 l, .func (.func 60) #[] #[]] w fun e w' => e = .returned (.tuple #[]) ∧ w' = w := by
      intro l
      clear HP hlen hown hs hp
      go_enter Try.func63, Try.ntmps63
      go_wp2_with fail
      go_loopw [1, 2] (fun v u wr => v = .int .i64 0 ∧ u = .int .i64 0 ∧ wr = w) (fun _ _ _ => 0)
      case atStart => exact ⟨rfl, rfl, rfl⟩
      case round =>
        obtain ⟨rfl, rfl, rfl⟩ := hrel
        go_wp2_with (go_at_call 66; refine hins.mono ?_; rintro e w' ⟨rfl, rfl⟩)
        exact bodyPost_ret (v := .tuple #[]) (by simp [results, Try.results63, go_sem]) rfl ⟨rfl, rfl⟩
    clear hown hs hp hins
    go_enter Try.func59, Try.ntmps59
    go_wp2_with (first | (go_at_call 64; refine hlen.mono ?_; rintro e w' ⟨rfl, rfl⟩) | (go_at_call 63; refine (hpdq _).mono ?_; rintro e w' ⟨rfl, rfl⟩))
    go_end0
    exact ⟨rfl, HP.out⟩
  · have hH := holds_owned (RL_len sn nums ns wn) hown
    have eg : ∀ args w, (callFunc 60 args).run Try.prog w = .ok (.enter 60 args) w := enters_of Try.func60 (by kernel_rfl) rfl
    have hgl : g < w.heap.size := (Array.getElem?_eq_some_iff.1 hg).1
    have hcon := AnyQ.slices_SortFunc Try.sortRel 6 Try.isAgg179 Try.sizeOf179 (RL sn nums ns wn) (RL_len sn nums ns wn) (RL_one sn nums ns wn) (fun x y => Lib.compareInt (sn x) (sn y)) (swoRL sn) 60 #[] g 0 cap lst.toArray w eg (cmpLays sn nums ns wn g 0 _ w) hH hgl (by simp; omega)
    change Calls Try.prog 59 _ _ _ at hcon
    refine (hcon.mono ?_)
    rintro e w' ⟨rfl, d', n, os, hperm, hsort, rfl⟩
    refine ⟨rfl, keep_grown hown (grownBy_sortK _ _), (Below.refl B w).grown (grownBy_sortK _ _) hB (fun k hk => by simp at hk; omega), ?_⟩
    intro g' n' cap' he k c hk hc
    obtain ⟨rfl, _⟩ : g = g' ∧ True := by simp at he; exact ⟨he.1, trivial⟩
    have hsz : d'.size = lst.length := by have := hperm.1; simpa using this
    have hpl : d'.toList.Perm lst := by
      have := hperm.2.2
      have e1 : d'.extract 0 lst.toArray.size = d' := by simp [← hsz]
      have e2 : lst.toArray.extract 0 lst.toArray.size = lst.toArray := by simp
      rw [e1, e2] at this
      exact this
    have hsl : d'.toList.Pairwise (fun a b => sn a ≤ sn b) := by
      rw [List.pairwise_iff_getElem]
      intro i j hi hj hij
      have := hsort i j (Nat.zero_le _) hij (by simpa [hsz] using hj)
      rw [ltRL] at this
      simp at this hi hj
      simp [hi, hj] at this
      simpa using this
    have heq : d'.toList = L := uniq sn L d'.toList hs hsl (hpl.trans hp.symm)
    have hh : HoldsK (RL sn nums ns wn) 6 (sortWorldK (RL sn nums ns wn) 6 w g 0 n d' os) g 0 d' :=
      holdsK_grow _ _ _ _ _ _ _ (by simpa [putRowK] using hgl) (holdsK_putRowK _ _ _ _ _ lst.toArray d' (holdsK_ahead _ _ _ _ _ _ _ hH) (by simpa using hsz))
    have hkd : k < d'.size := by rw [← heq] at hk; simpa using hk
    have := (hh.cell hkd hc).1
    rw [Nat.zero_add] at this
    have e : L[k]! = d'[k]! := by rw [← heq]; simp [getElem!_pos, hkd]
    rw [this, e]

/-- the reads, as they are handed out: five cells each -/
def Out (L : List Nat) (enc : Nat → List Value) (k c : Nat) : Value := (enc L[k]!)[c + 1]!
theorem set5 {w : World} {g n i : Nat} {t : TypeId} {F : Nat → Nat → Value} (h : Rec w g t n 5 F) (hi : i < n) (v0 v1 v2 v3 v4 : Value) (v : Nat → Value) (hv : v 0 = v0 ∧ v 1 = v1 ∧ v 2 = v2 ∧ v 3 = v3 ∧ v 4 = v4) :
    Rec (((((w.setCell ⟨g, i * 5, none⟩ v0).setCell ⟨g, i * 5 + 1, none⟩ v1).setCell ⟨g, i * 5 + 2, none⟩ v2).setCell ⟨g, i * 5 + 3, none⟩ v3).setCell ⟨g, i * 5 + 4, none⟩ v4) g t n 5 (upd F i v) ∧
    KeepT [t] w (((((w.setCell ⟨g, i * 5, none⟩ v0).setCell ⟨g, i * 5 + 1, none⟩ v1).setCell ⟨g, i * 5 + 2, none⟩ v2).setCell ⟨g, i * 5 + 3, none⟩ v3).setCell ⟨g, i * 5 + 4, none⟩ v4) ∧
    ∀ B, B ≤ g → Below B w (((((w.setCell ⟨g, i * 5, none⟩ v0).setCell ⟨g, i * 5 + 1, none⟩ v1).setCell ⟨g, i * 5 + 2, none⟩ v2).setCell ⟨g, i * 5 + 3, none⟩ v3).setCell ⟨g, i * 5 + 4, none⟩ v4) := by
  have r0 := Rec.set0 h hi (by omega) v0
  have r1 := Rec.set r0 hi (k := 1) (by omega) v1
  have r2 := Rec.set r1 hi (k := 2) (by omega) v2
  have r3 := Rec.set r2 hi (k := 3) (by omega) v3
  have r4 := Rec.set r3 hi (k := 4) (by omega) v4
  have k := ((((Rec.keepSet h (i * 5) v0).trans' (Rec.keepSet r0 (i * 5 + 1) v1)).trans' (Rec.keepSet r1 (i * 5 + 2) v2)).trans' (Rec.keepSet r2 (i * 5 + 3) v3)).trans' (Rec.keepSet r3 (i * 5 + 4) v4)
  refine ⟨Rec.congr r4 ?_ (by omega), k, fun B hB => (((((Below.refl B w).setCell (p := ⟨g, i * 5, none⟩) hB v0).setCell (p := ⟨g, i * 5 + 1, none⟩) hB v1).setCell (p := ⟨g, i * 5 + 2, none⟩) hB v2).setCell (p := ⟨g, i * 5 + 3, none⟩) hB v3).setCell (p := ⟨g, i * 5 + 4, none⟩) hB v4⟩
  intro x y hx hy
  unfold upd
  by_cases e : x = i
  · subst e
    match y, hy with
    | 0, _ => simp [hv.1]
    | 1, _ => simp [hv.2.1]
    | 2, _ => simp [hv.2.2.1]
    | 3, _ => simp [hv.2.2.2.1]
    | 4, _ => simp [hv.2.2.2.2]
  · simp [e]
set_option maxRecDepth 100000 in
set_option maxHeartbeats 4000000 in
theorem order55 (B : Nat) (R : Value) (sn nums : Nat → Int) (ns : Nat → ByteArray) (wn : Int) (lst L : List Nat) (w : World) (hown : w.ownsRow B 179 6 R lst.length (lst.flatMap (RL sn nums ns wn))) (hl : lst.length ≤ 65536) (hp : L.Perm lst) (hs : L.Pairwise (fun a b => sn a < sn b)) (hB : B ≤ w.heap.size) :
    Calls Try.prog 55 #[R] w fun e w' => ∃ g2, e = .returned (.slice (some ⟨g2, 0, none⟩) L.length L.length) ∧ B ≤ g2 ∧ Rec w' g2 62 L.length 5 (Out L (RL sn nums ns wn)) ∧ KeepT [179, 62] w w' ∧ Below B w w' := by
  have hsort := sort59 B R sn nums ns wn lst L w hown hl hp hs hB
  obtain ⟨n, hn⟩ : ∃ n, n = L.length := ⟨_, rfl⟩
  have hnl : n = lst.length := by rw [hn]; exact hp.length_eq
  have hform : (R = .slice none 0 0 ∧ n = 0) ∨ ∃ g cap, R = .slice (some ⟨g, 0, none⟩) n cap := by
    rw [hnl]
    rcases hown.2 with h | ⟨g, cap, _, h, _⟩
    · exact .inl h
    · exact .inr ⟨g, cap, h⟩
  have HO : Hid (∃ v, lenOf R = v ∧ v = n) := ⟨_, rfl, by rw [hnl]; exact owns_len hown⟩
  have hn65 : n ≤ 65536 := by omega
  rw [← hn]
  have HN : Hid (n = L.length) := hn
  obtain ⟨it, hi62, hz, hs62, hbb⟩ := row_some info62
  obtain ⟨ra, cap, hR⟩ : ∃ ra cap, R = .slice ra n cap := by
    rcases hform with ⟨rfl, rfl⟩ | ⟨g, cap, rfl⟩
    · exact ⟨none, 0, rfl⟩
    · exact ⟨_, cap, rfl⟩
  have HR : Hid (∀ i, i < n → ∃ g, ra = some ⟨g, 0, none⟩) := fun i hi => by
    rcases hform with ⟨_, h⟩ | ⟨g, cap', h⟩
    · omega
    · rw [hR] at h; simp at h; exact ⟨g, h.1⟩
  subst hR
  clear hown hl hp hs hform HO hn hnl
  go_enter Try.func55, Try.ntmps55
  go_wp2_with (first | (go_at_call 59; refine hsort.mono ?_; rintro e w1 ⟨rfl, hsd⟩; have SD : Hid (Sorted B (.slice ra n cap) (RL sn nums ns wn) L w w1) := hsd; clear hsd) | (at_make; refine wpList_make_rec _ rfl (.tmp 9) (.tmp 9) 59 rfl 62 it _ 5 Try.underlying59 hi62 hz hs62 .i64 .i64 n rfl rfl (by rw [hbb]; omega) (by omega) ?_))
  have hsz := SD.out.2.1.size
  have RC : Hid (Rec (w1.alloc (.cells (madeCells (Value.agg #[.int .u8 0, .int .i32 0, .string ⟨#[]⟩, .int .i32 0, .bool false]).cells (n * 5)) 62)) w1.heap.size 62 n 5 (fun _ k => (Value.agg #[.int .u8 0, .int .i32 0, .string ⟨#[]⟩, .int .i32 0, .bool false]).cells[k]!)) := Rec.made w1 _ n 5 62 rfl
  have KP : Hid (KeepT [62] w1 (w1.alloc (.cells (madeCells (Value.agg #[.int .u8 0, .int .i32 0, .string ⟨#[]⟩, .int .i32 0, .bool false]).cells (n * 5)) 62))) := (KeepT.refl _ _).alloc _
  have BL : Hid (Below w1.heap.size w1 (w1.alloc (.cells (madeCells (Value.agg #[.int .u8 0, .int .i32 0, .string ⟨#[]⟩, .int .i32 0, .bool false]).cells (n * 5)) 62))) := (Below.refl _ _).alloc (Nat.le_refl _) _
  have hv : (Value.agg #[.int .u8 0, .int .i32 0, .string ⟨#[]⟩, .int .i32 0, .bool false]).cells = #[.int .u8 0, .int .i32 0, .string ⟨#[]⟩, .int .i32 0, .bool false] := rfl
  rw [hv] at RC KP BL
  clear hv
  generalize w1.alloc (.cells (madeCells #[.int .u8 0, .int .i32 0, .string ⟨#[]⟩, .int .i32 0, .bool false] (n * 5)) 62) = w2 at *
  obtain ⟨g2, hg2⟩ : ∃ g, g = w1.heap.size := ⟨_, rfl⟩
  rw [← hg2] at RC BL hsz ⊢
  have CC : Hid (∀ g0, ra = some ⟨g0, 0, none⟩ → ∀ k c, k < n → c < 6 → g0 < g2 ∧ w1.cell? ⟨g0, k * 6 + c, none⟩ = some (RL sn nums ns wn L[k]!)[c]!) := fun g0 hg k c hk hc => by
    have h1 := SD.out.2.2 g0 n cap (by rw [hg]) k c (by rw [← HN.out]; exact hk) hc
    exact ⟨by rw [hg2]; exact cell_lt h1, h1⟩
  have hBg : B ≤ g2 := by omega
  clear hg2
  go_loopw [13] (fun v wr => ∃ (k : Nat) (G : Nat → Nat → Value), k ≤ n ∧ v = .int .i64 k ∧ Rec wr g2 62 n 5 G ∧ (∀ k', k' < k → ∀ c, c < 5 → G k' c = Out L (RL sn nums ns wn) k' c) ∧ KeepT [62] w1 wr ∧ Below g2 w1 wr) (fun v _ => n - (intOf v).toNat)
  case atStart => exact ⟨0, _, by omega, rfl, RC.out, fun k' hk' => by omega, KP.out, BL.out⟩
  case round =>
    clear RC KP BL
    obtain ⟨k, G, hk, rfl, rc, hG, kp, bl⟩ := hrel
    have RC : Hid (Rec wr g2 62 n 5 G) := rc
    have HG : Hid (∀ k', k' < k → ∀ c, c < 5 → G k' c = Out L (RL sn nums ns wn) k' c) := hG
    have KP : Hid (KeepT [62] w1 wr) := kp
    have BL : Hid (Below g2 w1 wr) := bl
    have hgw : g2 < wr.heap.size := rc.lt
    clear rc hG kp bl
    by_cases hkn : k < n
    · have hkI : (k : Int) < (n : Int) := by omega
      obtain ⟨g0, rfl⟩ := HR.out k hkn
      obtain ⟨hg0, c0⟩ := CC.out g0 rfl k 0 hkn (by omega)
      have c1 := (CC.out g0 rfl k 1 hkn (by omega)).2
      have c2 := (CC.out g0 rfl k 2 hkn (by omega)).2
      have c3 := (CC.out g0 rfl k 3 hkn (by omega)).2
      have c4 := (CC.out g0 rfl k 4 hkn (by omega)).2
      have c5 := (CC.out g0 rfl k 5 hkn (by omega)).2
      rw [← BL.out.cell (p := ⟨g0, _, none⟩) hg0] at c0 c1 c2 c3 c4 c5
      obtain ⟨i, hi⟩ : ∃ i, i = L[k]! := ⟨_, rfl⟩
      rw [← hi] at c0 c1 c2 c3 c4 c5
      have c0' : wr.cell? ⟨g0, k * 6, none⟩ = some (.int .i32 (sn i)) := c0
      have c1' : wr.cell? ⟨g0, k * 6 + 1, none⟩ = some (.int .u8 0) := c1
      have c2' : wr.cell? ⟨g0, k * 6 + 2, none⟩ = some (.int .i32 (nums i)) := c2
      have c3' : wr.cell? ⟨g0, k * 6 + 3, none⟩ = some (.string (ns i)) := c3
      have c4' : wr.cell? ⟨g0, k * 6 + 4, none⟩ = some (.int .i32 wn) := c4
      have c5' : wr.cell? ⟨g0, k * 6 + 5, none⟩ = some (.bool true) := c5
      clear c0 c1 c2 c3 c4 c5
      have HI : Hid (i = L[k]!) := hi
      clear hi
      have d0 := RC.out.cell0 hkn (by omega)
      have d1 := RC.out.cell hkn (k := 1) (by omega)
      have d2 := RC.out.cell hkn (k := 2) (by omega)
      have d3 := RC.out.cell hkn (k := 3) (by omega)
      have d4 := RC.out.cell hkn (k := 4) (by omega)
      have f0 := RC.out.frozen (k * 5)
      have f1 := RC.out.frozen (k * 5 + 1)
      have f2 := RC.out.frozen (k * 5 + 2)
      have f3 := RC.out.frozen (k * 5 + 3)
      have f4 := RC.out.frozen (k * 5 + 4)
      have S5 : Hid _ := set5 RC.out hkn (.int .u8 0) (.int .i32 (nums i)) (.string (ns i)) (.int .i32 wn) (.bool true) (fun c => Out L (RL sn nums ns wn) k c) (by unfold Out; rw [← HI.out]; exact ⟨rfl, rfl, rfl, rfl, rfl⟩)
      go_wp2_with fail
      refine ⟨⟨k + 1, _, by omega, by go_num, Set.rec_alloc S5.out.1 _, fun k' hk' c hc => ?_, (KP.out.trans' S5.out.2.1).alloc _, (BL.out.trans (S5.out.2.2 g2 (Nat.le_refl _))).alloc (by simp [World.setCell]; omega) _⟩, by simp [intOf]; omega⟩
      by_cases e : k' = k
      · subst e; exact upd_at _ _ _ _
      · rw [upd_ne _ _ _ e]; exact HG.out k' (by omega) c hc
    · obtain rfl : n = k := by omega
      have hkI : ¬ (n : Int) < (n : Int) := by omega
      go_wp2_with fail
      go_ret
      exact ⟨g2, rfl, hBg, Rec.congr RC.out (fun x y hx hy => HG.out x hx y hy) (by omega), (SD.out.1.trans KP.out).mono (by simp), SD.out.2.1.trans (BL.out.mono hBg)⟩
end Go.Proofs.Qxb6613555a.Sorts
