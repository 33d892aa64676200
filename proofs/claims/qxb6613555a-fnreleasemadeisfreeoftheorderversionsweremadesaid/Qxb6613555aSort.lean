import Derived.Test.Qxb6613555aBase
/- plain: one merge, one pass, the whole bottom-up sort; no Go in sight -/
namespace Go.Proofs.Qxb6613555a.Merge

/-- the values at a .. b - 1 -/
def seg (f : Nat → Nat) (a b : Nat) : List Nat := (List.range' a (b - a)).map f
theorem seg_nil (f : Nat → Nat) (a : Nat) : seg f a a = [] := by simp [seg]
theorem seg_snoc (f : Nat → Nat) {a b : Nat} (h : a ≤ b) : seg f a (b + 1) = seg f a b ++ [f b] := by
  unfold seg
  rw [show b + 1 - a = (b - a) + 1 by omega, List.range'_concat]
  simp
  congr 1
  omega
theorem seg_append (f : Nat → Nat) {a b c : Nat} (h1 : a ≤ b) (h2 : b ≤ c) : seg f a c = seg f a b ++ seg f b c := by
  unfold seg
  rw [← List.map_append]
  congr 1
  have := List.range'_append (s := a) (m := b - a) (n := c - b) (step := 1)
  rw [show b - a + (c - b) = c - a by omega, show a + 1 * (b - a) = b by omega] at this
  exact this.symm
theorem seg_congr {f g : Nat → Nat} {a b : Nat} (h : ∀ x, a ≤ x → x < b → f x = g x) : seg f a b = seg g a b := by
  unfold seg
  apply List.map_congr_left
  intro x hx
  rw [List.mem_range'_1] at hx
  exact h x (by omega) (by omega)
theorem seg_length (f : Nat → Nat) (a b : Nat) : (seg f a b).length = b - a := by simp [seg]
theorem mem_seg {f : Nat → Nat} {a b v : Nat} : v ∈ seg f a b ↔ ∃ x, a ≤ x ∧ x < b ∧ f x = v := by
  unfold seg
  simp only [List.mem_map, List.mem_range'_1]
  constructor
  · rintro ⟨x, hx, e⟩; exact ⟨x, by omega, by omega, e⟩
  · rintro ⟨x, h1, h2, e⟩; exact ⟨x, by omega, e⟩

/-- f with one value put in -/
def put (f : Nat → Nat) (t v : Nat) : Nat → Nat := fun x => if x = t then v else f x
theorem put_at (f : Nat → Nat) (t v : Nat) : put f t v t = v := by simp [put]
theorem put_ne (f : Nat → Nat) {t v x : Nat} (h : x ≠ t) : put f t v x = f x := by simp [put, h]

variable (s : Nat → Int)

/-- sorted on a .. b - 1 -/
def SortedOn (f : Nat → Nat) (a b : Nat) : Prop := ∀ x y, a ≤ x → x < y → y < b → s (f x) ≤ s (f y)

/-- in the midst of a merge -/
structure Mid (f h0 : Nat → Nat) (lo mid hi i j t : Nat) (h : Nat → Nat) : Prop where
  li : lo ≤ i
  im : i ≤ mid
  mj : mid ≤ j
  jh : j ≤ hi
  te : t = i + (j - mid)
  perm : (seg h lo t).Perm (seg f lo i ++ seg f mid j)
  sorted : SortedOn s h lo t
  left : ∀ x y, lo ≤ x → x < t → i ≤ y → y < mid → s (h x) ≤ s (f y)
  right : ∀ x y, lo ≤ x → x < t → j ≤ y → y < hi → s (h x) ≤ s (f y)
  keep : ∀ x, x < lo → h x = h0 x

variable {s} {f h0 h : Nat → Nat} {lo mid hi i j t : Nat}

theorem Mid.start (h1 : lo ≤ mid) (h2 : mid ≤ hi) : Mid s f h0 lo mid hi lo mid lo h0 :=
  ⟨Nat.le_refl _, h1, Nat.le_refl _, h2, by omega, by simp [seg_nil], fun x y _ _ _ => by omega, fun x y _ _ _ _ => by omega, fun x y _ _ _ _ => by omega, fun _ _ => rfl⟩

theorem Mid.takeLeft (m : Mid s f h0 lo mid hi i j t h) (hi' : i < mid) (hs : SortedOn s f lo mid) (hle : ∀ y, j ≤ y → y < hi → s (f i) ≤ s (f y)) : Mid s f h0 lo mid hi (i + 1) j (t + 1) (put h t (f i)) := by
  obtain ⟨li, im, mj, jh, te, perm, sorted, left, right, keep⟩ := m
  have hlt : lo ≤ t := by omega
  have e1 : seg (put h t (f i)) lo t = seg h lo t := seg_congr fun x _ hx => put_ne _ (by omega)
  refine ⟨by omega, by omega, mj, jh, by omega, ?_, ?_, ?_, ?_, fun x hx => by rw [put_ne _ (by omega)]; exact keep x hx⟩
  · rw [seg_snoc _ hlt, e1, put_at, seg_snoc _ li]
    refine (perm.append_right _).trans ?_
    rw [List.append_assoc, List.append_assoc]
    exact List.Perm.append_left _ List.perm_append_comm
  · intro x y hx hxy hy
    by_cases e : y = t
    · subst e
      rw [put_at, put_ne _ (by omega)]
      exact left x i hx (by omega) (Nat.le_refl _) hi'
    · rw [put_ne _ e, put_ne _ (by omega)]
      exact sorted x y hx hxy (by omega)
  · intro x y hx hxt hy hym
    by_cases e : x = t
    · subst e; rw [put_at]; exact hs i y (by omega) (by omega) hym
    · rw [put_ne _ e]; exact left x y hx (by omega) (by omega) hym
  · intro x y hx hxt hy hym
    by_cases e : x = t
    · subst e; rw [put_at]; exact hle y hy hym
    · rw [put_ne _ e]; exact right x y hx (by omega) hy hym

theorem Mid.takeRight (m : Mid s f h0 lo mid hi i j t h) (hj' : j < hi) (hs : SortedOn s f mid hi) (hle : ∀ y, i ≤ y → y < mid → s (f j) ≤ s (f y)) : Mid s f h0 lo mid hi i (j + 1) (t + 1) (put h t (f j)) := by
  obtain ⟨li, im, mj, jh, te, perm, sorted, left, right, keep⟩ := m
  have hlt : lo ≤ t := by omega
  have e1 : seg (put h t (f j)) lo t = seg h lo t := seg_congr fun x _ hx => put_ne _ (by omega)
  refine ⟨li, im, by omega, by omega, by omega, ?_, ?_, ?_, ?_, fun x hx => by rw [put_ne _ (by omega)]; exact keep x hx⟩
  · rw [seg_snoc _ hlt, e1, put_at, seg_snoc _ mj, ← List.append_assoc]
    exact perm.append_right _
  · intro x y hx hxy hy
    by_cases e : y = t
    · subst e
      rw [put_at, put_ne _ (by omega)]
      exact right x j hx (by omega) (Nat.le_refl _) hj'
    · rw [put_ne _ e, put_ne _ (by omega)]
      exact sorted x y hx hxy (by omega)
  · intro x y hx hxt hy hym
    by_cases e : x = t
    · subst e; rw [put_at]; exact hle y hy hym
    · rw [put_ne _ e]; exact left x y hx (by omega) hy hym
  · intro x y hx hxt hy hym
    by_cases e : x = t
    · subst e; rw [put_at]; exact hs j y (by omega) (by omega) hym
    · rw [put_ne _ e]; exact right x y hx (by omega) (by omega) hym

/-- sorted in blocks of w -/
def Blocks (s : Nat → Int) (w n : Nat) (f : Nat → Nat) : Prop := ∀ x y, x < y → y < n → x / w = y / w → s (f x) ≤ s (f y)

/-- within a pass: the first lo are done -/
structure Pass (s : Nat → Int) (w lo : Nat) (f h : Nat → Nat) : Prop where
  perm : (seg h 0 lo).Perm (seg f 0 lo)
  blocks : Blocks s (2 * w) lo h

theorem Pass.start (s : Nat → Int) (w : Nat) (f h : Nat → Nat) : Pass s w 0 f h := ⟨by simp [seg_nil], fun x y _ hy => by omega⟩

theorem div_of_range {w q x : Nat} (h1 : w * q ≤ x) (h2 : x < w * q + w) (hw : 0 < w) : x / w = q := by
  rw [Nat.div_eq_iff hw]
  have : w * q = q * w := Nat.mul_comm _ _
  omega

theorem Pass.next {w n q : Nat} (p : Pass s w (2 * w * q) f h0) (hw : 0 < w) (hm : mid = min (2 * w * q + w) n) (hh : hi = min (2 * w * q + 2 * w) n) (m : Mid s f h0 (2 * w * q) mid hi mid hi t h) : Pass s w hi f h ∧ (hi = 2 * w * (q + 1) ∨ hi = n) := by
  have e2 : 2 * w * (q + 1) = 2 * w * q + 2 * w := by rw [Nat.mul_add]; omega
  obtain ⟨li, im, mj, jh, te, perm, sorted, left, right, keep⟩ := m
  obtain rfl : t = hi := by omega
  refine ⟨⟨?_, ?_⟩, by omega⟩
  · rw [seg_append h (Nat.zero_le (2 * w * q)) (by omega), seg_append f (Nat.zero_le (2 * w * q)) (by omega : 2 * w * q ≤ t)]
    refine List.Perm.append ?_ ?_
    · rw [seg_congr (f := h) (g := h0) fun x _ hx => keep x hx]; exact p.perm
    · rw [seg_append f (by omega : 2 * w * q ≤ mid) (by omega : mid ≤ t)]; exact perm
  · intro x y hxy hy hd
    by_cases hx : x < 2 * w * q
    · have hy' : y < 2 * w * q := by
        rcases Nat.lt_or_ge y (2 * w * q) with h | h
        · exact h
        · have h1 : y / (2 * w) = q := div_of_range h (by omega) (by omega)
          have h2 : x / (2 * w) < q := by rw [Nat.div_lt_iff_lt_mul (by omega)]; rw [Nat.mul_comm]; exact hx
          omega
      rw [keep x hx, keep y hy']
      exact p.blocks x y hxy hy' hd
    · exact sorted x y (by omega) hxy hy

theorem Blocks.left {w n q : Nat} (b : Blocks s w n f) (hw : 0 < w) (hm : mid ≤ min (2 * w * q + w) n) : SortedOn s f (2 * w * q) mid := fun x y hx hxy hy => by
  have e : 2 * w * q = w * (2 * q) := by rw [Nat.mul_comm 2 w, Nat.mul_assoc]
  exact b x y hxy (by omega) (by rw [div_of_range (q := 2 * q) (by omega) (by omega) hw, div_of_range (q := 2 * q) (by omega) (by omega) hw])
theorem Blocks.right {w n q : Nat} (b : Blocks s w n f) (hw : 0 < w) (hm : mid = min (2 * w * q + w) n) (hh : hi ≤ min (2 * w * q + 2 * w) n) : SortedOn s f mid hi := fun x y hx hxy hy => by
  have e : w * (2 * q + 1) = 2 * w * q + w := by rw [Nat.mul_add, ← Nat.mul_assoc, Nat.mul_comm w 2]; omega
  exact b x y hxy (by omega) (by rw [div_of_range (q := 2 * q + 1) (by omega) (by omega) hw, div_of_range (q := 2 * q + 1) (by omega) (by omega) hw])
theorem Blocks.one (s : Nat → Int) (n : Nat) (f : Nat → Nat) : Blocks s 1 n f := fun x y hxy _ hd => by simp at hd; omega
theorem Blocks.whole {w n : Nat} (b : Blocks s w n f) (h : n ≤ w) : SortedOn s f 0 n := fun x y _ hxy hy => b x y hxy hy (by rw [Nat.div_eq_of_lt (by omega), Nat.div_eq_of_lt (by omega)])
/-- with neighbours distinct -/
theorem strict {n : Nat} (hs : SortedOn s f 0 n) (hd : ∀ x, 0 < x → x < n → s (f (x - 1)) ≠ s (f x)) : ∀ x y, x < y → y < n → s (f x) < s (f y) := fun x y hxy hy => by
  have h1 : s (f x) ≤ s (f (y - 1)) := by
    by_cases e : x = y - 1
    · rw [← e]; exact Int.le_refl _
    · exact hs x (y - 1) (Nat.zero_le _) (by omega) (by omega)
  have h2 := hs (y - 1) y (Nat.zero_le _) (by omega) hy
  have h3 := hd y (by omega) hy
  omega
end Go.Proofs.Qxb6613555a.Merge
