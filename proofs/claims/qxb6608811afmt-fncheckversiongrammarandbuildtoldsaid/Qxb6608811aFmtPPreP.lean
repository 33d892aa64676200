import Derived.Test.Qxb6608811aFmtStrs
/- plain laws for parsePrerelease and parseBuild -/
namespace Qx11

structure PInv (s : ByteArray) (j k : Nat) : Prop where
  one : 1 ≤ j
  le : j ≤ k
  sz : k ≤ s.size
  go : idents true (upTo 43 ((Ls s).drop 1)) = Qx11.go true (mid (Ls s) j k) (upTo 43 ((Ls s).drop k))
  up : upTo 43 ((Ls s).drop 1) = mid (Ls s) 1 k ++ upTo 43 ((Ls s).drop k)
  fr : frm 43 ((Ls s).drop 1) = frm 43 ((Ls s).drop k)

theorem upTo_step (s : ByteArray) (k : Nat) (h : k < s.size) (hx : s[k].toNat ≠ 43) :
    upTo 43 ((Ls s).drop k) = s[k] :: upTo 43 ((Ls s).drop (k + 1)) ∧ frm 43 ((Ls s).drop k) = frm 43 ((Ls s).drop (k + 1)) := by
  rw [drop_cons s k h]
  unfold upTo frm
  rw [List.takeWhile_cons_of_pos (by simpa using hx), List.dropWhile_cons_of_pos (by simpa using hx)]
  exact ⟨rfl, rfl⟩
theorem upTo_stop (s : ByteArray) (k : Nat) (h : ∀ h : k < s.size, s[k].toNat = 43) : upTo 43 ((Ls s).drop k) = [] ∧ frm 43 ((Ls s).drop k) = (Ls s).drop k := by
  by_cases hk : k < s.size
  · have hx := h hk
    rw [drop_cons s k hk]
    unfold upTo frm
    rw [List.takeWhile_cons_of_neg (by simp [hx]), List.dropWhile_cons_of_neg (by simp [hx])]
    exact ⟨rfl, rfl⟩
  · rw [List.drop_eq_nil_of_le (by rw [Ls_len]; omega)]
    exact ⟨rfl, rfl⟩

theorem p_start (s : ByteArray) (h : 0 < s.size) : PInv s 1 1 :=
  ⟨by omega, by omega, by omega, by rw [mid_same]; rfl, by rw [mid_same]; rfl, rfl⟩
theorem p_chr {s : ByteArray} {j k : Nat} (h : PInv s j k) (hk : k < s.size) (h43 : s[k].toNat ≠ 43) (hc : idc s[k] = true) : PInv s j (k + 1) := by
  have e := upTo_step s k hk h43
  have hx := (idc_ne hc).2
  refine ⟨h.one, by have := h.le; omega, by omega, ?_, ?_, ?_⟩
  · rw [h.go, e.1, mid_step s j k h.le hk]; simp [Qx11.go, hx, hc]
  · rw [h.up, e.1, mid_step s 1 k (by have := h.one; have := h.le; omega) hk]; simp
  · rw [h.fr, e.2]
theorem p_dot {s : ByteArray} {j k : Nat} (h : PInv s j k) (hk : k < s.size) (hx : s[k].toNat = 46) (hs : seg true (mid (Ls s) j k) = true) : PInv s (k + 1) (k + 1) := by
  have e := upTo_step s k hk (by omega)
  refine ⟨by omega, by omega, by omega, ?_, ?_, ?_⟩
  · rw [h.go, e.1, mid_same]; simp [Qx11.go, hx, hs]
  · rw [h.up, e.1, mid_step s 1 k (by have := h.one; have := h.le; omega) hk]; simp
  · rw [h.fr, e.2]
theorem p_dot_no {s : ByteArray} {j k : Nat} (h : PInv s j k) (hk : k < s.size) (hx : s[k].toNat = 46) (hs : seg true (mid (Ls s) j k) = false) : pPre ((Ls s).drop 1) = none := by
  have e := upTo_step s k hk (by omega)
  have g : idents true (upTo 43 ((Ls s).drop 1)) = false := by rw [h.go, e.1]; simp [Qx11.go, hx, hs]
  unfold pPre; rw [g]; rfl
theorem p_chr_no {s : ByteArray} {j k : Nat} (h : PInv s j k) (hk : k < s.size) (h43 : s[k].toNat ≠ 43) (h46 : s[k].toNat ≠ 46) (hc : idc s[k] = false) : pPre ((Ls s).drop 1) = none := by
  have e := upTo_step s k hk h43
  have g : idents true (upTo 43 ((Ls s).drop 1)) = false := by rw [h.go, e.1]; simp [Qx11.go, h46, hc]
  unfold pPre; rw [g]; rfl
theorem p_end_no {s : ByteArray} {j k : Nat} (h : PInv s j k) (hk : ∀ h : k < s.size, s[k].toNat = 43) (hs : seg true (mid (Ls s) j k) = false) : pPre ((Ls s).drop 1) = none := by
  have e := upTo_stop s k hk
  have g : idents true (upTo 43 ((Ls s).drop 1)) = false := by rw [h.go, e.1]; exact hs
  unfold pPre; rw [g]; rfl
theorem p_end {s : ByteArray} {j k : Nat} (h : PInv s j k) (hk : ∀ h : k < s.size, s[k].toNat = 43) (hs : seg true (mid (Ls s) j k) = true) : pPre ((Ls s).drop 1) = some (45 :: mid (Ls s) 1 k, (Ls s).drop k) := by
  have e := upTo_stop s k hk
  have g : idents true (upTo 43 ((Ls s).drop 1)) = true := by rw [h.go, e.1]; exact hs
  unfold pPre; rw [g, if_pos rfl, h.up, h.fr, e.1, e.2, List.append_nil]

structure BInv (s : ByteArray) (j k : Nat) : Prop where
  one : 1 ≤ j
  le : j ≤ k
  sz : k ≤ s.size
  go : idents false ((Ls s).drop 1) = Qx11.go false (mid (Ls s) j k) ((Ls s).drop k)
theorem b_start (s : ByteArray) (h : 0 < s.size) : BInv s 1 1 := ⟨by omega, by omega, by omega, by rw [mid_same]; rfl⟩
theorem b_chr {s : ByteArray} {j k : Nat} (h : BInv s j k) (hk : k < s.size) (hc : idc s[k] = true) : BInv s j (k + 1) := by
  have hx := (idc_ne hc).2
  refine ⟨h.one, by have := h.le; omega, by omega, ?_⟩
  rw [h.go, drop_cons s k hk, mid_step s j k h.le hk]; simp [Qx11.go, hx, hc]
theorem seg_false (t : Bs) : seg false t = !t.isEmpty := by simp [seg]
theorem mid_ne {s : ByteArray} {j k : Nat} (hj : j < k) (hk : k ≤ s.size) : (mid (Ls s) j k).isEmpty = false := by
  have := mid_len s j k hk
  cases h : mid (Ls s) j k with
  | nil => rw [h] at this; simp at this; omega
  | cons _ _ => rfl
theorem b_dot {s : ByteArray} {j k : Nat} (h : BInv s j k) (hk : k < s.size) (hx : s[k].toNat = 46) (hj : j ≠ k) : BInv s (k + 1) (k + 1) := by
  refine ⟨by omega, by omega, by omega, ?_⟩
  rw [h.go, drop_cons s k hk, mid_same]; simp [Qx11.go, hx, seg_false, mid_ne (show j < k by have := h.le; omega) h.sz]
theorem b_dot_no {s : ByteArray} {j k : Nat} (h : BInv s j k) (hk : k < s.size) (hx : s[k].toNat = 46) (hj : j = k) : pBld ((Ls s).drop 1) = none := by
  have g : idents false ((Ls s).drop 1) = false := by rw [h.go, drop_cons s k hk, hj, mid_same]; simp [Qx11.go, hx, seg_nil]
  unfold pBld; rw [g]; rfl
theorem b_chr_no {s : ByteArray} {j k : Nat} (h : BInv s j k) (hk : k < s.size) (h46 : s[k].toNat ≠ 46) (hc : idc s[k] = false) : pBld ((Ls s).drop 1) = none := by
  have g : idents false ((Ls s).drop 1) = false := by rw [h.go, drop_cons s k hk]; simp [Qx11.go, h46, hc]
  unfold pBld; rw [g]; rfl
theorem b_end_no {s : ByteArray} {j : Nat} (h : BInv s j s.size) (hj : j = s.size) : pBld ((Ls s).drop 1) = none := by
  have g : idents false ((Ls s).drop 1) = false := by rw [h.go, hj, mid_same, List.drop_eq_nil_of_le (by rw [Ls_len]; omega)]; rfl
  unfold pBld; rw [g]; rfl
theorem b_end {s : ByteArray} {j : Nat} (h : BInv s j s.size) (hj : j ≠ s.size) : pBld ((Ls s).drop 1) = some (43 :: (Ls s).drop 1) := by
  have g : idents false ((Ls s).drop 1) = true := by
    rw [h.go, List.drop_eq_nil_of_le (show (Ls s).length ≤ s.size by rw [Ls_len]; omega)]
    show seg false _ = true
    rw [seg_false, mid_ne (show j < s.size by have := h.le; omega) h.sz]; rfl
  unfold pBld; rw [g]; rfl
end Qx11
