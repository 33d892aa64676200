import Derived.Test.Qxb6608811aFmtPlain
/- plain laws for the loops -/
namespace Qx11

/-- the bytes of a string -/
def Ls (s : ByteArray) : Bs := s.data.toList
theorem Ls_len (s : ByteArray) : (Ls s).length = s.size := by simp [Ls]
theorem Ls_get (s : ByteArray) (k : Nat) (h : k < s.size) : (Ls s)[k]'(by rw [Ls_len]; exact h) = s[k] := by
  simp [Ls]; rfl
theorem take_succ (s : ByteArray) (k : Nat) (h : k < s.size) : (Ls s).take (k + 1) = (Ls s).take k ++ [s[k]] := by
  rw [List.take_succ_eq_append_getElem (by rw [Ls_len]; exact h), Ls_get s k h]
theorem drop_cons (s : ByteArray) (k : Nat) (h : k < s.size) : (Ls s).drop k = s[k] :: (Ls s).drop (k + 1) := by
  rw [List.drop_eq_getElem_cons (by rw [Ls_len]; exact h), Ls_get s k h]
theorem Ls_split (s : ByteArray) (k : Nat) (h : k < s.size) : Ls s = (Ls s).take k ++ s[k] :: (Ls s).drop (k + 1) := by
  rw [← drop_cons s k h]; exact (List.take_append_drop k _).symm

/-- zzIndexByte -/
def idx (n : Nat) (l : Bs) : Int := if (frm n l).isEmpty = true then -1 else (upTo n l).length
theorem idx_hit (n : Nat) (s : ByteArray) (k : Nat) (h : k < s.size) (hb : ∀ c ∈ (Ls s).take k, c.toNat ≠ n) (hx : s[k].toNat = n) : idx n (Ls s) = k := by
  have e := upTo_append n ((Ls s).take k) s[k] ((Ls s).drop (k + 1)) hb hx
  rw [← Ls_split s k h] at e
  unfold idx
  rw [e.1, e.2]
  have := Ls_len s
  simp; omega
theorem idx_none (n : Nat) (s : ByteArray) (hb : ∀ c ∈ Ls s, c.toNat ≠ n) : idx n (Ls s) = -1 := by
  unfold idx; rw [(upTo_none n _ hb).2]; rfl
theorem mem_step {n : Nat} {s : ByteArray} {k : Nat} (h : k < s.size) (hb : ∀ c ∈ (Ls s).take k, c.toNat ≠ n) (hx : s[k].toNat ≠ n) : ∀ c ∈ (Ls s).take (k + 1), c.toNat ≠ n := by
  intro c hc
  rw [take_succ s k h] at hc
  rcases List.mem_append.1 hc with h' | h'
  · exact hb c h'
  · simp at h'; subst h'; exact hx
theorem mem_all {n : Nat} {s : ByteArray} {k : Nat} (h : ¬ k < s.size) (hb : ∀ c ∈ (Ls s).take k, c.toNat ≠ n) : ∀ c ∈ Ls s, c.toNat ≠ n := by
  rw [List.take_of_length_le (by rw [Ls_len]; omega)] at hb; exact hb

/-- a run of digits -/
theorem dig_step {s : ByteArray} {k : Nat} (h : k < s.size) (hb : ∀ c ∈ (Ls s).take k, dig c = true) (hx : dig s[k] = true) : ∀ c ∈ (Ls s).take (k + 1), dig c = true := by
  intro c hc
  rw [take_succ s k h] at hc
  rcases List.mem_append.1 hc with h' | h'
  · exact hb c h'
  · simp at h'; subst h'; exact hx
theorem dig_hit {s : ByteArray} {k : Nat} (h : k < s.size) (hb : ∀ c ∈ (Ls s).take k, dig c = true) (hx : dig s[k] = false) : (Ls s).takeWhile dig = (Ls s).take k ∧ (Ls s).dropWhile dig = (Ls s).drop k := by
  have e := Ls_split s k h
  have e2 : Ls s = (Ls s).take k ++ (Ls s).drop k := (List.take_append_drop k _).symm
  have hd := drop_cons s k h
  constructor
  · conv => lhs; rw [e2]
    rw [List.takeWhile_append_of_pos hb, hd, List.takeWhile_cons_of_neg (by simp [hx])]; simp
  · conv => lhs; rw [e2]
    rw [List.dropWhile_append_of_pos hb, hd, List.dropWhile_cons_of_neg (by simp [hx])]
theorem dig_end {s : ByteArray} {k : Nat} (h : ¬ k < s.size) (hb : ∀ c ∈ (Ls s).take k, dig c = true) : (Ls s).takeWhile dig = (Ls s).take k ∧ (Ls s).dropWhile dig = (Ls s).drop k := by
  have hl := Ls_len s
  have e1 : (Ls s).take k = Ls s := List.take_of_length_le (by omega)
  have e2 : (Ls s).drop k = [] := List.drop_eq_nil_of_le (by omega)
  rw [e1] at hb ⊢
  rw [e2]
  have a := List.takeWhile_append_of_pos (l₂ := []) hb
  have b := List.dropWhile_append_of_pos (l₂ := []) hb
  simp at a b
  exact ⟨a, b⟩
theorem dig_iff (c : UInt8) : dig c = true ↔ 48 ≤ (c.toNat : Int) ∧ (c.toNat : Int) ≤ 57 := by simp [dig]; omega
theorem dig_not (c : UInt8) : dig c = false ↔ (c.toNat : Int) < 48 ∨ 57 < (c.toNat : Int) := by
  rw [← Bool.not_eq_true, dig_iff]; omega
theorem all_take {s : ByteArray} (hb : ∀ c ∈ (Ls s).take s.size, dig c = true) : (Ls s).all dig = true := by
  rw [List.take_of_length_le (by rw [Ls_len]; omega)] at hb
  exact List.all_eq_true.2 hb
theorem all_not {s : ByteArray} {k : Nat} (h : k < s.size) (hx : dig s[k] = false) : (Ls s).all dig = false := by
  rw [Ls_split s k h]; simp [hx]

theorem idc_iff (c : UInt8) : idc c = true ↔ (48 ≤ (c.toNat : Int) ∧ (c.toNat : Int) ≤ 57) ∨ (97 ≤ (c.toNat : Int) ∧ (c.toNat : Int) ≤ 122) ∨ (65 ≤ (c.toNat : Int) ∧ (c.toNat : Int) ≤ 90) ∨ (c.toNat : Int) = 45 := by
  simp [idc, dig]; omega

/-- what lies between two places -/
def mid (l : Bs) (i j : Nat) : Bs := (l.take j).drop i
theorem mid_same (l : Bs) (i : Nat) : mid l i i = [] := by unfold mid; exact List.drop_eq_nil_of_le (by simp; omega)
theorem mid_step (s : ByteArray) (i k : Nat) (hik : i ≤ k) (h : k < s.size) : mid (Ls s) i (k + 1) = mid (Ls s) i k ++ [s[k]] := by
  unfold mid
  rw [take_succ s k h, List.drop_append_of_le_length (by simp [Ls_len]; omega)]
theorem mid_len (s : ByteArray) (i k : Nat) (h : k ≤ s.size) : (mid (Ls s) i k).length = k - i := by
  unfold mid; simp [Ls_len]; omega

/-- the loop of zzIdents: at place k, the identifier begun at i -/
def IdInv (pre : Bool) (s : ByteArray) (i k : Nat) : Prop := i ≤ k ∧ k ≤ s.size ∧ idents pre (Ls s) = go pre (mid (Ls s) i k) ((Ls s).drop k)
theorem id_start (pre : Bool) (s : ByteArray) : IdInv pre s 0 0 := ⟨by omega, by omega, by simp [mid, idents]⟩
theorem id_dot {pre : Bool} {s : ByteArray} {i k : Nat} (h : IdInv pre s i k) (hk : k < s.size) (hx : s[k].toNat = 46) (hs : seg pre (mid (Ls s) i k) = true) : IdInv pre s (k + 1) (k + 1) := by
  refine ⟨by omega, by omega, ?_⟩
  rw [h.2.2, drop_cons s k hk, mid_same]
  simp [go, hx, hs]
theorem id_dot_no {pre : Bool} {s : ByteArray} {i k : Nat} (h : IdInv pre s i k) (hk : k < s.size) (hx : s[k].toNat = 46) (hs : seg pre (mid (Ls s) i k) = false) : idents pre (Ls s) = false := by
  rw [h.2.2, drop_cons s k hk]
  simp [go, hx, hs]
theorem id_chr {pre : Bool} {s : ByteArray} {i k : Nat} (h : IdInv pre s i k) (hk : k < s.size) (hx : s[k].toNat ≠ 46) (hs : idc s[k] = true) : IdInv pre s i (k + 1) := by
  refine ⟨by have := h.1; omega, by omega, ?_⟩
  rw [h.2.2, drop_cons s k hk, mid_step s i k h.1 hk]
  simp [go, hx, hs]
theorem id_chr_no {pre : Bool} {s : ByteArray} {i k : Nat} (h : IdInv pre s i k) (hk : k < s.size) (hx : s[k].toNat ≠ 46) (hs : idc s[k] = false) : idents pre (Ls s) = false := by
  rw [h.2.2, drop_cons s k hk]
  simp [go, hx, hs]
theorem id_end {pre : Bool} {s : ByteArray} {i : Nat} (h : IdInv pre s i s.size) : idents pre (Ls s) = seg pre (mid (Ls s) i s.size) := by
  rw [h.2.2, List.drop_eq_nil_of_le (by rw [Ls_len]; omega)]; rfl
end Qx11
