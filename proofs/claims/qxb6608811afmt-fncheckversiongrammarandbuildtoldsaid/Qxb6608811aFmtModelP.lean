import Derived.Test.Qxb6608811aFmtStrs
/- plain laws for zzModel -/
namespace Qx11

theorem Ls_take' (s : ByteArray) (k : Nat) : Ls (s.extract 0 k) = (Ls s).take k := by rw [Ls_extract]; simp [mid]
theorem Ls_drop' (s : ByteArray) (k : Nat) : Ls (s.extract k s.size) = (Ls s).drop k := by
  rw [Ls_extract]; unfold mid; rw [List.take_of_length_le (by rw [Ls_len]; omega)]

theorem idx_cases (n : Nat) (s : ByteArray) :
    (idx n (Ls s) = -1 ∧ (frm n (Ls s)).isEmpty = true ∧ upTo n (Ls s) = Ls s) ∨
    (∃ K : Nat, K < s.size ∧ idx n (Ls s) = K ∧ (frm n (Ls s)).isEmpty = false ∧ Ls (s.extract 0 K) = upTo n (Ls s) ∧ Ls (s.extract (K + 1) s.size) = (frm n (Ls s)).tail) := by
  have hu := upTo_frm n (Ls s)
  cases hf : frm n (Ls s) with
  | nil =>
    left
    rw [hf, List.append_nil] at hu
    exact ⟨by unfold idx; rw [hf]; rfl, rfl, hu⟩
  | cons x r =>
    right
    rw [hf] at hu
    have hl := congrArg List.length hu
    rw [Ls_len, List.length_append, List.length_cons] at hl
    have e1 : idx n (Ls s) = (upTo n (Ls s)).length := by unfold idx; rw [hf]; rfl
    refine ⟨(upTo n (Ls s)).length, by omega, e1, rfl, ?_, ?_⟩
    · rw [Ls_take']
      generalize upTo n (Ls s) = u at *
      rw [← hu, List.take_left']; rfl
    · rw [Ls_drop']
      generalize upTo n (Ls s) = u at *
      rw [← hu, List.drop_append]
      simp

def m3 (core : Bs) : Bool × Bool :=
  if (frm 46 core).isEmpty = true then (false, false) else
  if (frm 46 (frm 46 core).tail).isEmpty = true then (false, false) else
  if (isNum (upTo 46 core) && isNum (upTo 46 (frm 46 core).tail) && isNum (frm 46 (frm 46 core).tail).tail) = true then
    if upTo 46 core = [49] then (true, newer (upTo 46 (frm 46 core).tail) (frm 46 (frm 46 core).tail).tail) else (false, false)
  else (false, false)
def m2 (main : Bs) : Bool × Bool := if (!(frm 45 main).isEmpty && !idents true (frm 45 main).tail) = true then (false, false) else m3 (upTo 45 main)
theorem model_eq (l : Bs) : model l = if (!(frm 43 l).isEmpty && !idents false (frm 43 l).tail) = true then (false, false) else m2 (upTo 43 l) := rfl

def fin (a b c : Bs) : Bool × Bool := if (isNum a && isNum b && isNum c) = true then (if a = [49] then (true, newer b c) else (false, false)) else (false, false)
theorem m3_no1 {core : Bs} (h : (frm 46 core).isEmpty = true) : m3 core = (false, false) := by unfold m3; rw [if_pos h]
theorem m3_no2 {core : Bs} (h : (frm 46 core).isEmpty = false) (h2 : (frm 46 (frm 46 core).tail).isEmpty = true) : m3 core = (false, false) := by unfold m3; rw [if_neg (by simp [h]), if_pos h2]
theorem m3_yes {core : Bs} (h : (frm 46 core).isEmpty = false) (h2 : (frm 46 (frm 46 core).tail).isEmpty = false) : m3 core = fin (upTo 46 core) (upTo 46 (frm 46 core).tail) (frm 46 (frm 46 core).tail).tail := by
  unfold m3; rw [if_neg (by simp [h]), if_neg (by simp [h2])]; rfl

theorem newer_eq {b : ByteArray} (c : Bs) (h : 0 < b.size) : newer (Ls b) c = (decide (1 < b.size) || decide (51 < b[0].toNat) || (Ls b == [51] && c != [48])) := by
  unfold newer
  obtain ⟨r, e⟩ := Ls_head b h
  have hl := Ls_len b
  rw [← hl]
  conv => lhs; rw [e]
  conv => rhs; rw [e]
end Qx11
