import Derived.Test.Qxb6608811aFmtPlain2
import Derived.Lib.Strings
/- strings as the walk spells them -/
namespace Qx11
open Go

theorem tl (s : ByteArray) : s.toList = Ls s := Lib.toList_data s
theorem Ls_extract (s : ByteArray) (i k : Nat) : Ls (s.extract i k) = mid (Ls s) i k := by
  unfold Ls mid; rw [Lib.extract_data, List.drop_take]
theorem size_pos_of {s : ByteArray} {x : UInt8} {r : Bs} (h : Ls s = x :: r) : 0 < s.size := by rw [← Ls_len, h]; simp
theorem empty_iff (s : ByteArray) : s.toList.isEmpty = true ↔ s.size = 0 := by
  rw [tl, List.isEmpty_iff, ← List.length_eq_zero_iff, Ls_len]
theorem empty_not {s : ByteArray} (h : 0 < s.size) : s.toList.isEmpty = false := by
  rw [← Bool.not_eq_true, empty_iff]; omega
theorem empty_yes {s : ByteArray} (h : s.size = 0) : s.toList.isEmpty = true := (empty_iff s).2 h
theorem Ls_nil {s : ByteArray} (h : s.size = 0) : Ls s = [] := List.length_eq_zero_iff.1 (by rw [Ls_len]; exact h)
theorem Ls_head (s : ByteArray) (h : 0 < s.size) : ∃ r, Ls s = s[0] :: r := ⟨_, by have := drop_cons s 0 h; simpa using this⟩
theorem hd_eq (n : Nat) (s : ByteArray) (h : 0 < s.size) : hd n (Ls s) = (s[0].toNat == n) := by
  obtain ⟨r, e⟩ := Ls_head s h; rw [e]; rfl
theorem bad_eq (s : ByteArray) (h : 0 < s.size) : bad (Ls s) = (decide (1 < s.size) && (s[0].toNat == 48) && (Ls s).all dig) := by
  unfold bad; rw [hd_eq 48 s h, Ls_len]
theorem isNum_eq (s : ByteArray) (h : 0 < s.size) : isNum (Ls s) = ((Ls s).all dig && !(decide (1 < s.size) && (s[0].toNat == 48))) := by
  unfold isNum; rw [hd_eq 48 s h, Ls_len]
  obtain ⟨r, e⟩ := Ls_head s h
  rw [e]; simp
theorem seg_eq (pre : Bool) (s : ByteArray) (h : 0 < s.size) : seg pre (Ls s) = !(pre && bad (Ls s)) := by
  unfold seg
  obtain ⟨r, e⟩ := Ls_head s h
  rw [e]; simp
theorem seg_nil (pre : Bool) : seg pre [] = false := rfl
theorem size_extract (s : ByteArray) (i k : Nat) (hk : k ≤ s.size) : (s.extract i k).size = k - i := by
  rw [← Ls_len, Ls_extract, mid_len s i k hk]
end Qx11
