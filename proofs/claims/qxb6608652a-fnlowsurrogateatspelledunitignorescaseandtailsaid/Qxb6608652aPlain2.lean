import Derived.Test.Qxb6608652aPlain
namespace Qx52

/-- the other case of a hexadecimal letter -/
def flipc (c : Int) : Int := if 97 ≤ c ∧ c ≤ 102 then c - 97 + 65 else if 65 ≤ c ∧ c ≤ 70 then c - 65 + 97 else c

theorem hexv_flip (c : Int) : hexv (flipc c) = hexv c := by unfold hexv flipc; omega
theorem flip_bd (c : Int) (h : 0 ≤ c ∧ c ≤ 255) : 0 ≤ flipc c ∧ flipc c ≤ 255 := by unfold flipc; omega

/-- the first six bytes of the other text -/
def oth (z : Nat → Int) : Nat → Int := fun i => if i < 2 then z i else flipc (z i)
def othL (z : Nat → Int) : Nat → List Int
  | 0 => []
  | k + 1 => othL z k ++ [oth z k]

theorem othL_len (z : Nat → Int) : ∀ k, (othL z k).length = k
  | 0 => rfl
  | k + 1 => by simp [othL, othL_len z k]
theorem othL_get (z : Nat → Int) : ∀ (k i : Nat), i < k → (othL z k)[i]? = some (oth z i)
  | 0, i, h => by omega
  | k + 1, i, h => by
    simp only [othL]
    by_cases e : i = k
    · subst e; rw [List.getElem?_append_right (by simp [othL_len])]; simp [othL_len]
    · rw [List.getElem?_append_left (by simp [othL_len]; omega)]; exact othL_get z k i (by omega)
theorem oth_bd (z : Nat → Int) (i : Nat) (h : 0 ≤ z i ∧ z i ≤ 255) : 0 ≤ oth z i ∧ oth z i ≤ 255 := by
  unfold oth; split
  · exact h
  · exact flip_bd _ h

theorem val_congr (z y : Nat → Int) : ∀ k, (∀ i, i < k → hexv (z i) = hexv (y i)) → val z k = val y k
  | 0, _ => rfl
  | k + 1, h => by simp only [val]; rw [val_congr z y k (fun i hi => h i (by omega)), h k (by omega)]

theorem cu_congr (z y : Nat → Int) (h : ∀ i, i < 4 → hexv (z i) = hexv (y i)) : cu z = cu y := by
  unfold cu okB
  rw [val_congr z y 4 h, h 0 (by omega), h 1 (by omega), h 2 (by omega), h 3 (by omega)]

theorem lsa_oth (z : Nat → Int) : lsa (oth z) = lsa z := by
  unfold lsa
  have e : cu (fun i => oth z (i + 2)) = cu (fun i => z (i + 2)) := cu_congr _ _ (fun i _ => by unfold oth; rw [if_neg (by omega)]; exact hexv_flip _)
  rw [e]
  simp [oth]

/-- what zzjoExpectLow answers: the same -/
theorem lsa_ok (z : Nat → Int) (e0 : z 0 = 92) (e1 : z 1 = 117) (h : okN (fun i => z (i + 2)) 4) : lsa z = (val (fun i => z (i + 2)) 4, isLow (val (fun i => z (i + 2)) 4)) := lsa_yes z e0 e1 h
theorem lsa_head0 (z : Nat → Int) (e : ¬ z 0 = 92) : lsa z = (0, false) := by unfold lsa; rw [if_neg (fun h => e h.1)]
theorem lsa_head1 (z : Nat → Int) (e : ¬ z 1 = 117) : lsa z = (0, false) := by unfold lsa; rw [if_neg (fun h => e h.2)]
end Qx52
