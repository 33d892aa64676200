/- THE PLAIN FUNCTIONS: no Go in sight. -/
namespace Qx52

/-- the value of a hexadecimal digit; -1 where c is none -/
def hexv (c : Int) : Int :=
  if 48 ≤ c ∧ c ≤ 57 then c - 48 else if 97 ≤ c ∧ c ≤ 102 then c - 87 else if 65 ≤ c ∧ c ≤ 70 then c - 55 else -1

/-- a low surrogate? -/
def isLow (u : Int) : Bool := decide (56320 ≤ u) && decide (u ≤ 57343)

/-- the number that the first k digits of z spell -/
def val (z : Nat → Int) : Nat → Int
  | 0 => 0
  | k + 1 => val z k * 16 + hexv (z k)

/-- are the first k of z digits? -/
def okN (z : Nat → Int) (k : Nat) : Prop := ∀ i, i < k → 0 ≤ hexv (z i)

/-- are the four of z digits? -/
def okB (z : Nat → Int) : Bool := decide (0 ≤ hexv (z 0)) && decide (0 ≤ hexv (z 1)) && decide (0 ≤ hexv (z 2)) && decide (0 ≤ hexv (z 3))

/-- what the four digits spell, and whether they are digits -/
def cu (z : Nat → Int) : Int × Bool := if okB z = true then (val z 4, true) else (0, false)

theorem hexv_lo (c : Int) : -1 ≤ hexv c ∧ hexv c ≤ 15 := by unfold hexv; omega

theorem val_bd (z : Nat → Int) : ∀ k, okN z k → 0 ≤ val z k ∧ val z k < 16 ^ k
  | 0, _ => by simp [val]
  | k + 1, h => by
    have ih := val_bd z k (fun i hi => h i (by omega))
    have h1 := h k (by omega)
    have h2 := (hexv_lo (z k)).2
    simp only [val]
    have e : (16 : Int) ^ (k + 1) = 16 ^ k * 16 := Int.pow_succ ..
    rw [e]
    omega

/-- as long as another digit follows, what has been spelt is below 4096 -/
theorem val_lt (z : Nat → Int) (k : Nat) (hk : k ≤ 3) (h : okN z k) : 0 ≤ val z k ∧ val z k < 4096 := by
  have := val_bd z k h
  match k, hk with
  | 0, _ => simp [val]
  | 1, _ => simp at this; omega
  | 2, _ => simp at this; omega
  | 3, _ => simp at this; omega

theorem okB_iff (z : Nat → Int) : okB z = true ↔ okN z 4 := by
  unfold okB okN
  simp only [Bool.and_eq_true, decide_eq_true_eq]
  constructor
  · rintro ⟨⟨⟨h0, h1⟩, h2⟩, h3⟩ i hi
    match i, hi with
    | 0, _ => exact h0
    | 1, _ => exact h1
    | 2, _ => exact h2
    | 3, _ => exact h3
  · intro h
    exact ⟨⟨⟨h 0 (by omega), h 1 (by omega)⟩, h 2 (by omega)⟩, h 3 (by omega)⟩

theorem cu_yes (z : Nat → Int) (h : okN z 4) : cu z = (val z 4, true) := by
  unfold cu; rw [if_pos ((okB_iff z).2 h)]
theorem cu_no (z : Nat → Int) (k : Nat) (hk : k < 4) (h : hexv (z k) < 0) : cu z = (0, false) := by
  unfold cu; rw [if_neg]
  intro e
  have := (okB_iff z).1 e k hk
  omega

theorem okN_succ (z : Nat → Int) (k : Nat) (h : okN z k) (hk : 0 ≤ hexv (z k)) : okN z (k + 1) := by
  intro i hi
  by_cases e : i = k
  · subst e; exact hk
  · exact h i (by omega)

theorem hex_step_dec {c : Int} {k : Nat} (h10 : k < 10) (hm : ¬ c = 48 + (k : Int)) (hne : ∀ j : Nat, j < k → hexv c ≠ (j : Int)) : ∀ j : Nat, j < k + 1 → hexv c ≠ (j : Int) := by
  intro j hj
  by_cases e : j = k
  · subst e; unfold hexv; omega
  · exact hne j (by omega)
theorem hex_step_let {c : Int} {k : Nat} (h10 : 10 ≤ k) (hm : ¬ c = 97 + (k : Int) - 10) (hm2 : ¬ c = 65 + (k : Int) - 10) (hne : ∀ j : Nat, j < k → hexv c ≠ (j : Int)) : ∀ j : Nat, j < k + 1 → hexv c ≠ (j : Int) := by
  intro j hj
  by_cases e : j = k
  · subst e; unfold hexv; omega
  · exact hne j (by omega)
theorem hex_none {c : Int} {k : Nat} (hk : 16 ≤ k) (hne : ∀ j : Nat, j < k → hexv c ≠ (j : Int)) : hexv c = -1 := by
  have hl := hexv_lo c
  by_cases h : 0 ≤ hexv c
  · have := hne (hexv c).toNat (by omega)
    omega
  · omega

/-- what lowSurrogateAt answers to six bytes or more -/
def lsa (z : Nat → Int) : Int × Bool :=
  if z 0 = 92 ∧ z 1 = 117 then ((cu fun i => z (i + 2)).1, (cu fun i => z (i + 2)).2 && isLow (cu fun i => z (i + 2)).1) else (0, false)

/-- the text with the byte d at place 2 + K -/
def put (z : Nat → Int) (K : Nat) (d : Int) : Nat → Int := fun i => if i = 2 + K then d else z i

theorem lsa_yes (z : Nat → Int) (e0 : z 0 = 92) (e1 : z 1 = 117) (h : okN (fun i => z (i + 2)) 4) :
    lsa z = (val (fun i => z (i + 2)) 4, isLow (val (fun i => z (i + 2)) 4)) := by
  unfold lsa; rw [if_pos ⟨e0, e1⟩, cu_yes _ h]; simp

theorem lsa_no (z : Nat → Int) (K : Nat) (hK : K < 4) (h : hexv (z (K + 2)) < 0) : lsa z = (0, false) := by
  unfold lsa
  rw [cu_no _ K hK h]
  split <;> simp

theorem put_ok (z : Nat → Int) (K : Nat) (d : Int) (h : okN (fun i => z (i + 2)) 4) (hd : 0 ≤ hexv d) : okN (fun i => put z K d (i + 2)) 4 := by
  intro i hi
  unfold put
  by_cases e : i + 2 = 2 + K
  · simp only [e, if_true]; exact hd
  · simp only [e, if_false]; exact h i hi

theorem put_val (z : Nat → Int) (K : Nat) (d : Int) (hK : K < 4) (h : okN (fun i => z (i + 2)) 4) (hd : 0 ≤ hexv d) :
    val (fun i => put z K d (i + 2)) 4 = (((val (fun i => z (i + 2)) 4).toNat / 2 ^ (12 - 4 * K + 4) * 2 ^ (12 - 4 * K + 4) + (hexv d).toNat * 2 ^ (12 - 4 * K) + (val (fun i => z (i + 2)) 4).toNat % 2 ^ (12 - 4 * K) : Nat) : Int) := by
  have a0 := h 0 (by omega)
  have a1 := h 1 (by omega)
  have a2 := h 2 (by omega)
  have a3 := h 3 (by omega)
  have b0 := (hexv_lo (z 2)).2
  have b1 := (hexv_lo (z 3)).2
  have b2 := (hexv_lo (z 4)).2
  have b3 := (hexv_lo (z 5)).2
  have bd := (hexv_lo d).2
  simp only [val, put, Nat.reduceAdd] at a0 a1 a2 a3 ⊢
  match K, hK with
  | 0, _ => simp; omega
  | 1, _ => simp; omega
  | 2, _ => simp; omega
  | 3, _ => simp; omega

end Qx52
