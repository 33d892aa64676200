import Derived.Test.Qxb6608811aFmtStrs
import GoSem.Op.String
/- plain laws for CheckVersion -/
namespace Qx11
open Go (Op.bytesLess)

/-- what is known of a text that parses -/
theorem parse_facts {l : Bs} {v : Ver} (h : parse l = some v) :
    (v.short = [] ∧ Acc l v.maj v.min v.pat v.pre v.bld) ∨ (v.short ≠ [] ∧ v.bld = [] ∧ v.short.length ≤ 4 ∧ ∃ r, l = v.maj ++ r) := by
  by_cases hs : v.short = []
  · left
    obtain ⟨a, b, c, s, p, d⟩ := v
    simp only at hs
    subst hs
    exact ⟨rfl, parse_acc h⟩
  · right
    have endShort : ∀ {a b c p q : Bs}, pEnd a b c p q = some v → v.short = [] := by
      intro a b c p q hv
      unfold pEnd at hv
      split at hv
      · simp at hv; rw [← hv]
      · split at hv
        · split at hv
          · simp at hv
          · simp at hv; rw [← hv]
        · simp at hv
    unfold parse at h
    split at h
    · simp at h
    · rename_i a q h1
      obtain ⟨e1, n1⟩ := pI_inv h1
      unfold pMinor at h
      split at h
      · simp at h; subst h; exact ⟨hs, rfl, by simp, _, e1⟩
      · split at h
        · split at h
          · simp at h
          · rename_i b q2 h2
            unfold pPatch at h
            split at h
            · simp at h; subst h; exact ⟨hs, rfl, by simp, _, e1⟩
            · split at h
              · split at h
                · simp at h
                · rename_i c q3 h3
                  exfalso
                  unfold pTail at h
                  split at h
                  · simp at h; rw [← h] at hs; simp at hs
                  · split at h
                    · split at h
                      · simp at h
                      · exact hs (endShort h)
                    · exact hs (endShort h)
              · simp at h
        · simp at h

theorem maj_prefix {l : Bs} {v : Ver} (h : parse l = some v) : ∃ r, l = v.maj ++ r := by
  rcases parse_facts h with ⟨_, ha⟩ | ⟨_, _, _, hr⟩
  · exact ⟨_, ha.eq⟩
  · exact hr
theorem bld_le {l : Bs} {v : Ver} (h : parse l = some v) : v.bld.length ≤ l.length := by
  rcases parse_facts h with ⟨_, ha⟩ | ⟨_, hb, _, _⟩
  · have e := congrArg List.length ha.eq
    simp at e
    omega
  · rw [hb]; simp
theorem short_le {l : Bs} {v : Ver} (h : parse l = some v) : v.short.length ≤ 4 := by
  rcases parse_facts h with ⟨hs, _⟩ | ⟨_, _, h4, _⟩
  · rw [hs]; simp
  · exact h4

/-- semver.Canonical of 118 :: l -/
def canonL (l : Bs) : Bs := match parse l with
  | none => []
  | some v => if v.bld.isEmpty = true then (118 :: l) ++ v.short else (118 :: l).take (l.length + 1 - v.bld.length)
def bldL (l : Bs) : Bs := match parse l with
  | none => []
  | some v => v.bld

theorem canon_none {l : Bs} (h : parse l = none) : canonL l ++ bldL l ≠ 118 :: l := by unfold canonL bldL; rw [h]; simp
theorem canon_short {l : Bs} {v : Ver} (h : parse l = some v) (hs : v.short ≠ []) : canonL l ++ bldL l ≠ 118 :: l := by
  rcases parse_facts h with ⟨h', _⟩ | ⟨_, hb, _, _⟩
  · exact absurd h' hs
  · unfold canonL bldL; rw [h]; simp [hb, hs]
theorem canon_full {l : Bs} {v : Ver} (h : parse l = some v) (hs : v.short = []) : canonL l ++ bldL l = 118 :: l := by
  rcases parse_facts h with ⟨_, ha⟩ | ⟨h', _⟩
  · unfold canonL bldL; rw [h]
    simp only
    by_cases hb : v.bld.isEmpty = true
    · rw [if_pos hb, hs]
      have : v.bld = [] := by simpa using hb
      rw [this]; simp
    · rw [if_neg hb]
      have e : 118 :: l = (118 :: (v.maj ++ 46 :: (v.min ++ 46 :: (v.pat ++ v.pre)))) ++ v.bld := by rw [ha.eq]; simp
      have hl : l.length + 1 - v.bld.length = (118 :: (v.maj ++ 46 :: (v.min ++ 46 :: (v.pat ++ v.pre)))).length := by
        have e' := congrArg List.length e
        simp at e' ⊢
        omega
      rw [hl]
      conv => rhs; rw [e]
      conv => lhs; rw [e]
      rw [List.take_left']
      rfl
  · exact absurd hs h'

/-! ### the comparison -/
abbrev cI (x y : Bs) : Int := cInt Op.bytesLess x y
theorem cI_self (x : Bs) : cI x x = 0 := by simp [cI, cInt]
theorem cI_one (x y : UInt8) (h : x ≠ y) : cI [x] [y] = if x < y then -1 else 1 := by
  simp [cI, cInt, h, Op.bytesLess]
theorem cI_long {t : Bs} (y : UInt8) (h : 1 < t.length) : cI t [y] = 1 := by
  have hne : t ≠ [y] := by rintro rfl; simp at h
  have : ¬ t.length < 1 := by omega
  simp [cI, cInt, hne, h, this]

def cmp (b c pre : Bs) : Int := if cI b [51] ≠ 0 then cI b [51] else if cI c [48] ≠ 0 then cI c [48] else if pre.isEmpty = true then 0 else -1

theorem num_cases {t : Bs} (h : isNum t = true) : (∃ x, t = [x] ∧ dig x = true) ∨ 1 < t.length := by
  match t, isNum_ne h with
  | [x], _ => exact .inl ⟨x, rfl, isNum_dig h x (by simp)⟩
  | _ :: _ :: _, _ => exact .inr (by simp)

theorem lt51 (x : UInt8) : x < 51 ↔ x.toNat < 51 := by rw [UInt8.lt_iff_toNat_lt]; rfl
theorem lt48 (x : UInt8) : x < 48 ↔ x.toNat < 48 := by rw [UInt8.lt_iff_toNat_lt]; rfl

theorem cmp_newer {b c : Bs} (pre : Bs) (hb : isNum b = true) (hc : isNum c = true) : decide (0 < cmp b c pre) = newer b c := by
  unfold cmp newer
  rcases num_cases hb with ⟨x, rfl, hx⟩ | hl
  · by_cases h3 : x = 51
    · subst h3
      rw [cI_self]
      simp only [ne_eq, not_true_eq_false, if_false]
      rcases num_cases hc with ⟨y, rfl, hy⟩ | hl2
      · by_cases h0 : y = 48
        · subst h0
          rw [cI_self]
          simp only [not_true_eq_false, if_false]
          split <;> simp
        · rw [cI_one y 48 h0]
          have hyd := (by simpa [dig] using hy : 48 ≤ y.toNat ∧ y.toNat ≤ 57)
          have : ¬ y < 48 := by rw [lt48]; omega
          simp [this, h0]
      · rw [cI_long 48 hl2]
        have : c ≠ [48] := by rintro rfl; simp at hl2
        simp [this]
    · rw [cI_one x 51 h3]
      have hne : x.toNat ≠ 51 := fun e => h3 (u8_eq (by decide) e)
      by_cases hlt : x < 51
      · have := (lt51 x).1 hlt
        simp [hlt, h3]; omega
      · have h' : ¬ x.toNat < 51 := fun e => hlt ((lt51 x).2 e)
        simp [hlt, show 51 < x.toNat from by omega]
  · rw [cI_long 51 hl]; simp [hl]

theorem parse_130 : parse [49, 46, 51, 46, 48] = some ⟨[49], [51], [48], [], [], []⟩ := by rfl

/-- equal bytes, equal strings -/
theorem Ls_inj {s t : ByteArray} (h : Ls s = Ls t) : s = t := by
  obtain ⟨⟨a⟩⟩ := s; obtain ⟨⟨b⟩⟩ := t; simp [Ls] at h; subst h; rfl
theorem Ls_append (s t : ByteArray) : Ls (s ++ t) = Ls s ++ Ls t := by simp [Ls]
end Qx11
