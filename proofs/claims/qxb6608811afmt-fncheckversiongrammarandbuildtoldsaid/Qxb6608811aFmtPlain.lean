/- THE PLAIN FUNCTIONS: no Go in sight. -/
namespace Qx11
abbrev Bs := List UInt8

def dig (c : UInt8) : Bool := decide (48 ≤ c.toNat) && decide (c.toNat ≤ 57)
def idc (c : UInt8) : Bool := dig c || (decide (97 ≤ c.toNat) && decide (c.toNat ≤ 122)) || (decide (65 ≤ c.toNat) && decide (c.toNat ≤ 90)) || (c.toNat == 45)
/-- does l begin with the byte n? -/
def hd (n : Nat) : Bs → Bool
  | [] => false
  | c :: _ => c.toNat == n
def upTo (n : Nat) (l : Bs) : Bs := l.takeWhile (fun c => c.toNat != n)
def frm (n : Nat) (l : Bs) : Bs := l.dropWhile (fun c => c.toNat != n)
def isNum (t : Bs) : Bool := !t.isEmpty && t.all dig && !(decide (1 < t.length) && hd 48 t)
def bad (t : Bs) : Bool := decide (1 < t.length) && hd 48 t && t.all dig
def seg (pre : Bool) (t : Bs) : Bool := !t.isEmpty && !(pre && bad t)
def go (pre : Bool) (cur : Bs) : Bs → Bool
  | [] => seg pre cur
  | c :: r => if c.toNat = 46 then seg pre cur && go pre [] r else idc c && go pre (cur ++ [c]) r
def idents (pre : Bool) (l : Bs) : Bool := go pre [] l

def newer (b c : Bs) : Bool := decide (1 < b.length) || (match b with | [] => false | x :: _ => decide (51 < x.toNat)) || (b == [51] && c != [48])

/-- zzModel -/
def model (l : Bs) : Bool × Bool :=
  if (!(frm 43 l).isEmpty && !idents false (frm 43 l).tail) = true then (false, false) else
  if (!(frm 45 (upTo 43 l)).isEmpty && !idents true (frm 45 (upTo 43 l)).tail) = true then (false, false) else
  if (frm 46 (upTo 45 (upTo 43 l))).isEmpty = true then (false, false) else
  if (frm 46 (frm 46 (upTo 45 (upTo 43 l))).tail).isEmpty = true then (false, false) else
  if (isNum (upTo 46 (upTo 45 (upTo 43 l))) && isNum (upTo 46 (frm 46 (upTo 45 (upTo 43 l))).tail) && isNum (frm 46 (frm 46 (upTo 45 (upTo 43 l))).tail).tail) = true then
    if upTo 46 (upTo 45 (upTo 43 l)) = [49] then (true, newer (upTo 46 (frm 46 (upTo 45 (upTo 43 l))).tail) (frm 46 (frm 46 (upTo 45 (upTo 43 l))).tail).tail) else (false, false)
  else (false, false)

/-- what semver.parse makes of a text behind its 'v' -/
structure Ver where
  maj : Bs
  min : Bs
  pat : Bs
  short : Bs
  pre : Bs
  bld : Bs

def pI (l : Bs) : Option (Bs × Bs) := if isNum (l.takeWhile dig) = true then some (l.takeWhile dig, l.dropWhile dig) else none
/-- parsePrerelease of 45 :: r -/
def pPre (r : Bs) : Option (Bs × Bs) := if idents true (upTo 43 r) = true then some (45 :: upTo 43 r, frm 43 r) else none
/-- parseBuild of 43 :: r -/
def pBld (r : Bs) : Option Bs := if idents false r = true then some (43 :: r) else none

/-- behind the patch and the prerelease -/
def pEnd (a b c pre : Bs) : Bs → Option Ver
  | [] => some ⟨a, b, c, [], pre, []⟩
  | x :: r => if x.toNat = 43 then (match pBld r with | none => none | some t => some ⟨a, b, c, [], pre, t⟩) else none
/-- behind the patch -/
def pTail (a b c : Bs) : Bs → Option Ver
  | [] => some ⟨a, b, c, [], [], []⟩
  | x :: r => if x.toNat = 45 then (match pPre r with | none => none | some (t, q) => pEnd a b c t q) else pEnd a b c [] (x :: r)
def pPatch (a b : Bs) : Bs → Option Ver
  | [] => some ⟨a, b, [48], [46, 48], [], []⟩
  | x :: r => if x.toNat = 46 then (match pI r with | none => none | some (c, q) => pTail a b c q) else none
def pMinor (a : Bs) : Bs → Option Ver
  | [] => some ⟨a, [48], [48], [46, 48, 46, 48], [], []⟩
  | x :: r => if x.toNat = 46 then (match pI r with | none => none | some (b, q) => pPatch a b q) else none
def parse (l : Bs) : Option Ver :=
  match pI l with
  | none => none
  | some (a, q) => pMinor a q

/-- semver.compareInt -/
def cInt (less : Bs → Bs → Bool) (x y : Bs) : Int := if x = y then 0 else if x.length < y.length then -1 else if y.length < x.length then 1 else if less x y = true then -1 else 1

/-- CheckVersion: accepted, newer -/
def cv (l : Bs) : Bool × Bool :=
  match parse l with
  | none => (false, false)
  | some v => if v.short = [] then (if v.maj = [49] then (true, newer v.min v.pat) else (false, false)) else (false, false)

/-! ### small laws -/
theorem u8_eq {c : UInt8} {n : Nat} (hn : n < 256) (h : c.toNat = n) : c = UInt8.ofNat n := by
  apply UInt8.toNat_inj.1
  rw [h]; simp; omega

theorem upTo_append (n : Nat) (l : Bs) (x : UInt8) (r : Bs) (h : ∀ c ∈ l, c.toNat ≠ n) (hx : x.toNat = n) : upTo n (l ++ x :: r) = l ∧ frm n (l ++ x :: r) = x :: r := by
  unfold upTo frm
  have hp : ∀ c ∈ l, (c.toNat != n) = true := fun c hc => by simpa using h c hc
  have hq : (x.toNat != n) = false := by simp [hx]
  constructor
  · rw [List.takeWhile_append_of_pos hp, List.takeWhile_cons_of_neg (by simp [hq])]; simp
  · rw [List.dropWhile_append_of_pos hp, List.dropWhile_cons_of_neg (by simp [hq])]
theorem upTo_none (n : Nat) (l : Bs) (h : ∀ c ∈ l, c.toNat ≠ n) : upTo n l = l ∧ frm n l = [] := by
  have hp : ∀ c ∈ l, (c.toNat != n) = true := fun c hc => by simpa using h c hc
  unfold upTo frm
  have a := List.takeWhile_append_of_pos (l₂ := []) hp
  have b := List.dropWhile_append_of_pos (l₂ := []) hp
  simp at a b
  exact ⟨a, b⟩
theorem upTo_frm (n : Nat) (l : Bs) : upTo n l ++ frm n l = l := List.takeWhile_append_dropWhile
theorem mem_upTo {n : Nat} {l : Bs} {c : UInt8} (h : c ∈ upTo n l) : c.toNat ≠ n := by
  unfold upTo at h
  induction l with
  | nil => simp at h
  | cons x r ih =>
    rw [List.takeWhile_cons] at h
    split at h
    · rename_i hx
      rcases List.mem_cons.1 h with rfl | h'
      · simpa using hx
      · exact ih h'
    · simp at h
theorem frm_cons {n : Nat} {l : Bs} {x : UInt8} {r : Bs} (h : frm n l = x :: r) : x.toNat = n := by
  unfold frm at h
  induction l with
  | nil => simp at h
  | cons y t ih =>
    rw [List.dropWhile_cons] at h
    split at h
    · exact ih h
    · rename_i hy
      simp at h; rw [← h.1]; simpa using hy

theorem isNum_dig {t : Bs} (h : isNum t = true) : ∀ c ∈ t, dig c = true := by
  unfold isNum at h
  simp only [Bool.and_eq_true, List.all_eq_true] at h
  exact h.1.2
theorem isNum_ne {t : Bs} (h : isNum t = true) : t ≠ [] := by
  rintro rfl; simp [isNum] at h
theorem dig_ne {c : UInt8} (h : dig c = true) : c.toNat ≠ 43 ∧ c.toNat ≠ 45 ∧ c.toNat ≠ 46 := by
  simp [dig] at h; omega
theorem idc_ne {c : UInt8} (h : idc c = true) : c.toNat ≠ 43 ∧ c.toNat ≠ 46 := by
  simp [idc, dig] at h; omega

theorem go_mem {pre : Bool} : ∀ {cur l : Bs}, go pre cur l = true → ∀ c ∈ l, c.toNat ≠ 43
  | cur, [], _, c, hc => by simp at hc
  | cur, x :: r, h, c, hc => by
    unfold go at h
    split at h
    · rename_i e
      simp only [Bool.and_eq_true] at h
      rcases List.mem_cons.1 hc with rfl | h'
      · omega
      · exact go_mem h.2 c h'
    · simp only [Bool.and_eq_true] at h
      rcases List.mem_cons.1 hc with rfl | h'
      · exact (idc_ne h.1).1
      · exact go_mem h.2 c h'

/-! ### the grammar -/
structure Acc (l a b c pre bld : Bs) : Prop where
  eq : l = a ++ 46 :: (b ++ 46 :: (c ++ (pre ++ bld)))
  na : isNum a = true
  nb : isNum b = true
  nc : isNum c = true
  pr : pre = [] ∨ ∃ P, pre = 45 :: P ∧ idents true P = true
  bl : bld = [] ∨ ∃ B, bld = 43 :: B ∧ idents false B = true

theorem pI_mk {t r : Bs} (h : isNum t = true) (hr : ∀ x q, r = x :: q → dig x = false) : pI (t ++ r) = some (t, r) := by
  have hp := isNum_dig h
  have e1 : (t ++ r).takeWhile dig = t ∧ (t ++ r).dropWhile dig = r := by
    rw [List.takeWhile_append_of_pos hp, List.dropWhile_append_of_pos hp]
    cases r with
    | nil => simp
    | cons x q => simp [hr x q rfl]
  unfold pI
  rw [e1.1, e1.2, if_pos h]
theorem pI_inv {l t r : Bs} (h : pI l = some (t, r)) : l = t ++ r ∧ isNum t = true := by
  unfold pI at h
  split at h
  · simp at h
    obtain ⟨rfl, rfl⟩ := h
    exact ⟨(List.takeWhile_append_dropWhile).symm, ‹_›⟩
  · simp at h

theorem dig46 : dig 46 = false := by decide
theorem dig45 : dig 45 = false := by decide
theorem dig43 : dig 43 = false := by decide

theorem pEnd_mk (a b c pre bld : Bs) (h : bld = [] ∨ ∃ B, bld = 43 :: B ∧ idents false B = true) : pEnd a b c pre bld = some ⟨a, b, c, [], pre, bld⟩ := by
  rcases h with rfl | ⟨B, rfl, hB⟩
  · rfl
  · simp [pEnd, pBld, hB]

theorem acc_parse {l a b c pre bld : Bs} (h : Acc l a b c pre bld) : parse l = some ⟨a, b, c, [], pre, bld⟩ := by
  rw [h.eq]
  unfold parse
  rw [pI_mk h.na (fun x q e => by simp at e; rw [← e.1]; exact dig46)]
  simp only [pMinor]
  rw [if_pos (by rfl), pI_mk h.nb (fun x q e => by simp at e; rw [← e.1]; exact dig46)]
  simp only [pPatch]
  have h3 : ∀ x q, pre ++ bld = x :: q → dig x = false := by
    intro x q e
    rcases h.pr with hp | ⟨P, hp, _⟩
    · rw [hp] at e
      rcases h.bl with hb | ⟨B, hb, _⟩
      · rw [hb] at e; simp at e
      · rw [hb] at e; simp at e; rw [← e.1]; exact dig43
    · rw [hp] at e; simp at e; rw [← e.1]; exact dig45
  rw [if_pos (by rfl), pI_mk h.nc h3]
  simp only
  rcases h.pr with hp | ⟨P, hp, hP⟩
  · rw [hp]
    rcases h.bl with hb | ⟨B, hb, hB⟩
    · rw [hb]; rfl
    · rw [hb]; simp [pTail, pEnd, pBld, hB]
  · rw [hp]
    have hm : ∀ c ∈ P, c.toNat ≠ 43 := go_mem hP
    have e : upTo 43 (P ++ bld) = P ∧ frm 43 (P ++ bld) = bld := by
      rcases h.bl with hb | ⟨B, hb, _⟩
      · rw [hb, List.append_nil]; exact upTo_none 43 P hm
      · rw [hb]; exact upTo_append 43 P 43 B hm rfl
    show pTail a b c (45 :: (P ++ bld)) = _
    simp only [pTail, pPre, e.1, e.2, hP, if_true]
    rw [if_pos (by rfl)]
    exact pEnd_mk _ _ _ _ _ h.bl

theorem parse_acc {l a b c pre bld : Bs} (h : parse l = some ⟨a, b, c, [], pre, bld⟩) : Acc l a b c pre bld := by
  unfold parse at h
  split at h
  · simp at h
  · rename_i a' q1 h1
    obtain ⟨rfl, n1⟩ := pI_inv h1
    unfold pMinor at h
    split at h
    · simp at h
    · rename_i x1 r1
      split at h
      · rename_i e1
        split at h
        · simp at h
        · rename_i b' q2 h2
          obtain ⟨rfl, n2⟩ := pI_inv h2
          unfold pPatch at h
          split at h
          · simp at h
          · rename_i x2 r2
            split at h
            · rename_i e2
              split at h
              · simp at h
              · rename_i c' q3 h3
                obtain ⟨rfl, n3⟩ := pI_inv h3
                have f1 : x1 = 46 := u8_eq (by decide) e1
                have f2 : x2 = 46 := u8_eq (by decide) e2
                subst f1 f2
                have endInv : ∀ {p q : Bs} {v : Ver}, pEnd a' b' c' p q = some v → v = ⟨a', b', c', [], p, q⟩ ∧ (q = [] ∨ ∃ B, q = 43 :: B ∧ idents false B = true) := by
                  intro p q v hv
                  unfold pEnd at hv
                  split at hv
                  · simp at hv; exact ⟨hv.symm, .inl rfl⟩
                  · rename_i y s
                    split at hv
                    · rename_i ey
                      unfold pBld at hv
                      by_cases hB : idents false s = true
                      · simp [hB] at hv
                        have f3 : y = 43 := u8_eq (by decide) ey
                        subst f3
                        exact ⟨hv.symm, .inr ⟨s, rfl, hB⟩⟩
                      · simp [hB] at hv
                    · simp at hv
                unfold pTail at h
                split at h
                · simp at h
                  obtain ⟨rfl, rfl, rfl, rfl, rfl⟩ := h
                  exact ⟨by simp, n1, n2, n3, .inl rfl, .inl rfl⟩
                · rename_i x3 r3
                  split at h
                  · rename_i e3
                    have f3 : x3 = 45 := u8_eq (by decide) e3
                    subst f3
                    unfold pPre at h
                    by_cases hP : idents true (upTo 43 r3) = true
                    · rw [if_pos hP] at h
                      simp only at h
                      obtain ⟨hv, hb⟩ := endInv h
                      simp at hv
                      obtain ⟨rfl, rfl, rfl, rfl, rfl⟩ := hv
                      exact ⟨by simp [upTo_frm], n1, n2, n3, .inr ⟨_, rfl, hP⟩, hb⟩
                    · rw [if_neg hP] at h; simp at h
                  · obtain ⟨hv, hb⟩ := endInv h
                    simp at hv
                    obtain ⟨rfl, rfl, rfl, rfl, rfl⟩ := hv
                    exact ⟨by simp, n1, n2, n3, .inl rfl, hb⟩
            · simp at h
      · simp at h

theorem acc_model {l a b c pre bld : Bs} (h : Acc l a b c pre bld) : model l = if a = [49] then (true, newer b c) else (false, false) := by
  have da := isNum_dig h.na
  have db := isNum_dig h.nb
  have dc := isNum_dig h.nc
  have m43 : ∀ x ∈ a ++ 46 :: (b ++ 46 :: (c ++ pre)), x.toNat ≠ 43 := by
    intro x hx
    simp only [List.mem_append, List.mem_cons] at hx
    rcases hx with hx | rfl | hx | rfl | hx | hx
    · exact (dig_ne (da x hx)).1
    · decide
    · exact (dig_ne (db x hx)).1
    · decide
    · exact (dig_ne (dc x hx)).1
    · rcases h.pr with hp | ⟨P, hp, hP⟩
      · rw [hp] at hx; simp at hx
      · rw [hp] at hx
        rcases List.mem_cons.1 hx with rfl | hx
        · decide
        · exact go_mem hP x hx
  have e1 : upTo 43 l = a ++ 46 :: (b ++ 46 :: (c ++ pre)) ∧ frm 43 l = bld := by
    have el : l = (a ++ 46 :: (b ++ 46 :: (c ++ pre))) ++ bld := by rw [h.eq]; simp
    rw [el]
    rcases h.bl with hb | ⟨B, hb, _⟩
    · rw [hb, List.append_nil]; exact upTo_none 43 _ m43
    · rw [hb]; exact upTo_append 43 _ 43 B m43 rfl
  have m45 : ∀ x ∈ a ++ 46 :: (b ++ 46 :: c), x.toNat ≠ 45 := by
    intro x hx
    simp only [List.mem_append, List.mem_cons] at hx
    rcases hx with hx | rfl | hx | rfl | hx
    · exact (dig_ne (da x hx)).2.1
    · decide
    · exact (dig_ne (db x hx)).2.1
    · decide
    · exact (dig_ne (dc x hx)).2.1
  have e2 : upTo 45 (upTo 43 l) = a ++ 46 :: (b ++ 46 :: c) ∧ frm 45 (upTo 43 l) = pre := by
    rw [e1.1]
    have el : a ++ 46 :: (b ++ 46 :: (c ++ pre)) = (a ++ 46 :: (b ++ 46 :: c)) ++ pre := by simp
    rw [el]
    rcases h.pr with hp | ⟨P, hp, _⟩
    · rw [hp, List.append_nil]; exact upTo_none 45 _ m45
    · rw [hp]; exact upTo_append 45 _ 45 P m45 rfl
  have e3 := upTo_append 46 a 46 (b ++ 46 :: c) (fun x hx => (dig_ne (da x hx)).2.2) rfl
  have e4 := upTo_append 46 b 46 c (fun x hx => (dig_ne (db x hx)).2.2) rfl
  unfold model
  rw [e2.1, e2.2, e1.2, e3.1, e3.2]
  simp only [List.tail_cons, e4.1, e4.2, List.isEmpty_cons, h.na, h.nb, h.nc]
  rw [if_neg, if_neg]
  · simp
  · rcases h.pr with hp | ⟨P, hp, hP⟩
    · rw [hp]; simp
    · rw [hp]; simp [hP]
  · rcases h.bl with hb | ⟨B, hb, hB⟩
    · rw [hb]; simp
    · rw [hb]; simp [hB]

theorem part {n : Nat} {l : Bs} (hn : n < 256) (q : Bs → Bool) (h : ¬ (!(frm n l).isEmpty && !q (frm n l).tail) = true) :
    frm n l = [] ∨ ∃ B, frm n l = UInt8.ofNat n :: B ∧ q B = true := by
  cases e : frm n l with
  | nil => exact .inl rfl
  | cons x r =>
    have hx := frm_cons e
    rw [e] at h
    simp at h
    exact .inr ⟨r, by rw [u8_eq hn hx], h⟩
theorem dot {l : Bs} (h : ¬ (frm 46 l).isEmpty = true) : l = upTo 46 l ++ 46 :: (frm 46 l).tail := by
  cases e : frm 46 l with
  | nil => rw [e] at h; simp at h
  | cons x r =>
    have hx := frm_cons e
    have f : x = 46 := u8_eq (by decide) hx
    subst f
    have := upTo_frm 46 l
    rw [e] at this
    exact this.symm

theorem model_acc {l : Bs} (h : (model l).1 = true) : ∃ a b c pre bld, Acc l a b c pre bld := by
  unfold model at h
  split at h
  · simp at h
  · rename_i h1
    split at h
    · simp at h
    · rename_i h2
      split at h
      · simp at h
      · rename_i h3
        split at h
        · simp at h
        · rename_i h4
          split at h
          · rename_i h5
            simp only [Bool.and_eq_true] at h5
            refine ⟨_, _, _, frm 45 (upTo 43 l), frm 43 l, ?_, h5.1.1, h5.1.2, h5.2, part (by decide) (idents true) h2, part (by decide) (idents false) h1⟩
            have d1 := dot h3
            have d2 := dot h4
            have d0 : l = upTo 45 (upTo 43 l) ++ (frm 45 (upTo 43 l) ++ frm 43 l) := by rw [← List.append_assoc, upTo_frm, upTo_frm]
            refine d0.trans ?_
            generalize upTo 45 (upTo 43 l) = core at d1 d2 ⊢
            generalize frm 45 (upTo 43 l) ++ frm 43 l = z
            generalize (frm 46 core).tail = rest at d1 d2 ⊢
            generalize upTo 46 core = aa at d1 ⊢
            generalize upTo 46 rest = bb at d2 ⊢
            generalize (frm 46 rest).tail = cc at d2 ⊢
            subst d2
            subst d1
            simp
          · simp at h

theorem model_no {l : Bs} (h : (model l).1 = false) : model l = (false, false) := by
  unfold model at h ⊢
  split at h
  · rw [if_pos ‹_›]
  · rename_i h1
    rw [if_neg h1]
    split at h
    · rw [if_pos ‹_›]
    · rename_i h2
      rw [if_neg h2]
      split at h
      · rw [if_pos ‹_›]
      · rename_i h3
        rw [if_neg h3]
        split at h
        · rw [if_pos ‹_›]
        · rename_i h4
          rw [if_neg h4]
          split at h
          · rename_i h5
            rw [if_pos h5]
            split at h
            · simp at h
            · rw [if_neg ‹_›]
          · rw [if_neg ‹_›]

/-- ████ CheckVersion answers as the model does ████ -/
theorem cv_model (l : Bs) : cv l = model l := by
  by_cases hm : (model l).1 = true
  · obtain ⟨a, b, c, pre, bld, h⟩ := model_acc hm
    rw [acc_model h]
    unfold cv
    rw [acc_parse h]
    simp
  · have hm' : (model l).1 = false := by simpa using hm
    rw [model_no hm']
    unfold cv
    cases hp : parse l with
    | none => rfl
    | some v =>
      obtain ⟨a, b, c, s, pre, bld⟩ := v
      simp only
      split
      · rename_i hs
        subst hs
        have ha := parse_acc hp
        have e := acc_model ha
        rw [model_no hm'] at e
        split
        · rename_i hj
          rw [if_pos hj] at e; simp at e
        · rfl
      · rfl

/-- ████ the build appended ████ -/
theorem model_build (l b : Bs) : model (l ++ 43 :: b) = if ((model l).1 && (frm 43 l).isEmpty && idents false b) = true then (true, (model l).2) else (false, false) := by
  by_cases hp : (frm 43 l).isEmpty = true
  · have hf : frm 43 l = [] := by simpa using hp
    have hu : upTo 43 l = l := by have := upTo_frm 43 l; rw [hf] at this; simpa using this
    have hm : ∀ c ∈ l, c.toNat ≠ 43 := fun c hc => by rw [← hu] at hc; exact mem_upTo hc
    obtain ⟨e1, e2⟩ := upTo_append 43 l 43 b hm rfl
    have em : model (l ++ 43 :: b) = if idents false b = true then model l else (false, false) := by
      unfold model
      rw [e1, e2, hf, hu]
      by_cases hb : idents false b = true
      · simp [hb]
      · simp [hb]
    rw [em, hp]
    by_cases hb : idents false b = true
    · rw [if_pos hb]
      cases h1 : (model l).1 with
      | false => rw [model_no h1]; simp
      | true => simp [hb, ← h1]
    · simp [hb]
  · have hp' : (frm 43 l).isEmpty = false := by simpa using hp
    rw [hp']
    simp only [Bool.and_false, Bool.false_and, Bool.false_eq_true, if_false]
    have hbad : idents false (frm 43 (l ++ 43 :: b)).tail = false ∧ (frm 43 (l ++ 43 :: b)).isEmpty = false := by
      cases e : frm 43 l with
      | nil => rw [e] at hp'; simp at hp'
      | cons x r =>
        have hx := frm_cons e
        have e2 : frm 43 (l ++ 43 :: b) = x :: (r ++ 43 :: b) := by
          have hl : l = upTo 43 l ++ x :: r := by rw [← e]; exact (upTo_frm 43 l).symm
          rw [hl, List.append_assoc, List.cons_append]
          exact (upTo_append 43 _ x _ (fun c hc => mem_upTo hc) hx).2
        rw [e2]
        refine ⟨?_, rfl⟩
        cases hi : idents false (r ++ 43 :: b) with
        | false => simpa using hi
        | true => exact absurd rfl (go_mem hi 43 (by simp))
    unfold model
    rw [if_pos (by rw [hbad.1, hbad.2]; rfl)]
end Qx11
