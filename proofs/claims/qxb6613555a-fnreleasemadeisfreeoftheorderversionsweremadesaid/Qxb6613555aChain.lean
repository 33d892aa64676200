import Derived.Test.Qxb6613555aSet
/- plain: the lists of waiting nodes, laid by the build -/
namespace Go.Proofs.Qxb6613555a.Chain
open Go.Proofs.Qxb6613555a.Set (ch)

theorem ch_at {α : Type} (f : Nat → α) (i : Nat) (v : α) : ch f i v i = v := by simp [ch]
theorem ch_ne {α : Type} (f : Nat → α) {i x : Nat} (v : α) (h : x ≠ i) : ch f i v x = f x := by simp [ch, h]

/-- those of L that wait on j -/
def cls (ho : Nat → Int) (L : List Nat) (j : Nat) : List Nat := L.filter (fun i => decide (ho i = (j : Int)))
theorem mem_cls {ho : Nat → Int} {L : List Nat} {j x : Nat} : x ∈ cls ho L j ↔ x ∈ L ∧ ho x = (j : Int) := by simp [cls]
theorem cls_snoc_at {ho : Nat → Int} {L : List Nat} {j i : Nat} (h : ho i = (j : Int)) : cls ho (L ++ [i]) j = cls ho L j ++ [i] := by simp [cls, h]
theorem cls_snoc_ne {ho : Nat → Int} {L : List Nat} {j i : Nat} (h : ho i ≠ (j : Int)) : cls ho (L ++ [i]) j = cls ho L j := by simp [cls, h]

/-- the list from h on is l -/
def Chain (next : Nat → Int) : Int → List Nat → Prop
  | h, [] => h = -1
  | h, x :: l => h = (x : Int) ∧ Chain next (next x) l

theorem Chain.keep {next : Nat → Int} {x : Nat} {v : Int} : ∀ {l : List Nat} {h : Int}, Chain next h l → x ∉ l → Chain (ch next x v) h l
  | [], _, h, _ => h
  | y :: l, _, ⟨h1, h2⟩, hx => by
    simp at hx
    exact ⟨h1, by rw [ch_ne _ _ (fun e => hx.1 e.symm)]; exact Chain.keep h2 hx.2⟩
theorem Chain.snoc {next : Nat → Int} {x i : Nat} (hi : next i = -1) (hxi : i ≠ x) : ∀ {l : List Nat} {h : Int}, Chain next h (l ++ [x]) → (l ++ [x]).Nodup → Chain (ch next x i) h (l ++ [x] ++ [i])
  | [], _, ⟨h1, _⟩, _ => ⟨h1, by rw [ch_at], by rw [ch_ne _ _ hxi]; exact hi⟩
  | y :: l, _, ⟨h1, h2⟩, hn => by
    have hn' := List.nodup_cons.1 hn
    have hy : y ≠ x := fun e => hn'.1 (by simp [e])
    exact ⟨h1, by rw [ch_ne _ _ hy]; exact Chain.snoc hi hxi h2 hn'.2⟩
theorem Chain.first {next : Nat → Int} {h : Int} {l : List Nat} (c : Chain next h l) : (l = [] ∧ h = -1) ∨ ∃ x l', l = x :: l' ∧ h = (x : Int) := by
  cases l with
  | nil => exact .inl ⟨rfl, c⟩
  | cons x l' => exact .inr ⟨x, l', rfl, c.1⟩
theorem Chain.neg {next : Nat → Int} {h : Int} {l : List Nat} (c : Chain next h l) (hh : h < 0) : l = [] := by
  rcases c.first with ⟨h1, _⟩ | ⟨x, l', _, h2⟩
  · exact h1
  · omega

structure Lists (ho : Nat → Int) (M : Nat) (L : List Nat) (first last next : Nat → Int) : Prop where
  first : ∀ j, j < M → Chain next (first j) (cls ho L j)
  last : ∀ j, j < M → ∀ (l : List Nat) (x : Nat), cls ho L j = l ++ [x] → last j = (x : Int)
  nil : ∀ i, i ∉ L → next i = -1

variable {ho : Nat → Int} {M : Nat} {L : List Nat} {first last next : Nat → Int} {i j : Nat}

theorem Lists.start (ho : Nat → Int) (M : Nat) (first last next : Nat → Int) (hf : ∀ j, j < M → first j = -1) (hn : ∀ i, next i = -1) : Lists ho M [] first last next :=
  ⟨fun j hj => hf j hj, fun j _ l x h => by simp [cls] at h, fun i _ => hn i⟩
theorem Lists.new (h : Lists ho M L first last next) (hj : ho i = (j : Int)) (hi : i ∉ L) (he : cls ho L j = []) : Lists ho M (L ++ [i]) (ch first j i) (ch last j i) next := by
  refine ⟨fun k hk => ?_, fun k hk l x hl => ?_, fun k hk => h.nil k (fun e => hk (by simp [e]))⟩
  · by_cases e : k = j
    · subst e; rw [cls_snoc_at hj, he, ch_at]; exact ⟨rfl, h.nil i hi⟩
    · rw [cls_snoc_ne (by omega), ch_ne _ _ e]; exact h.first k hk
  · by_cases e : k = j
    · subst e; rw [cls_snoc_at hj, he] at hl; rw [ch_at]
      obtain ⟨rfl, rfl⟩ : l = [] ∧ i = x := by
        cases l with
        | nil => simpa using hl
        | cons a l => simp at hl
      rfl
    · rw [cls_snoc_ne (by omega)] at hl; rw [ch_ne _ _ e]; exact h.last k hk l x hl
theorem Lists.more (h : Lists ho M L first last next) (hj : ho i = (j : Int)) (hi : i ∉ L) (hn : L.Nodup) {l : List Nat} {x : Nat} (he : cls ho L j = l ++ [x]) : Lists ho M (L ++ [i]) first (ch last j i) (ch next x i) := by
  have hx : x ∈ cls ho L j := by simp [he]
  obtain ⟨hxL, hxj⟩ := mem_cls.1 hx
  have hix : i ≠ x := fun e => hi (e ▸ hxL)
  refine ⟨fun k hk => ?_, fun k hk l' y hl => ?_, fun k hk => ?_⟩
  · by_cases e : k = j
    · subst e
      rw [cls_snoc_at hj, he]
      have c := h.first k hk
      have nd : (cls ho L k).Nodup := List.Nodup.sublist List.filter_sublist hn
      rw [he] at c nd
      exact Chain.snoc (h.nil i hi) hix c nd
    · rw [cls_snoc_ne (by omega)]
      exact Chain.keep (h.first k hk) (fun hm => by have := (mem_cls.1 hm).2; omega)
  · by_cases e : k = j
    · subst e; rw [cls_snoc_at hj] at hl; rw [ch_at]
      have := (List.append_inj' hl rfl).2
      simp at this; rw [this]
    · rw [cls_snoc_ne (by omega)] at hl; rw [ch_ne _ _ e]; exact h.last k hk l' y hl
  · rw [ch_ne _ _ (fun e => hk (by simp [e, hxL]))]; exact h.nil k (fun e => hk (by simp [e]))
theorem last_of {l : List Nat} (h : l ≠ []) : ∃ l' x, l = l' ++ [x] := ⟨l.dropLast, l.getLast h, (List.dropLast_concat_getLast h).symm⟩
end Go.Proofs.Qxb6613555a.Chain
