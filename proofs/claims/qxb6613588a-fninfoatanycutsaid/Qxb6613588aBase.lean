import Derived.Test.Qxb6613588aRows
import Derived.WalkKit
import Derived.ProofKit
import Derived.WalkSpells
import Derived.WalkLawsBesides
import Derived.Below
/- what the argument 'specs' holds in memory -/
namespace Go.Proofs.Qxb6613588a.Base
open Go.ChangeShapes Go.WideShapes Go.ChangeAt Go.RowKit

structure Specs where
  K : Nat → Int
  Ia : Nat → Option Addr
  In : Nat → Nat
  Ic : Nat → Nat
  Ta : Nat → Option Addr
  Tn : Nat → Nat
  Tc : Nat → Nat

/-- a slice of ZImports -/
def ImpRow (w : World) (a : Option Addr) (n c : Nat) : Prop :=
  n ≤ c ∧ c ≤ maxLen ∧ (0 < n → ∃ (b o : Nat) (P F : Nat → ByteArray) (L C : Nat → Int), a = some ⟨b, o, none⟩ ∧ ∀ j, j < n →
    w.cell? ⟨b, o + j * 4, none⟩ = some (.string (P j)) ∧ w.cell? ⟨b, o + j * 4 + 1, none⟩ = some (.string (F j)) ∧ w.cell? ⟨b, o + j * 4 + 2, none⟩ = some (.int .i64 (L j)) ∧ w.cell? ⟨b, o + j * 4 + 3, none⟩ = some (.int .i64 (C j)) ∧
    (P j).size ≤ maxLen ∧ (F j).size ≤ maxLen)
/-- a slice of strings -/
def StrRow (w : World) (a : Option Addr) (n c : Nat) : Prop :=
  n ≤ c ∧ c ≤ maxLen ∧ (0 < n → ∃ (b o : Nat) (P : Nat → ByteArray), a = some ⟨b, o, none⟩ ∧ ∀ j, j < n → w.cell? ⟨b, o + j, none⟩ = some (.string (P j)) ∧ (P j).size ≤ maxLen)

structure Decl (S : Specs) (w : World) (b o i : Nat) : Prop where
  kind : w.cell? ⟨b, o + i * 3, none⟩ = some (.int .i64 (S.K i))
  imps : w.cell? ⟨b, o + i * 3 + 1, none⟩ = some (.slice (S.Ia i) (S.In i) (S.Ic i))
  tys : w.cell? ⟨b, o + i * 3 + 2, none⟩ = some (.slice (S.Ta i) (S.Tn i) (S.Tc i))
  ir : ImpRow w (S.Ia i) (S.In i) (S.Ic i)
  tr : StrRow w (S.Ta i) (S.Tn i) (S.Tc i)

/-- the infos among the first k -/
def cnt (S : Specs) : Nat → Nat
  | 0 => 0
  | k + 1 => cnt S k + if S.K k = 1 then 1 else 0
theorem cnt_le (S : Specs) : ∀ k, cnt S k ≤ k
  | 0 => Nat.le_refl _
  | k + 1 => by have := cnt_le S k; simp only [cnt]; split <;> omega
/-- how many imports and type names the first k hold -/
def tot (S : Specs) : Nat → Nat
  | 0 => 0
  | k + 1 => tot S k + S.In k + S.Tn k
end Go.Proofs.Qxb6613588a.Base
