import Derived.Test.Qxb6608652aRows
import Derived.WalkKit
import Derived.ProofKit
import Derived.WalkSpells
import Derived.WalkLawsBesides
import Derived.Below
import Derived.Laws.CopyOwn
namespace Go.Proofs.Qxb6608652a.Mem
open Go.ChangeShapes Go.WideShapes Go.ChangeAt Go.RowKit

theorem info5 : (Try.prog.info? 5).map (fun i => (i.zero, i.size, i.bytes)) = some (some (.int .u8 0), 1, 1) := by kernel_rfl
theorem size5 : (Try.prog.info? 5).map (·.size) = some 1 := by kernel_rfl

/-- block g holds just the cells L -/
def Holds (w : World) (g : Nat) (L : List Value) : Prop := w.heap[g]? = some (.cells L.toArray 5 (0, 0))

theorem holds_cell {w : World} {g : Nat} {L : List Value} (h : Holds w g L) (i : Nat) : w.cell? ⟨g, i, none⟩ = L[i]? := by
  unfold Holds at h; simp [World.cell?, h]
theorem holds_made {w : World} {B g n : Nat} {xs : List Value} (h : w.ownsRow B 5 1 (.slice (some ⟨g, 0, none⟩) n n) n xs) : ∃ L, Holds w g L ∧ L.length = n := by
  rcases h.2 with ⟨h, _⟩ | ⟨g', cap, cur, hv, _, hg, _, _, hs, _⟩
  · cases h
  · simp only [Value.slice.injEq, Option.some.injEq, Addr.mk.injEq] at hv
    obtain ⟨⟨rfl, _⟩, _, rfl⟩ := hv
    exact ⟨cur.toList, by simpa [Holds] using hg, by simpa using hs⟩
theorem holds_lt {w : World} {g : Nat} {L : List Value} (h : Holds w g L) : g < w.heap.size := (Array.getElem?_eq_some_iff.1 h).1
theorem holds_below {w w' : World} {B g : Nat} {L : List Value} (h : Holds w g L) (hb : Below B w w') (hg : g < B) : Holds w' g L := (hb.block g hg).trans h

/-- 'copy(zzc, text)': zzc as long as text, of the call's own -/
theorem copy_run {w1 : World} {g n c : Nat} {ad : Addr} {L X : List Value} (hL : Holds w1 g L) (hl : L.length = n) (hX : X.length = n) (h1 : ∀ v ∈ X, v.oneCell' = true)
    (hsrc : ∀ j v, X[j]? = some v → w1.cell? (ad.add j) = some v) {B : Nat} {w0 : World} (hb : Below B w0 w1) (hBg : B ≤ g) :
    ∃ w2, (Builtin.copy_ #[22, 22] 3 #[.slice (some ⟨g, 0, none⟩) n n, .slice (some ad) n c]).run Try.prog w1 = .ok (goInt n) w2 ∧ Holds w2 g X ∧ Below B w0 w2 ∧ w1.heap.size = w2.heap.size := by
  have hrun := run_copy_row (P := Try.prog) w1 22 22 3 5 g 0 n n ad n c L.toArray 5 X Try.underlying22 size5 hL (by simp [hX]) hsrc (by simp [hX, hl]) h1
  have e : L.drop X.length = [] := List.drop_eq_nil_of_le (by omega)
  refine ⟨_, by rw [hrun, hX], ?_, below_setRow hb hBg _, by simp [World.setRow]⟩
  unfold Holds at hL ⊢
  rw [setRow_heap w1 g L.toArray _ 5 _ hL]
  simp [← hX, e]

/-- append WITHIN THE CAPACITY, to a row of the call's own, as one step of a region that draws -/
theorem step_append_fits {P : Program} {ops : Array Oper} {o : Oper} {a : Act} {w : World} {K : Act → World → Prop} {Q : Exit → Act → World → Prop} {E : Prop}
    (hg : o.guard = none) (s x : Operand) (t : TypeId) (hop : o.op = Op.call { callee := Callee.builtin Builtin.append, args := #[s, x], argTypes := #[t, t] })
    (base : Nat) (e : TypeId) (i : TypeInfo) (size : Nat) (h1 : P.underlying t = some (.slice e)) (h2 : P.info? e = some i) (h4 : i.size = size)
    (g k cap : Nat) (xs : List Value) (hs : a.eval s = .slice (some ⟨g, 0, none⟩) k cap) (hown : w.ownsRow base e size (.slice (some ⟨g, 0, none⟩) k cap) k xs) (ad : Addr) (m c : Nat) (news : List Value) (hx : a.eval x = .slice (some ad) m c) (hn : news.length = m * size)
    (hc : ∀ j u, news[j]? = some u → w.cell? (ad.add j) = some u) (h1c : ∀ u ∈ news, u.oneCell' = true) (b1 : k + m ≤ cap)
    (hK : ∀ w', w'.ownsRow base e size (.slice (some ⟨g, 0, none⟩) (k + m) cap) (k + m) (xs ++ news) → w.grownBy w' (some g) → K (a.put o.dst (.slice (some ⟨g, 0, none⟩) (k + m) cap)) w') :
    if Region.wanted o (yielded ops a.tmps) = true then Oper.wp P o a w K Q else E := by
  have hw : Region.wanted o (yielded ops a.tmps) = true := by simp [Region.wanted, hg]
  rw [if_pos hw]
  obtain ⟨w', hrun, r1, r2⟩ := run_append_fits (P := P) w base t o.type e i size h1 h2 h4 g k cap xs hown ad m c news hn hc h1c b1
  unfold Oper.wp
  simp [execOp, hop, resolve, invoke, builtin, hs, hx, hrun, Result.andThen]
  exact hK w' r1 r2
end Go.Proofs.Qxb6608652a.Mem
