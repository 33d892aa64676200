import Derived.Test.Qxb6613555aSet2
import Derived.Test.Qxb6613555aChain
/- a node's phase; rows of int32s; what the build leaves -/
namespace Go.Proofs.Qxb6613555a.Phase
open Go.ChangeShapes Go.WideShapes Go.ChangeAt Go.RowKit Base Rec Set Chain

def phase (ho : Nat → Int) (n : Int) (i : Nat) : Int := if 0 ≤ ho i then 1 else if (i : Int) ≤ n then 2 else 0

set_option maxRecDepth 100000 in
set_option maxHeartbeats 2000000 in
theorem phaseBefore (bh oh N hc i : Nat) (n : Int) (ho : Nat → Int) (w : World) (hi : i < N) (hN : N ≤ 65536) (hn : 0 ≤ n ∧ n < N) (hh : w.cell? ⟨bh, oh + i, none⟩ = some (.int .i32 (ho i))) :
    Calls Try.prog 30 #[.slice (some ⟨bh, oh, none⟩) N hc, .int .i32 n, .int .i64 i] w fun e w' => e = .returned (.int .u8 (phase ho n i)) ∧ w' = w := by
  have hiI : (i : Int) < (N : Int) := by omega
  by_cases g : 0 ≤ ho i
  · have g' : decide (0 ≤ ho i) = true := by simpa using g
    have e : phase ho n i = 1 := by simp [phase, g]
    rw [e]
    clear e
    go_enter Try.func30, Try.ntmps30
    go_wp2_with fail
    go_ret
    exact ⟨rfl, rfl⟩
  · have g' : decide (0 ≤ ho i) = false := by simpa using g
    by_cases g2 : (i : Int) ≤ n
    · have g2' : decide ((i : Int) ≤ n) = true := by simpa using g2
      have e : phase ho n i = 2 := by simp [phase, g, g2]
      rw [e]
      clear e
      go_enter Try.func30, Try.ntmps30
      go_wp2_with fail
      go_ret
      exact ⟨rfl, rfl⟩
    · have g2' : decide ((i : Int) ≤ n) = false := by simpa using g2
      have e : phase ho n i = 0 := by simp [phase, g, g2]
      rw [e]
      clear e
      go_enter Try.func30, Try.ntmps30
      go_wp2_with fail
      go_ret
      exact ⟨rfl, rfl⟩

/-- the phase read -/
theorem readPhase {B : Nat} {A : Adr} {s : St} {w : World} (h : MV B A s w) (i : Nat) (hi : i < s.N) (p : Int) (hp : s.F i 1 = .int .u8 p) :
    Calls Try.prog 31 #[.pointer (some ⟨A.O, 0, none⟩), .int .i64 i] w fun e w' => e = .returned (.int .u8 p) ∧ w' = w := by
  have c1 := h.t.cell hi (k := 1) (by omega)
  rw [hp] at c1
  have HM : Hid (MV B A s w) := h
  clear h
  go_enter Try.func31, Try.ntmps31
  go_wp2_with fail
  refine (at48 A.O 3 A.T1 A.T s.N s.N i w hi HM.out.small.1 HM.out.c3 HM.out.d1).mono ?_
  rintro e w1 ⟨rfl, rfl⟩
  go_wp2_with fail
  go_ret
  exact ⟨rfl, rfl⟩

/-- a row of int32s of our own -/
def I32 (w : World) (g n : Nat) (f : Nat → Int) : Prop := Blk w g 21 n (fun i => .int .i32 (f i))
theorem I32.put {w : World} {g n i : Nat} {v : Int} {f : Nat → Int} (h : I32 w g n f) (hi : i < n) : I32 (w.setCell ⟨g, i, none⟩ (.int .i32 v)) g n (ch f i v) :=
  (Blk.set h hi _).congr (fun j _ => by unfold Set.ch; split <;> rfl)
theorem I32.keep {ts : List TypeId} {w w' : World} {g n : Nat} {f : Nat → Int} (h : I32 w g n f) (k : KeepT ts w w') (ht : 21 ∉ ts) : I32 w' g n f := Blk.keep h k ht
theorem I32.other {w : World} {g n : Nat} {f : Nat → Int} (h : I32 w g n f) {a : Addr} (hne : g ≠ a.block) (v : Value) : I32 (w.setCell a v) g n f := Blk.other h hne v
theorem I32.cell {w : World} {g n i : Nat} {f : Nat → Int} (h : I32 w g n f) (hi : i < n) : w.cell? ⟨g, i, none⟩ = some (.int .i32 (f i)) := Blk.cell h hi
theorem I32.frozen {w : World} {g n : Nat} {f : Nat → Int} (h : I32 w g n f) (i : Nat) : w.frozen? ⟨g, i, none⟩ = false := Blk.frozen h i

/-- a node's cells -/
def TX (nums since ho : Nat → Int) (n : Int) (M : Nat) (next : Nat → Int) (i : Nat) : Nat → Value :=
  txn (nums i) (phase ho n i) (if (i : Int) = n then (M : Int) - 1 else -1) (if 0 ≤ ho i then since i else 0) (next i)
def v0 : List Value := [.int .i32 0, .int .i32 0, .int .i32 0, .int .i32 (-1), .int .i32 (-1)]
def v1 (n rm fi la : Int) : List Value := [.int .i32 (n + 1), .int .i32 1, .int .i32 rm, .int .i32 fi, .int .i32 la]
/-- which of n's versions is the p-th -/
def J (rev : Bool) (M p : Nat) : Nat := if rev = true then M - 1 - p else p

structure Built (B : Nat) (A : Adr) (s : St) (w : World) (N I M : Nat) (n : Int) (nums since ho : Nat → Int) (names : Nat → ByteArray) (mi : Nat → Int) (L : List Nat) (rev : Bool) (first last next rm : Nat → Int) : Prop where
  mv : MV B A s w
  dim : s.N = N ∧ s.I = I ∧ s.M = M
  lists : Lists ho M L first last next
  F : ∀ i, i < N → s.F i = TX nums since ho n M next i
  nm : ∀ x, x < I → s.nm x = names x
  H : ∀ p : Nat, p < M → s.H p = three (mi (J rev M p)) 1 ((p : Int) - 1)
  v : ∀ p : Nat, p < M → s.Ln (mi (J rev M p)).toNat = 2 ∧ s.vs (mi (J rev M p)).toNat = v0 ++ v1 n (rm (J rev M p)) (first (J rev M p)) (last (J rev M p))
end Go.Proofs.Qxb6613555a.Phase
