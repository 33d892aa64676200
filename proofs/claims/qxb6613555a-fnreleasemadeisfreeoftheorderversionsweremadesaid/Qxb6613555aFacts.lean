import Derived.Test.Qxb6613555aMade
import Derived.Test.Qxb6613555aBytes
import Derived.Test.Qxb6613555aPrem
/- the law's own function -/
namespace Go.Proofs.Qxb6613555a.Main
open Go.ChangeShapes Go.WideShapes Go.ChangeAt Go.RowKit Base Rec Set Chain Phase Release Sorts Build Go.Proofs.Qxb6613555a.Made Held Merge Bytes Premise

/-- what came in -/
structure Ins (w : World) (bn on bs os bh oh : Nat) (ma ia : Option Addr) (N I M : Nat) (nums since ho mi : Nat → Int) (names : Nat → ByteArray) : Prop where
  cn : ∀ i, i < N → w.cell? ⟨bn, on + i, none⟩ = some (.int .i32 (nums i))
  cs : ∀ i, i < N → w.cell? ⟨bs, os + i, none⟩ = some (.int .i32 (since i))
  ch : ∀ i, i < N → w.cell? ⟨bh, oh + i, none⟩ = some (.int .i32 (ho i))
  rn : SRow w ia I names
  rm : IRow w ma M mi
theorem Ins.below {w w' : World} {bn on bs os bh oh : Nat} {ma ia : Option Addr} {N I M : Nat} {nums since ho mi : Nat → Int} {names : Nat → ByteArray} (h : Ins w bn on bs os bh oh ma ia N I M nums since ho mi names) (hb : Below w.heap.size w w') : Ins w' bn on bs os bh oh ma ia N I M nums since ho mi names :=
  ⟨fun i hi => below_cell hb (h.cn i hi), fun i hi => below_cell hb (h.cs i hi), fun i hi => below_cell hb (h.ch i hi), h.rn.below hb, h.rm.below hb⟩
/-- what the sort of the held ones is -/
structure Srt (N cnt : Nat) (since ho : Nat → Int) (f : Nat → Nat) (d : Bool) : Prop where
  le : cnt ≤ N
  fb : ∀ k, k < cnt → f k < N ∧ 0 ≤ ho (f k)
  nd : (seg f 0 cnt).Nodup
  len : (seg f 0 cnt).length = cnt
  mem : ∀ i, i ∈ seg f 0 cnt ↔ i < N ∧ 0 ≤ ho i
  at_ : ∀ k, k < cnt → (seg f 0 cnt)[k]! = f k
  st : d = true → (seg f 0 cnt).Pairwise (fun a b => since a < since b)
theorem srt {N : Nat} {since ho : Nat → Int} {f : Nat → Nat} {d : Bool} (hp : (seg f 0 (held ho N).length).Perm (held ho N)) (hs : d = true → ∀ x y, x < y → y < (held ho N).length → since (f x) < since (f y)) : Srt N (held ho N).length since ho f d := by
  refine ⟨held_len ho N, fun k hk => ?_, hp.nodup_iff.2 (held_nodup ho N), by rw [seg_length]; omega, fun i => ?_, fun k hk => ?_, fun hd => ?_⟩
  · exact mem_held.1 (hp.mem_iff.1 (mem_seg.2 ⟨k, Nat.zero_le _, hk, rfl⟩))
  · rw [hp.mem_iff, mem_held]
  · have h1 : k < (seg f 0 (held ho N).length).length := by rw [seg_length]; omega
    rw [getElem!_pos (seg f 0 (held ho N).length) k h1]; simp [seg]
  · rw [List.pairwise_iff_getElem]
    intro i j hi hj hij
    rw [seg_length] at hi hj
    simp [seg]
    exact hs hd i j hij (by omega)

set_option maxRecDepth 100000 in
set_option maxHeartbeats 2000000 in
theorem made29 {B : Nat} {A : Adr} {s : St} {w : World} {N I M m : Nat} {n : Int} {nums since ho mi : Nat → Int} {names : Nat → ByteArray} {L : List Nat} {rev : Bool} {first last next rm : Nat → Int} (bt : Built B A s w N I M n nums since ho names mi L rev first last next rm) (pr : Prem N M I N N n ho mi)
    (hN : N ≤ 65536) (hLb : ∀ x, x ∈ L → x < N ∧ 0 ≤ ho x) (hnd : L.Nodup) (hst : L.Pairwise (fun a b => since a < since b)) (hLl : L.length ≤ 65536) (hn : n = (m : Int)) :
    Calls Try.prog 29 #[.pointer (some ⟨A.O, 0, none⟩), .int .i32 (m : Int)] w fun e w' => ∃ g2, e = .returned (.slice (some ⟨g2, 0, none⟩) L.length L.length) ∧ B ≤ g2 ∧ Rec w' g2 62 L.length 5 (Out L (RL since nums (ns names mi ho) (nums m))) ∧ MV B A { s with F := freed s.F L } w' ∧ Below B w w' := by
  have hcon := made47 bt pr hN hLb hnd hst hLl hn
  clear bt pr hLb hnd hst
  go_enter Try.func29, Try.ntmps29
  go_wp2_with (go_at_call 47; refine hcon.mono ?_; rintro e w' ⟨g2, rfl, hpost⟩; have HP : Hid _ := hpost; clear hpost)
  go_ret
  exact ⟨g2, rfl, HP.out⟩
end Go.Proofs.Qxb6613555a.Main
