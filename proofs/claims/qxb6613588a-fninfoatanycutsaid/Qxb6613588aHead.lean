import Derived.Test.Qxb6613588aRows
import Derived.WalkKit
import Derived.ProofKit
import Derived.OpenShut
import Derived.ChangeOld
/- the three closed facts that read the dump's head: by its first words alone -/
namespace Go.Proofs.Qxb6613588a.Head
open Go.ChangeShapes Go.WideShapes Go.ChangeAt Go.RowKit

theorem words_sep : ∀ (a b : List Char), (a.all (fun c => !(c == ' '))) = true → wordsSigns (a ++ ' ' :: b) = a :: wordsSigns b
  | [], b, _ => by simp [wordsSigns]
  | c :: a, b, h => by
    simp only [List.all_cons, Bool.and_eq_true] at h
    have hc : c ≠ ' ' := by simpa using h.1
    have ih := words_sep a b h.2
    show wordsSigns (c :: (a ++ ' ' :: b)) = _
    rw [wordsSigns, ih]
    · intro e; exact hc e

def sumL : List Char := ['6', 'e', '4', '8', 'd', '9', 'c', 'b', 'f', 'c', 'b', 'd', '8', '8', '9', 'd', '2', '7', '8', '5', '8', '3', 'f', '2', '8', 'f', 'b', 'c', 'e', '0', 'b', '9', '3', '6', '4', '8', '8', '5', '6', '0', '3', '9', '8', 'b', 'c', 'a', 'b', '1', 'd', '8', '0', 'd', '2', 'e', '3', '3', 'a', 'f', '6', 'c', 'a', '9', '3', '8']
def restL : List Char := ['a', 't', ' ', 'e', 'x', 'a', 'm', 'p', 'l', 'e', '.', 'c', 'o', 'm', '/', 'w', 'o', 'r', 'd', 's', '-', 't', 'o', '-', 'r', 'o', 'u', 't', 'e', 's', '/', 'w', 'o', 'r', 'd', 's', '-', 't', 'o', '-', 'r', 'o', 'u', 't', 'e', 's', '/', 'z', 'z', 'l', 'a', 'w', 's', '_', 'p', 'k', 'g', '_', 's', 'y', 'n', 't', 'a', 'x', '_', 'b', '1', '.', 'F', 'n', 'W', 'o', 'r', 'd', 'B', 'y', 't', 'e', 'C', 'o', 'u', 'n', 't', 'U', 'p', 'T', 'o', ' ', 'e', 'x', 'a', 'm', 'p', 'l', 'e', '.', 'c', 'o', 'm', '/', 'w', 'o', 'r', 'd', 's', '-', 't', 'o', '-', 'r', 'o', 'u', 't', 'e', 's', '/', 'w', 'o', 'r', 'd', 's', '-', 't', 'o', '-', 'r', 'o', 'u', 't', 'e', 's', '/', 'z', 'z', 'l', 'a', 'w', 's', '_', 'p', 'k', 'g', '_', 's', 'y', 'n', 't', 'a', 'x', '_', 'b', '1', '.', 'F', 'n', 'W', 'o', 'r', 'd', 'B', 'y', 't', 'e', 'C', 'a', 's', 'e', 'F', 'l', 'i', 'p', 'O', 'n', 'l', 'y', 'F', 'o', 'r', 'L', 'e', 't', 't', 'e', 'r', 's', ' ', 'e', 'x', 'a', 'm', 'p', 'l', 'e', '.', 'c', 'o', 'm', '/', 'w', 'o', 'r', 'd', 's', '-', 't', 'o', '-', 'r', 'o', 'u', 't', 'e', 's', '/', 'w', 'o', 'r', 'd', 's', '-', 't', 'o', '-', 'r', 'o', 'u', 't', 'e', 's', '/', 'z', 'z', 'l', 'a', 'w', 's', '_', 'p', 'k', 'g', '_', 's', 'y', 'n', 't', 'a', 'x', '_', 'b', '1', '.', 'F', 'n', 'I', 'm', 'p', 'o', 'r', 't', 's', 'C', 'o', 'n', 'c', 'a', 't', 'A', 't', 'A', 'n', 'y', 'C', 'u', 't', ' ', 'e', 'x', 'a', 'm', 'p', 'l', 'e', '.', 'c', 'o', 'm', '/', 'w', 'o', 'r', 'd', 's', '-', 't', 'o', '-', 'r', 'o', 'u', 't', 'e', 's', '/', 'w', 'o', 'r', 'd', 's', '-', 't', 'o', '-', 'r', 'o', 'u', 't', 'e', 's', '/', 'z', 'z', 'l', 'a', 'w', 's', '_', 'p', 'k', 'g', '_', 's', 'y', 'n', 't', 'a', 'x', '_', 'b', '1', '.', 'F', 'n', 'I', 'm', 'p', 'o', 'r', 't', 's', 'R', 'e', 's', 'u', 'l', 't', 'I', 's', 'F', 'r', 'e', 's', 'h', ' ', 'e', 'x', 'a', 'm', 'p', 'l', 'e', '.', 'c', 'o', 'm', '/', 'w', 'o', 'r', 'd', 's', '-', 't', 'o', '-', 'r', 'o', 'u', 't', 'e', 's', '/', 'w', 'o', 'r', 'd', 's', '-', 't', 'o', '-', 'r', 'o', 'u', 't', 'e', 's', '/', 'z', 'z', 'l', 'a', 'w', 's', '_', 'p', 'k', 'g', '_', 's', 'y', 'n', 't', 'a', 'x', '_', 'b', '1', '.', 'F', 'n', 'I', 'n', 'f', 'o', 'A', 't', 'A', 'n', 'y', 'C', 'u', 't', ' ', 'e', 'x', 'a', 'm', 'p', 'l', 'e', '.', 'c', 'o', 'm', '/', 'w', 'o', 'r', 'd', 's', '-', 't', 'o', '-', 'r', 'o', 'u', 't', 'e', 's', '/', 'w', 'o', 'r', 'd', 's', '-', 't', 'o', '-', 'r', 'o', 'u', 't', 'e', 's', '/', 'z', 'z', 'l', 'a', 'w', 's', '_', 'p', 'k', 'g', '_', 's', 'y', 'n', 't', 'a', 'x', '_', 'b', '1', '.', 'F', 'n', 'I', 'n', 'f', 'o', 'I', 'n', 's', 'e', 'r', 't', 'e', 'd', 'A', 'n', 'y', 'w', 'h', 'e', 'r', 'e', ' ', 'e', 'x', 'a', 'm', 'p', 'l', 'e', '.', 'c', 'o', 'm', '/', 'w', 'o', 'r', 'd', 's', '-', 't', 'o', '-', 'r', 'o', 'u', 't', 'e', 's', '/', 'w', 'o', 'r', 'd', 's', '-', 't', 'o', '-', 'r', 'o', 'u', 't', 'e', 's', '/', 'z', 'z', 'l', 'a', 'w', 's', '_', 'p', 'k', 'g', '_', 's', 'y', 'n', 't', 'a', 'x', '_', 'b', '1', '.', 'F', 'n', 'T', 'y', 'p', 'e', 's', 'C', 'o', 'n', 'c', 'a', 't', 'A', 't', 'A', 'n', 'y', 'C', 'u', 't', ' ', 'e', 'x', 'a', 'm', 'p', 'l', 'e', '.', 'c', 'o', 'm', '/', 'w', 'o', 'r', 'd', 's', '-', 't', 'o', '-', 'r', 'o', 'u', 't', 'e', 's', '/', 'w', 'o', 'r', 'd', 's', '-', 't', 'o', '-', 'r', 'o', 'u', 't', 'e', 's', '/', 'z', 'z', 'l', 'a', 'w', 's', '_', 'p', 'k', 'g', '_', 's', 'y', 'n', 't', 'a', 'x', '_', 'b', '1', '.', 'F', 'n', 'T', 'y', 'p', 'e', 's', 'I', 'n', 's', 'e', 'r', 't', 'e', 'd', 'A', 'n', 'y', 'w', 'h', 'e', 'r', 'e']
theorem order : Try.prog.initOrder = String.ofList (['h', 'a', 'r', 'n', 'e', 's', 's'] ++ ' ' :: (sumL ++ ' ' :: (['c', 'u', 't'] ++ ' ' :: restL))) := by kernel_rfl
theorem sumOk : isSumSigns sumL = true := by kernel_rfl
theorem sumNo : (sumL.all (fun c => !(c == ' '))) = true := by kernel_rfl
theorem harn : (['h', 'a', 'r', 'n', 'e', 's', 's'] : List Char) = "harness".toList := by kernel_rfl
theorem cutW : (['c', 'u', 't'] : List Char) = "cut".toList := by kernel_rfl
theorem behind (h s : List Char) (r : List (List Char)) (e : h = "harness".toList) (hs : isSumSigns s = true) : behindMainWord (h :: s :: r) = r := by
  simp [behindMainWord, e, hs]
/-- the head's first words -/
theorem head_words (P : Program) (s r : List Char) (e : P.initOrder = String.ofList (['h', 'a', 'r', 'n', 'e', 's', 's'] ++ ' ' :: (s ++ ' ' :: (['c', 'u', 't'] ++ ' ' :: r)))) (hs : isSumSigns s = true) (hn : (s.all (fun c => !(c == ' '))) = true) :
    behindMainWord (wordsSigns P.initOrder.toList) = "cut".toList :: wordsSigns r := by
  rw [e, String.toList_ofList, words_sep _ _ (by decide), words_sep _ _ hn, words_sep _ _ (by decide), behind _ _ _ harn hs, cutW]
theorem make_cut (P : Program) (R : List (List Char)) (h : behindMainWord (wordsSigns P.initOrder.toList) = "cut".toList :: R) : P.make = some .cut := by
  unfold Program.make
  rw [h]
  kernel_rfl
theorem strip_cut (R : List (List Char)) : stripLifts liftWords ("cut".toList :: R) = ([], "cut".toList :: R) := by kernel_rfl
theorem lifts_no (P : Program) (R : List (List Char)) (h : behindMainWord (wordsSigns P.initOrder.toList) = "cut".toList :: R) : P.liftsFinal = false := by
  unfold Program.liftsFinal Program.headLifts
  rw [h, strip_cut]
  kernel_rfl
theorem may_enter (P : Program) (R : List (List Char)) (h : behindMainWord (wordsSigns P.initOrder.toList) = "cut".toList :: R) (d1 : P.laysLater = false) (d2 : P.bearsReflect = false) (d4 : P.doorFits [] = true) : P.mayEnter = true := by
  unfold Program.mayEnter
  rw [h]
  dsimp only
  rw [strip_cut, d1, d2]
  dsimp only
  rw [d4]
  simp
theorem d1 : Try.prog.laysLater = false := by kernel_rfl
theorem d2 : Try.prog.bearsReflect = false := by kernel_rfl
theorem d4 : Try.prog.doorFits [] = true := by kernel_rfl
theorem hw : behindMainWord (wordsSigns Try.prog.initOrder.toList) = "cut".toList :: wordsSigns restL := head_words Try.prog sumL restL order sumOk sumNo
theorem enters : Try.prog.mayEnter = true := may_enter Try.prog _ hw d1 d2 d4
theorem lifts : Try.prog.liftsFinal = false := lifts_no Try.prog _ hw
theorem make : Try.prog.make = some .cut := make_cut Try.prog _ hw
end Go.Proofs.Qxb6613588a.Head
