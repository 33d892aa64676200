import Derived.Test.Qxb6613555aRows
import Derived.WalkKit
import Derived.ProofKit
import Derived.OpenShut
import Derived.ChangeOld
/- the three closed facts that read the dump's head: by its first words alone -/
namespace Go.Proofs.Qxb6613555a.Head
open Go.ChangeShapes Go.WideShapes Go.ChangeAt Go.RowKit

theorem words_sep : ∀ (a b : List Char), (a.all (fun c => !(c == ' '))) = true → wordsSigns (a ++ ' ' :: b) = a :: wordsSigns b
  | [], b, _ => by simp [wordsSigns]
  | c :: a, b, h => by
    simp only [List.all_cons, Bool.and_eq_true] at h
    have hc : c ≠ ' ' := by simpa using h.1
    have ih := words_sep a b h.2
    show wordsSigns (c :: (a ++ ' ' :: b)) = _
    rw [wordsSigns, ih]
    · intro e; exact hc e

def sumL : List Char := ['9', 'a', 'e', '6', 'f', 'e', '7', 'b', '6', '3', 'd', '4', '5', '2', '0', '6', 'a', 'e', '7', '2', 'f', '5', 'd', '0', '6', 'c', '6', '6', 'e', 'd', '2', 'a', 'a', '0', '0', 'b', 'c', '0', '9', '1', 'd', 'e', '7', '4', '4', '3', 'd', '0', 'b', '5', '3', 'd', 'b', 'd', '4', '9', '7', '6', '3', '5', '2', '6', 'a', 'f']
def restL : List Char := ['a', 't', ' ', 'e', 'x', 'a', 'm', 'p', 'l', 'e', '.', 'c', 'o', 'm', '/', 's', 'e', 'r', 'i', 'a', 'l', 'i', 'n', 'e', '/', 's', 'e', 'r', 'i', 'a', 'l', 'i', 'n', 'e', '/', 'z', 'z', 'l', 'a', 'w', 's', '_', 'r', 'o', 'o', 't', '_', 'b', '1', '.', 'F', 'n', 'L', 'e', 'a', 'r', 'n', 'D', 'e', 'n', 's', 'e', 'K', 'e', 'e', 'p', 's', 'E', 'a', 'c', 'h', 'K', 'e', 'y', 'I', 'n', 'I', 't', 's', 'O', 'w', 'n', 'O', 'r', 'd', 'e', 'r', 'e', 'd', 'S', 'l', 'o', 't', ' ', 'e', 'x', 'a', 'm', 'p', 'l', 'e', '.', 'c', 'o', 'm', '/', 's', 'e', 'r', 'i', 'a', 'l', 'i', 'n', 'e', '/', 's', 'e', 'r', 'i', 'a', 'l', 'i', 'n', 'e', '/', 'z', 'z', 'l', 'a', 'w', 's', '_', 'r', 'o', 'o', 't', '_', 'b', '1', '.', 'F', 'n', 'L', 'e', 'a', 'r', 'n', 'K', 'e', 'e', 'p', 's', 'T', 'h', 'e', 'L', 'a', 't', 'e', 's', 't', 'O', 'f', 'A', 'C', 'l', 'a', 's', 's', 'U', 'n', 'd', 'e', 'r', 'O', 'n', 'e', 'K', 'e', 'y', 'I', 'n', 'E', 'v', 'e', 'r', 'y', 'T', 'a', 'b', 'l', 'e', ' ', 'e', 'x', 'a', 'm', 'p', 'l', 'e', '.', 'c', 'o', 'm', '/', 's', 'e', 'r', 'i', 'a', 'l', 'i', 'n', 'e', '/', 's', 'e', 'r', 'i', 'a', 'l', 'i', 'n', 'e', '/', 'z', 'z', 'l', 'a', 'w', 's', '_', 'r', 'o', 'o', 't', '_', 'b', '1', '.', 'F', 'n', 'E', 'a', 'c', 'h', 'R', 'e', 'a', 'd', 'L', 'i', 's', 't', 's', 'N', 'o', 'd', 'e', 'R', 'e', 'a', 'd', 's', 'B', 'y', 'A', 'c', 'c', 'e', 's', 's', 'N', 'e', 'w', 'e', 's', 't', 'F', 'i', 'r', 's', 't', ' ', 'e', 'x', 'a', 'm', 'p', 'l', 'e', '.', 'c', 'o', 'm', '/', 's', 'e', 'r', 'i', 'a', 'l', 'i', 'n', 'e', '/', 's', 'e', 'r', 'i', 'a', 'l', 'i', 'n', 'e', '/', 'z', 'z', 'l', 'a', 'w', 's', '_', 'r', 'o', 'o', 't', '_', 'b', '1', '.', 'F', 'n', 'E', 'a', 'c', 'h', 'R', 'e', 'a', 'd', 'T', 'a', 'k', 'e', 's', 'A', 'N', 'e', 'w', 'R', 'e', 'a', 'd', 'A', 't', 'T', 'h', 'e', 'H', 'e', 'a', 'd', 'O', 'f', 'I', 't', 's', 'A', 'c', 'c', 'e', 's', 's', ' ', 'e', 'x', 'a', 'm', 'p', 'l', 'e', '.', 'c', 'o', 'm', '/', 's', 'e', 'r', 'i', 'a', 'l', 'i', 'n', 'e', '/', 's', 'e', 'r', 'i', 'a', 'l', 'i', 'n', 'e', '/', 'z', 'z', 'l', 'a', 'w', 's', '_', 'r', 'o', 'o', 't', '_', 'b', '1', '.', 'F', 'n', 'R', 'e', 'l', 'e', 'a', 's', 'e', 'M', 'a', 'd', 'e', 'F', 'r', 'e', 'e', 's', 'E', 'v', 'e', 'r', 'y', 'H', 'e', 'l', 'd', 'R', 'e', 'a', 'd', 'I', 'n', 'W', 'a', 'i', 't', 'O', 'r', 'd', 'e', 'r', ' ', 'e', 'x', 'a', 'm', 'p', 'l', 'e', '.', 'c', 'o', 'm', '/', 's', 'e', 'r', 'i', 'a', 'l', 'i', 'n', 'e', '/', 's', 'e', 'r', 'i', 'a', 'l', 'i', 'n', 'e', '/', 'z', 'z', 'l', 'a', 'w', 's', '_', 'r', 'o', 'o', 't', '_', 'b', '1', '.', 'F', 'n', 'R', 'e', 'l', 'e', 'a', 's', 'e', 'M', 'a', 'd', 'e', 'I', 's', 'F', 'r', 'e', 'e', 'O', 'f', 'T', 'h', 'e', 'O', 'r', 'd', 'e', 'r', 'V', 'e', 'r', 's', 'i', 'o', 'n', 's', 'W', 'e', 'r', 'e', 'M', 'a', 'd', 'e']
theorem order : Try.prog.initOrder = String.ofList (['h', 'a', 'r', 'n', 'e', 's', 's'] ++ ' ' :: (sumL ++ ' ' :: (['c', 'u', 't'] ++ ' ' :: restL))) := by kernel_rfl
theorem sumOk : isSumSigns sumL = true := by kernel_rfl
theorem sumNo : (sumL.all (fun c => !(c == ' '))) = true := by kernel_rfl
theorem harn : (['h', 'a', 'r', 'n', 'e', 's', 's'] : List Char) = "harness".toList := by kernel_rfl
theorem cutW : (['c', 'u', 't'] : List Char) = "cut".toList := by kernel_rfl
theorem behind (h s : List Char) (r : List (List Char)) (e : h = "harness".toList) (hs : isSumSigns s = true) : behindMainWord (h :: s :: r) = r := by
  simp [behindMainWord, e, hs]
/-- the head's first words -/
theorem head_words (P : Program) (s r : List Char) (e : P.initOrder = String.ofList (['h', 'a', 'r', 'n', 'e', 's', 's'] ++ ' ' :: (s ++ ' ' :: (['c', 'u', 't'] ++ ' ' :: r)))) (hs : isSumSigns s = true) (hn : (s.all (fun c => !(c == ' '))) = true) :
    behindMainWord (wordsSigns P.initOrder.toList) = "cut".toList :: wordsSigns r := by
  rw [e, String.toList_ofList, words_sep _ _ (by decide), words_sep _ _ hn, words_sep _ _ (by decide), behind _ _ _ harn hs, cutW]
theorem make_cut (P : Program) (R : List (List Char)) (h : behindMainWord (wordsSigns P.initOrder.toList) = "cut".toList :: R) : P.make = some .cut := by
  unfold Program.make
  rw [h]
  kernel_rfl
theorem strip_cut (R : List (List Char)) : stripLifts liftWords ("cut".toList :: R) = ([], "cut".toList :: R) := by kernel_rfl
theorem lifts_no (P : Program) (R : List (List Char)) (h : behindMainWord (wordsSigns P.initOrder.toList) = "cut".toList :: R) : P.liftsFinal = false := by
  unfold Program.liftsFinal Program.headLifts
  rw [h, strip_cut]
  kernel_rfl
theorem may_enter (P : Program) (R : List (List Char)) (h : behindMainWord (wordsSigns P.initOrder.toList) = "cut".toList :: R) (d1 : P.laysLater = false) (d2 : P.bearsReflect = false) (d4 : P.doorFits [] = true) : P.mayEnter = true := by
  unfold Program.mayEnter
  rw [h]
  dsimp only
  rw [strip_cut, d1, d2]
  dsimp only
  rw [d4]
  simp
theorem d1 : Try.prog.laysLater = false := by kernel_rfl
theorem d2 : Try.prog.bearsReflect = false := by kernel_rfl
theorem d4 : Try.prog.doorFits [] = true := by kernel_rfl
theorem hw : behindMainWord (wordsSigns Try.prog.initOrder.toList) = "cut".toList :: wordsSigns restL := head_words Try.prog sumL restL order sumOk sumNo
theorem enters : Try.prog.mayEnter = true := may_enter Try.prog _ hw d1 d2 d4
theorem lifts : Try.prog.liftsFinal = false := lifts_no Try.prog _ hw
theorem make : Try.prog.make = some .cut := make_cut Try.prog _ hw
end Go.Proofs.Qxb6613555a.Head
