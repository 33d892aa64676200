import Derived.Test.Qxb6613555aHead
import Derived.WalkKit
import Derived.ProofKit
import Derived.OpenShut
import Derived.ChangeOld
/- the row's closed facts, each by itself -/
namespace Go.Proofs.Qxb6613555a.Closed8
open Go.ChangeShapes Go.WideShapes Go.ChangeAt Go.RowKit

theorem c0 : (Rows.fnReleaseMadeIsFreeOfTheOrderVersionsWereMadeRow.wf (OpenSpec.ofChange Rows.fnReleaseMadeIsFreeOfTheOrderVersionsWereMadeSpec)) = true := by kernel_rfl
theorem c1 : (laidOutB Try.prog) = true := by kernel_rfl
theorem c2 : (mapsRowed Try.prog) = true := by kernel_rfl
theorem c3 : (Try.f8.params.all (Try.prog.readableRec ·)) = true := by kernel_rfl
theorem c4 : (namedTie Try.prog Rows.fnReleaseMadeIsFreeOfTheOrderVersionsWereMadeRow.named Rows.fnReleaseMadeIsFreeOfTheOrderVersionsWereMadeSpec.vars) = true := by kernel_rfl
theorem c5 : ((Try.prog.stops == [])) = true := by kernel_rfl
theorem c6 : ((Try.prog.stopKnobs == [])) = true := by kernel_rfl
theorem c7 : ((Rows.fnReleaseMadeIsFreeOfTheOrderVersionsWereMadeRow.inPlace == Try.prog.inPlace 8)) = true := by kernel_rfl
theorem c8 : ((Rows.fnReleaseMadeIsFreeOfTheOrderVersionsWereMadeRow.unfollowed == Try.prog.unfollowed 8)) = true := by kernel_rfl
theorem c9 : ((Rows.fnReleaseMadeIsFreeOfTheOrderVersionsWereMadeRow.recurses == Try.prog.recurses 8)) = true := by kernel_rfl
theorem c10 : ((Rows.fnReleaseMadeIsFreeOfTheOrderVersionsWereMadeRow.named == Try.prog.varsNamed 8)) = true := by kernel_rfl
theorem c11 : ((Rows.fnReleaseMadeIsFreeOfTheOrderVersionsWereMadeRow.maps == (Try.f8.params.toList ++ Rows.fnReleaseMadeIsFreeOfTheOrderVersionsWereMadeSpec.plain.varTypes Try.prog).any (Try.prog.mapsRec ·))) = true := by kernel_rfl
theorem c12 : ((Rows.fnReleaseMadeIsFreeOfTheOrderVersionsWereMadeRow.ifaces == (Try.f8.params.toList ++ Rows.fnReleaseMadeIsFreeOfTheOrderVersionsWereMadeSpec.plain.varTypes Try.prog).any (Try.prog.ifacesRec ·))) = true := by kernel_rfl
theorem c13 : ((Rows.fnReleaseMadeIsFreeOfTheOrderVersionsWereMadeRow.mapsOut == Try.prog.mapsAmong Try.f8.resultTypes.toList)) = true := by kernel_rfl
theorem c14 : ((Rows.fnReleaseMadeIsFreeOfTheOrderVersionsWereMadeRow.loops == (Try.f8.params.toList ++ Rows.fnReleaseMadeIsFreeOfTheOrderVersionsWereMadeSpec.plain.varTypes Try.prog).any (Try.prog.loopsFrom ·))) = true := by kernel_rfl
theorem c15 : ((Rows.fnReleaseMadeIsFreeOfTheOrderVersionsWereMadeRow.wideKeys == (Try.f8.params.toList ++ Rows.fnReleaseMadeIsFreeOfTheOrderVersionsWereMadeSpec.plain.varTypes Try.prog ++ Try.f8.resultTypes.toList).any (Try.prog.wideKeysFrom ·))) = true := by kernel_rfl
theorem c16 : (Rows.fnReleaseMadeIsFreeOfTheOrderVersionsWereMadeSpec.vars.all (Try.prog.varReadable ·)) = true := by kernel_rfl
theorem c17 : (Try.f8.resultTypes.all (fun t => Try.prog.readableRec t && decide (t < Try.prog.types.size))) = true := by kernel_rfl
theorem c18 : ((Rows.fnReleaseMadeIsFreeOfTheOrderVersionsWereMadeRow.ifacesOut == Try.f8.resultTypes.toList.any (Try.prog.ifacesRec ·))) = true := by kernel_rfl
theorem c19 : ((Rows.fnReleaseMadeIsFreeOfTheOrderVersionsWereMadeRow.loopsOut == Try.f8.resultTypes.toList.any (Try.prog.loopsFrom ·))) = true := by kernel_rfl
theorem c20 : ((Rows.fnReleaseMadeIsFreeOfTheOrderVersionsWereMadeRow.plainKeys == Try.prog.plainKeys)) = true := by kernel_rfl
theorem c21 : (Rows.fnReleaseMadeIsFreeOfTheOrderVersionsWereMadeRow.shortTexts.isNone) = true := by kernel_rfl
theorem c22 : (Try.prog.stopsHeard) = true := by kernel_rfl
theorem c23 : (Try.prog.mayEnter) = true := Head.enters
theorem c24 : (Rows.fnReleaseMadeIsFreeOfTheOrderVersionsWereMadeRow.lifted == Try.prog.liftsFinal) = true := by rw [Head.lifts]; rfl
theorem c25 : (Try.prog.make == some Rows.fnReleaseMadeIsFreeOfTheOrderVersionsWereMadeRow.make) = true := by rw [Head.make]; rfl
theorem c26 : ((Rows.fnReleaseMadeIsFreeOfTheOrderVersionsWereMadeRow.pinned == Rows.fnReleaseMadeIsFreeOfTheOrderVersionsWereMadeRow.pinnedBy)) = true := by kernel_rfl
theorem c27 : ((Rows.fnReleaseMadeIsFreeOfTheOrderVersionsWereMadeRow.veiled == (Try.f8.params.toList ++ Rows.fnReleaseMadeIsFreeOfTheOrderVersionsWereMadeSpec.plain.varTypes Try.prog ++ Try.f8.resultTypes.toList).any (Try.prog.veiledRec ·))) = true := by kernel_rfl
theorem c28 : (Rows.fnReleaseMadeIsFreeOfTheOrderVersionsWereMadeRow.veiledFits Try.prog Try.f8.params.toList (Try.f8.params.toList ++ Rows.fnReleaseMadeIsFreeOfTheOrderVersionsWereMadeSpec.plain.varTypes Try.prog ++ Try.f8.resultTypes.toList)) = true := by kernel_rfl
theorem c5a : (Rows.fnReleaseMadeIsFreeOfTheOrderVersionsWereMadeRow.stops == []) = true := by kernel_rfl
theorem c6a : (Rows.fnReleaseMadeIsFreeOfTheOrderVersionsWereMadeRow.knobs == []) = true := by kernel_rfl
theorem c25a : (Rows.fnReleaseMadeIsFreeOfTheOrderVersionsWereMadeRow.kinds == (if Rows.fnReleaseMadeIsFreeOfTheOrderVersionsWereMadeRow.domain.isEmpty then [] else Try.f8.params.toList.map fun t => match Try.prog.underlying t with | some (.int k) => some k | _ => none)) = true := by kernel_rfl
set_option maxRecDepth 100000 in
theorem closed : joinedFacts Try.prog 8 Try.f8 Rows.fnReleaseMadeIsFreeOfTheOrderVersionsWereMadeSpec Rows.fnReleaseMadeIsFreeOfTheOrderVersionsWereMadeRow = true := by
  unfold joinedFacts
  simp only [Bool.and_eq_true]
  exact ⟨⟨⟨⟨⟨⟨⟨⟨⟨⟨⟨⟨⟨⟨⟨⟨⟨⟨⟨⟨⟨⟨⟨⟨⟨⟨⟨⟨⟨⟨⟨c0, c1⟩, c2⟩, c3⟩, c4⟩, c5a⟩, c5⟩, c6a⟩, c6⟩, c7⟩, c8⟩, c9⟩, c10⟩, c11⟩, c12⟩, c13⟩, c14⟩, c15⟩, c16⟩, c17⟩, c18⟩, c19⟩, c20⟩, c21⟩, c22⟩, c23⟩, c24⟩, c25⟩, c25a⟩, c26⟩, c27⟩, c28⟩
end Go.Proofs.Qxb6613555a.Closed8
