import Derived.Test.Qxb6613555aHead
import Derived.WalkKit
import Derived.ProofKit
import Derived.OpenShut
import Derived.ChangeOld
/- the row's closed facts, each by itself -/
namespace Go.Proofs.Qxb6613555a.Closed7
open Go.ChangeShapes Go.WideShapes Go.ChangeAt Go.RowKit

theorem c0 : (Rows.fnReleaseMadeFreesEveryHeldReadInWaitOrderRow.wf (OpenSpec.ofChange Rows.fnReleaseMadeFreesEveryHeldReadInWaitOrderSpec)) = true := by kernel_rfl
theorem c1 : (laidOutB Try.prog) = true := by kernel_rfl
theorem c2 : (mapsRowed Try.prog) = true := by kernel_rfl
theorem c3 : (Try.f7.params.all (Try.prog.readableRec ·)) = true := by kernel_rfl
theorem c4 : (namedTie Try.prog Rows.fnReleaseMadeFreesEveryHeldReadInWaitOrderRow.named Rows.fnReleaseMadeFreesEveryHeldReadInWaitOrderSpec.vars) = true := by kernel_rfl
theorem c5 : ((Try.prog.stops == [])) = true := by kernel_rfl
theorem c6 : ((Try.prog.stopKnobs == [])) = true := by kernel_rfl
theorem c7 : ((Rows.fnReleaseMadeFreesEveryHeldReadInWaitOrderRow.inPlace == Try.prog.inPlace 7)) = true := by kernel_rfl
theorem c8 : ((Rows.fnReleaseMadeFreesEveryHeldReadInWaitOrderRow.unfollowed == Try.prog.unfollowed 7)) = true := by kernel_rfl
theorem c9 : ((Rows.fnReleaseMadeFreesEveryHeldReadInWaitOrderRow.recurses == Try.prog.recurses 7)) = true := by kernel_rfl
theorem c10 : ((Rows.fnReleaseMadeFreesEveryHeldReadInWaitOrderRow.named == Try.prog.varsNamed 7)) = true := by kernel_rfl
theorem c11 : ((Rows.fnReleaseMadeFreesEveryHeldReadInWaitOrderRow.maps == (Try.f7.params.toList ++ Rows.fnReleaseMadeFreesEveryHeldReadInWaitOrderSpec.plain.varTypes Try.prog).any (Try.prog.mapsRec ·))) = true := by kernel_rfl
theorem c12 : ((Rows.fnReleaseMadeFreesEveryHeldReadInWaitOrderRow.ifaces == (Try.f7.params.toList ++ Rows.fnReleaseMadeFreesEveryHeldReadInWaitOrderSpec.plain.varTypes Try.prog).any (Try.prog.ifacesRec ·))) = true := by kernel_rfl
theorem c13 : ((Rows.fnReleaseMadeFreesEveryHeldReadInWaitOrderRow.mapsOut == Try.prog.mapsAmong Try.f7.resultTypes.toList)) = true := by kernel_rfl
theorem c14 : ((Rows.fnReleaseMadeFreesEveryHeldReadInWaitOrderRow.loops == (Try.f7.params.toList ++ Rows.fnReleaseMadeFreesEveryHeldReadInWaitOrderSpec.plain.varTypes Try.prog).any (Try.prog.loopsFrom ·))) = true := by kernel_rfl
theorem c15 : ((Rows.fnReleaseMadeFreesEveryHeldReadInWaitOrderRow.wideKeys == (Try.f7.params.toList ++ Rows.fnReleaseMadeFreesEveryHeldReadInWaitOrderSpec.plain.varTypes Try.prog ++ Try.f7.resultTypes.toList).any (Try.prog.wideKeysFrom ·))) = true := by kernel_rfl
theorem c16 : (Rows.fnReleaseMadeFreesEveryHeldReadInWaitOrderSpec.vars.all (Try.prog.varReadable ·)) = true := by kernel_rfl
theorem c17 : (Try.f7.resultTypes.all (fun t => Try.prog.readableRec t && decide (t < Try.prog.types.size))) = true := by kernel_rfl
theorem c18 : ((Rows.fnReleaseMadeFreesEveryHeldReadInWaitOrderRow.ifacesOut == Try.f7.resultTypes.toList.any (Try.prog.ifacesRec ·))) = true := by kernel_rfl
theorem c19 : ((Rows.fnReleaseMadeFreesEveryHeldReadInWaitOrderRow.loopsOut == Try.f7.resultTypes.toList.any (Try.prog.loopsFrom ·))) = true := by kernel_rfl
theorem c20 : ((Rows.fnReleaseMadeFreesEveryHeldReadInWaitOrderRow.plainKeys == Try.prog.plainKeys)) = true := by kernel_rfl
theorem c21 : (Rows.fnReleaseMadeFreesEveryHeldReadInWaitOrderRow.shortTexts.isNone) = true := by kernel_rfl
theorem c22 : (Try.prog.stopsHeard) = true := by kernel_rfl
theorem c23 : (Try.prog.mayEnter) = true := Head.enters
theorem c24 : (Rows.fnReleaseMadeFreesEveryHeldReadInWaitOrderRow.lifted == Try.prog.liftsFinal) = true := by rw [Head.lifts]; rfl
theorem c25 : (Try.prog.make == some Rows.fnReleaseMadeFreesEveryHeldReadInWaitOrderRow.make) = true := by rw [Head.make]; rfl
theorem c26 : ((Rows.fnReleaseMadeFreesEveryHeldReadInWaitOrderRow.pinned == Rows.fnReleaseMadeFreesEveryHeldReadInWaitOrderRow.pinnedBy)) = true := by kernel_rfl
theorem c27 : ((Rows.fnReleaseMadeFreesEveryHeldReadInWaitOrderRow.veiled == (Try.f7.params.toList ++ Rows.fnReleaseMadeFreesEveryHeldReadInWaitOrderSpec.plain.varTypes Try.prog ++ Try.f7.resultTypes.toList).any (Try.prog.veiledRec ·))) = true := by kernel_rfl
theorem c28 : (Rows.fnReleaseMadeFreesEveryHeldReadInWaitOrderRow.veiledFits Try.prog Try.f7.params.toList (Try.f7.params.toList ++ Rows.fnReleaseMadeFreesEveryHeldReadInWaitOrderSpec.plain.varTypes Try.prog ++ Try.f7.resultTypes.toList)) = true := by kernel_rfl
theorem c5a : (Rows.fnReleaseMadeFreesEveryHeldReadInWaitOrderRow.stops == []) = true := by kernel_rfl
theorem c6a : (Rows.fnReleaseMadeFreesEveryHeldReadInWaitOrderRow.knobs == []) = true := by kernel_rfl
theorem c25a : (Rows.fnReleaseMadeFreesEveryHeldReadInWaitOrderRow.kinds == (if Rows.fnReleaseMadeFreesEveryHeldReadInWaitOrderRow.domain.isEmpty then [] else Try.f7.params.toList.map fun t => match Try.prog.underlying t with | some (.int k) => some k | _ => none)) = true := by kernel_rfl
set_option maxRecDepth 100000 in
theorem closed : joinedFacts Try.prog 7 Try.f7 Rows.fnReleaseMadeFreesEveryHeldReadInWaitOrderSpec Rows.fnReleaseMadeFreesEveryHeldReadInWaitOrderRow = true := by
  unfold joinedFacts
  simp only [Bool.and_eq_true]
  exact ⟨⟨⟨⟨⟨⟨⟨⟨⟨⟨⟨⟨⟨⟨⟨⟨⟨⟨⟨⟨⟨⟨⟨⟨⟨⟨⟨⟨⟨⟨⟨c0, c1⟩, c2⟩, c3⟩, c4⟩, c5a⟩, c5⟩, c6a⟩, c6⟩, c7⟩, c8⟩, c9⟩, c10⟩, c11⟩, c12⟩, c13⟩, c14⟩, c15⟩, c16⟩, c17⟩, c18⟩, c19⟩, c20⟩, c21⟩, c22⟩, c23⟩, c24⟩, c25⟩, c25a⟩, c26⟩, c27⟩, c28⟩
end Go.Proofs.Qxb6613555a.Closed7
