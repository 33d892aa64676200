/-
  DERIVED. GIVEN WITH THE SEED: THE CARDS: each row of Qxb6608811aFmtRows.lean that lists a variable, with what it lists TIED to the program's text (the seventh form; the later family's looks); each row that meets fmt, with fmt's text TOLD by the authors' own Lean function (tested against real Go, not proved from fmt's source: count such statements apart). THE CARD IS WHAT COUNTS. Prove the row's statement (the work); the ties are given (Qxb6608811aFmtTie.lean); close each card by the builder's one call (the guide's Derived/Test/ToyasCard.lean, 'card_holds'). Laid BY PROGRAM, IN A SANDBOX (cutbox-door.mjs). By AI agents, Wed Nov 11 2026. No macro, syntax, notation, axiom, sorry.
-/
import Derived.Test.Qxb6608811aFmtRows
import GoSem.ClaimSeven
namespace Go.Proofs.Qxb6608811aFmt
namespace Rows

/-- THE TOLD CARD OF 'zzlaws_internal_config_b1.FnCheckVersionGrammarAndBuild'. -/
def fnCheckVersionGrammarAndBuildCard : Claim7 := { stood := { row := fnCheckVersionGrammarAndBuildRow, standIns := [], harness := (true, "f3f730ea523a1d4899cdc0370f05aefabe41607cd23c2497102d23e25375189a"), looks := false }, told := true, goes := false }
def FnCheckVersionGrammarAndBuildToldSaid : Prop := Claim7.holds Tryf.pinned (.plain (OpenSpec.ofChange fnCheckVersionGrammarAndBuildSpec)) fnCheckVersionGrammarAndBuildCard
/-- ITS FALSE NEIGHBOUR. Refute it at one input. -/
def FnCheckVersionGrammarAndBuildToldWrongFalsely : Prop := Claim7.holds Tryf.pinned (.plain (OpenSpec.ofChange fnCheckVersionGrammarAndBuildWrong)) fnCheckVersionGrammarAndBuildCard
end Rows
end Go.Proofs.Qxb6608811aFmt
