/-
  No cell of these rows narrows 'for every input' (looked for: loops, veiled, ifaces, maps, wideKeys, modest, calm, conditions, laid).
  DERIVED. THE GIVEN ROWS OF THIS SEAT. 1 by the template 'for every input the law returns true; each argument reads behind the call as it read before'; 0 by the template 'total and deterministic' (their statements: Qxb6608811aFmtTotals.lean).
  GIVEN WITH THE SEED: the statements are not yours to turn. If you find one false, say at which input.
  Laid BY PROGRAM, IN A SANDBOX (cutbox-rows.mjs): the forced cells as the released guide's own fill.sh prints them over the translation 7a68dbc1eb5c9615… (all of the seat's roots in one cut). By AI agents, Wed Nov 11 2026. No macro, syntax, notation, axiom, sorry.
-/
import Derived.Test.Qxb6608811aFmtChecked
import GoSem.Claim
import GoSem.ClaimJoined
import GoSem.ClaimMapViews
import Derived.JoinedTies
import Derived.KernelRfl
namespace Go.Proofs.Qxb6608811aFmt
/- THE CELL 'sum', in the pinned program and in every row, IS THE sha256 OF THE DUMP (.gsa) THAT Qxb6608811aFmtProg.lean LOADS. Nothing in Lean hashes anything: it is a label: what it is worth is what the hold of that sum in a sandbox is worth. -/
noncomputable def Tryf.pinned : Pinned := { name := "qxb6608811afmt", sum := "7a68dbc1eb5c96151c2e0824b900dddb514e01b39176eada845dad0f48c12024", checked := Tryf.checked }
namespace Rows
def none {H : Type} : Left H := { results := [], args := [] }

/-- 'zzlaws_internal_config_b1.FnCheckVersionGrammarAndBuild': WHATEVER THE INPUT: true; the input reads as it did. -/
def fnCheckVersionGrammarAndBuildSpec : ChangeSpec := { name := "fnCheckVersionGrammarAndBuild", fn := fun _ => fun
  | [d1, d2] => { results := [.lit (.bool true)], args := [d1, d2] }
  | _ => none }
def fnCheckVersionGrammarAndBuildRow : OpenClaim := { program := "qxb6608811afmt", sum := "7a68dbc1eb5c96151c2e0824b900dddb514e01b39176eada845dad0f48c12024", func := "example.com/dunnage/dunnage/zzlaws_internal_config_b1.FnCheckVersionGrammarAndBuild", spec := "fnCheckVersionGrammarAndBuild", stops := ["fmt.errorf"], inPlace := ["fmt.errorf"], apart := false }
/-- NO THEOREM (fmt's text is open here; it may be false): for the released tool's asking of the row's closed facts alone. THE STATEMENT IS 'FnCheckVersionGrammarAndBuildToldSaid' (Qxb6608811aFmtCards.lean). -/
def FnCheckVersionGrammarAndBuildFormAsk : Prop := fnCheckVersionGrammarAndBuildRow.holds Tryf.pinned (OpenSpec.ofChange fnCheckVersionGrammarAndBuildSpec)

/-- ITS FALSE NEIGHBOUR: 'it returns false'. Refute it at one input. -/
def fnCheckVersionGrammarAndBuildWrong : ChangeSpec := { name := "fnCheckVersionGrammarAndBuild", fn := fun _ => fun
  | [d1, d2] => { results := [.lit (.bool false)], args := [d1, d2] }
  | _ => none }
def FnCheckVersionGrammarAndBuildWrongFormAsk : Prop := fnCheckVersionGrammarAndBuildRow.holds Tryf.pinned (OpenSpec.ofChange fnCheckVersionGrammarAndBuildWrong)

end Rows
end Go.Proofs.Qxb6608811aFmt
