/-
  No cell of these rows narrows 'for every input' (looked for: loops, veiled, ifaces, maps, wideKeys, modest, calm, conditions, laid).
  DERIVED. THE GIVEN ROWS OF THIS SEAT. 8 by the template 'for every input the law returns true; each argument reads behind the call as it read before'; 0 by the template 'total and deterministic' (their statements: Qxb6613588aTotals.lean).
  GIVEN WITH THE SEED: the statements are not yours to turn. If you find one false, say at which input.
  Laid BY PROGRAM, IN A SANDBOX (cutbox-rows.mjs): the forced cells as the released guide's own fill.sh prints them over the translation e900659d8be78b61… (all of the seat's roots in one cut). By AI agents, Wed Nov 11 2026. No macro, syntax, notation, axiom, sorry.
-/
import Derived.Test.Qxb6613588aChecked
import GoSem.Claim
import GoSem.ClaimJoined
import GoSem.ClaimMapViews
import Derived.JoinedTies
import Derived.KernelRfl
namespace Go.Proofs.Qxb6613588a
/- THE CELL 'sum', in the pinned program and in every row, IS THE sha256 OF THE DUMP (.gsa) THAT Qxb6613588aProg.lean LOADS. Nothing in Lean hashes anything: it is a label: what it is worth is what the hold of that sum in a sandbox is worth. -/
noncomputable def Try.pinned : Pinned := { name := "qxb6613588a", sum := "e900659d8be78b6178eeb5913a49d3b7b84f7d0548add1d793d17c0be27fa872", checked := Try.checked }
namespace Rows
def none {H : Type} : Left H := { results := [], args := [] }

/-- 'zzlaws_pkg_syntax_b1.FnWordByteCountUpTo': WHATEVER THE INPUT: true; the input reads as it did. -/
def fnWordByteCountUpToSpec : ChangeSpec := { name := "fnWordByteCountUpTo", fn := fun _ => fun
  | [d] => { results := [.lit (.bool true)], args := [d] }
  | _ => none }
def fnWordByteCountUpToRow : OpenClaim := { program := "qxb6613588a", sum := "e900659d8be78b6178eeb5913a49d3b7b84f7d0548add1d793d17c0be27fa872", func := "example.com/words-to-routes/words-to-routes/zzlaws_pkg_syntax_b1.FnWordByteCountUpTo", spec := "fnWordByteCountUpTo", apart := false }
def FnWordByteCountUpToSaid : Prop := fnWordByteCountUpToRow.holds Try.pinned (OpenSpec.ofChange fnWordByteCountUpToSpec)

/-- ITS FALSE NEIGHBOUR: 'it returns false'. Refute it at one input. -/
def fnWordByteCountUpToWrong : ChangeSpec := { name := "fnWordByteCountUpTo", fn := fun _ => fun
  | [d] => { results := [.lit (.bool false)], args := [d] }
  | _ => none }
def FnWordByteCountUpToWrongFalsely : Prop := fnWordByteCountUpToRow.holds Try.pinned (OpenSpec.ofChange fnWordByteCountUpToWrong)

/-- 'zzlaws_pkg_syntax_b1.FnWordByteCaseFlipOnlyForLetters': WHATEVER THE INPUT: true; the input reads as it did. -/
def fnWordByteCaseFlipOnlyForLettersSpec : ChangeSpec := { name := "fnWordByteCaseFlipOnlyForLetters", fn := fun _ => fun
  | [d] => { results := [.lit (.bool true)], args := [d] }
  | _ => none }
def fnWordByteCaseFlipOnlyForLettersRow : OpenClaim := { program := "qxb6613588a", sum := "e900659d8be78b6178eeb5913a49d3b7b84f7d0548add1d793d17c0be27fa872", func := "example.com/words-to-routes/words-to-routes/zzlaws_pkg_syntax_b1.FnWordByteCaseFlipOnlyForLetters", spec := "fnWordByteCaseFlipOnlyForLetters", apart := false }
def FnWordByteCaseFlipOnlyForLettersSaid : Prop := fnWordByteCaseFlipOnlyForLettersRow.holds Try.pinned (OpenSpec.ofChange fnWordByteCaseFlipOnlyForLettersSpec)

/-- ITS FALSE NEIGHBOUR: 'it returns false'. Refute it at one input. -/
def fnWordByteCaseFlipOnlyForLettersWrong : ChangeSpec := { name := "fnWordByteCaseFlipOnlyForLetters", fn := fun _ => fun
  | [d] => { results := [.lit (.bool false)], args := [d] }
  | _ => none }
def FnWordByteCaseFlipOnlyForLettersWrongFalsely : Prop := fnWordByteCaseFlipOnlyForLettersRow.holds Try.pinned (OpenSpec.ofChange fnWordByteCaseFlipOnlyForLettersWrong)

/-- 'zzlaws_pkg_syntax_b1.FnImportsConcatAtAnyCut': WHATEVER THE INPUT: true; the input reads as it did. -/
def fnImportsConcatAtAnyCutSpec : ChangeSpec := { name := "fnImportsConcatAtAnyCut", fn := fun _ => fun
  | [d1, d2, d3] => { results := [.lit (.bool true)], args := [d1, d2, d3] }
  | _ => none }
def fnImportsConcatAtAnyCutRow : OpenClaim := { program := "qxb6613588a", sum := "e900659d8be78b6178eeb5913a49d3b7b84f7d0548add1d793d17c0be27fa872", func := "example.com/words-to-routes/words-to-routes/zzlaws_pkg_syntax_b1.FnImportsConcatAtAnyCut", spec := "fnImportsConcatAtAnyCut", apart := false }
def FnImportsConcatAtAnyCutSaid : Prop := fnImportsConcatAtAnyCutRow.holds Try.pinned (OpenSpec.ofChange fnImportsConcatAtAnyCutSpec)

/-- ITS FALSE NEIGHBOUR: 'it returns false'. Refute it at one input. -/
def fnImportsConcatAtAnyCutWrong : ChangeSpec := { name := "fnImportsConcatAtAnyCut", fn := fun _ => fun
  | [d1, d2, d3] => { results := [.lit (.bool false)], args := [d1, d2, d3] }
  | _ => none }
def FnImportsConcatAtAnyCutWrongFalsely : Prop := fnImportsConcatAtAnyCutRow.holds Try.pinned (OpenSpec.ofChange fnImportsConcatAtAnyCutWrong)

/-- 'zzlaws_pkg_syntax_b1.FnImportsResultIsFresh': WHATEVER THE INPUT: true; the input reads as it did. -/
def fnImportsResultIsFreshSpec : ChangeSpec := { name := "fnImportsResultIsFresh", fn := fun _ => fun
  | [d1, d2] => { results := [.lit (.bool true)], args := [d1, d2] }
  | _ => none }
def fnImportsResultIsFreshRow : OpenClaim := { program := "qxb6613588a", sum := "e900659d8be78b6178eeb5913a49d3b7b84f7d0548add1d793d17c0be27fa872", func := "example.com/words-to-routes/words-to-routes/zzlaws_pkg_syntax_b1.FnImportsResultIsFresh", spec := "fnImportsResultIsFresh", apart := false }
def FnImportsResultIsFreshSaid : Prop := fnImportsResultIsFreshRow.holds Try.pinned (OpenSpec.ofChange fnImportsResultIsFreshSpec)

/-- ITS FALSE NEIGHBOUR: 'it returns false'. Refute it at one input. -/
def fnImportsResultIsFreshWrong : ChangeSpec := { name := "fnImportsResultIsFresh", fn := fun _ => fun
  | [d1, d2] => { results := [.lit (.bool false)], args := [d1, d2] }
  | _ => none }
def FnImportsResultIsFreshWrongFalsely : Prop := fnImportsResultIsFreshRow.holds Try.pinned (OpenSpec.ofChange fnImportsResultIsFreshWrong)

/-- 'zzlaws_pkg_syntax_b1.FnInfoAtAnyCut': WHATEVER THE INPUT: true; the input reads as it did. -/
def fnInfoAtAnyCutSpec : ChangeSpec := { name := "fnInfoAtAnyCut", fn := fun _ => fun
  | [d1, d2, d3] => { results := [.lit (.bool true)], args := [d1, d2, d3] }
  | _ => none }
def fnInfoAtAnyCutRow : OpenClaim := { program := "qxb6613588a", sum := "e900659d8be78b6178eeb5913a49d3b7b84f7d0548add1d793d17c0be27fa872", func := "example.com/words-to-routes/words-to-routes/zzlaws_pkg_syntax_b1.FnInfoAtAnyCut", spec := "fnInfoAtAnyCut", apart := false }
def FnInfoAtAnyCutSaid : Prop := fnInfoAtAnyCutRow.holds Try.pinned (OpenSpec.ofChange fnInfoAtAnyCutSpec)

/-- ITS FALSE NEIGHBOUR: 'it returns false'. Refute it at one input. -/
def fnInfoAtAnyCutWrong : ChangeSpec := { name := "fnInfoAtAnyCut", fn := fun _ => fun
  | [d1, d2, d3] => { results := [.lit (.bool false)], args := [d1, d2, d3] }
  | _ => none }
def FnInfoAtAnyCutWrongFalsely : Prop := fnInfoAtAnyCutRow.holds Try.pinned (OpenSpec.ofChange fnInfoAtAnyCutWrong)

/-- 'zzlaws_pkg_syntax_b1.FnInfoInsertedAnywhere': WHATEVER THE INPUT: true; the input reads as it did. -/
def fnInfoInsertedAnywhereSpec : ChangeSpec := { name := "fnInfoInsertedAnywhere", fn := fun _ => fun
  | [d1, d2, d3] => { results := [.lit (.bool true)], args := [d1, d2, d3] }
  | _ => none }
def fnInfoInsertedAnywhereRow : OpenClaim := { program := "qxb6613588a", sum := "e900659d8be78b6178eeb5913a49d3b7b84f7d0548add1d793d17c0be27fa872", func := "example.com/words-to-routes/words-to-routes/zzlaws_pkg_syntax_b1.FnInfoInsertedAnywhere", spec := "fnInfoInsertedAnywhere", apart := false }
def FnInfoInsertedAnywhereSaid : Prop := fnInfoInsertedAnywhereRow.holds Try.pinned (OpenSpec.ofChange fnInfoInsertedAnywhereSpec)

/-- ITS FALSE NEIGHBOUR: 'it returns false'. Refute it at one input. -/
def fnInfoInsertedAnywhereWrong : ChangeSpec := { name := "fnInfoInsertedAnywhere", fn := fun _ => fun
  | [d1, d2, d3] => { results := [.lit (.bool false)], args := [d1, d2, d3] }
  | _ => none }
def FnInfoInsertedAnywhereWrongFalsely : Prop := fnInfoInsertedAnywhereRow.holds Try.pinned (OpenSpec.ofChange fnInfoInsertedAnywhereWrong)

/-- 'zzlaws_pkg_syntax_b1.FnTypesConcatAtAnyCut': WHATEVER THE INPUT: true; the input reads as it did. -/
def fnTypesConcatAtAnyCutSpec : ChangeSpec := { name := "fnTypesConcatAtAnyCut", fn := fun _ => fun
  | [d1, d2, d3] => { results := [.lit (.bool true)], args := [d1, d2, d3] }
  | _ => none }
def fnTypesConcatAtAnyCutRow : OpenClaim := { program := "qxb6613588a", sum := "e900659d8be78b6178eeb5913a49d3b7b84f7d0548add1d793d17c0be27fa872", func := "example.com/words-to-routes/words-to-routes/zzlaws_pkg_syntax_b1.FnTypesConcatAtAnyCut", spec := "fnTypesConcatAtAnyCut", apart := false }
def FnTypesConcatAtAnyCutSaid : Prop := fnTypesConcatAtAnyCutRow.holds Try.pinned (OpenSpec.ofChange fnTypesConcatAtAnyCutSpec)

/-- ITS FALSE NEIGHBOUR: 'it returns false'. Refute it at one input. -/
def fnTypesConcatAtAnyCutWrong : ChangeSpec := { name := "fnTypesConcatAtAnyCut", fn := fun _ => fun
  | [d1, d2, d3] => { results := [.lit (.bool false)], args := [d1, d2, d3] }
  | _ => none }
def FnTypesConcatAtAnyCutWrongFalsely : Prop := fnTypesConcatAtAnyCutRow.holds Try.pinned (OpenSpec.ofChange fnTypesConcatAtAnyCutWrong)

/-- 'zzlaws_pkg_syntax_b1.FnTypesInsertedAnywhere': WHATEVER THE INPUT: true; the input reads as it did. -/
def fnTypesInsertedAnywhereSpec : ChangeSpec := { name := "fnTypesInsertedAnywhere", fn := fun _ => fun
  | [d1, d2, d3, d4] => { results := [.lit (.bool true)], args := [d1, d2, d3, d4] }
  | _ => none }
def fnTypesInsertedAnywhereRow : OpenClaim := { program := "qxb6613588a", sum := "e900659d8be78b6178eeb5913a49d3b7b84f7d0548add1d793d17c0be27fa872", func := "example.com/words-to-routes/words-to-routes/zzlaws_pkg_syntax_b1.FnTypesInsertedAnywhere", spec := "fnTypesInsertedAnywhere", apart := false }
def FnTypesInsertedAnywhereSaid : Prop := fnTypesInsertedAnywhereRow.holds Try.pinned (OpenSpec.ofChange fnTypesInsertedAnywhereSpec)

/-- ITS FALSE NEIGHBOUR: 'it returns false'. Refute it at one input. -/
def fnTypesInsertedAnywhereWrong : ChangeSpec := { name := "fnTypesInsertedAnywhere", fn := fun _ => fun
  | [d1, d2, d3, d4] => { results := [.lit (.bool false)], args := [d1, d2, d3, d4] }
  | _ => none }
def FnTypesInsertedAnywhereWrongFalsely : Prop := fnTypesInsertedAnywhereRow.holds Try.pinned (OpenSpec.ofChange fnTypesInsertedAnywhereWrong)

end Rows
end Go.Proofs.Qxb6613588a
