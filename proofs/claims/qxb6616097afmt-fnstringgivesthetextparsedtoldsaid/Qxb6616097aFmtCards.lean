/-
  DERIVED. GIVEN WITH THE SEED: THE CARDS: each row of Qxb6616097aFmtRows.lean that lists a variable, with what it lists TIED to the program's text (the seventh form; the later family's looks); each row that meets fmt, with fmt's text TOLD by the authors' own Lean function (tested against real Go, not proved from fmt's source: count such statements apart). THE CARD IS WHAT COUNTS. Prove the row's statement (the work); the ties are given (Qxb6616097aFmtTie.lean); close each card by the builder's one call (the guide's Derived/Test/ToyasCard.lean, 'card_holds'). Laid BY PROGRAM, IN A SANDBOX (cutbox-door.mjs). By AI agents, Wed Nov 11 2026. No macro, syntax, notation, axiom, sorry.
-/
import Derived.Test.Qxb6616097aFmtRows
import GoSem.ClaimSeven
namespace Go.Proofs.Qxb6616097aFmt
namespace Rows

/-- THE TOLD CARD OF 'zzlaws_internal_pathtemplate_b1.FnTemplateAcceptsExactlyTheGrammar'. -/
def fnTemplateAcceptsExactlyTheGrammarCard : Claim7 := { stood := { row := fnTemplateAcceptsExactlyTheGrammarRow, standIns := [], harness := (true, "0fe8737fb22f4e2197e116e4d6929466f35af4c2bde41536c58b1224b3c44646"), looks := false }, told := true, goes := false }
def FnTemplateAcceptsExactlyTheGrammarToldSaid : Prop := Claim7.holds Tryf.pinned (.plain (OpenSpec.ofChange fnTemplateAcceptsExactlyTheGrammarSpec)) fnTemplateAcceptsExactlyTheGrammarCard
/-- ITS FALSE NEIGHBOUR. Refute it at one input. -/
def FnTemplateAcceptsExactlyTheGrammarToldWrongFalsely : Prop := Claim7.holds Tryf.pinned (.plain (OpenSpec.ofChange fnTemplateAcceptsExactlyTheGrammarWrong)) fnTemplateAcceptsExactlyTheGrammarCard

/-- THE TOLD CARD OF 'zzlaws_internal_pathtemplate_b1.FnTemplateVerbJoinsAtTheEnd'. -/
def fnTemplateVerbJoinsAtTheEndCard : Claim7 := { stood := { row := fnTemplateVerbJoinsAtTheEndRow, standIns := [], harness := (true, "0fe8737fb22f4e2197e116e4d6929466f35af4c2bde41536c58b1224b3c44646"), looks := false }, told := true, goes := false }
def FnTemplateVerbJoinsAtTheEndToldSaid : Prop := Claim7.holds Tryf.pinned (.plain (OpenSpec.ofChange fnTemplateVerbJoinsAtTheEndSpec)) fnTemplateVerbJoinsAtTheEndCard
/-- ITS FALSE NEIGHBOUR. Refute it at one input. -/
def FnTemplateVerbJoinsAtTheEndToldWrongFalsely : Prop := Claim7.holds Tryf.pinned (.plain (OpenSpec.ofChange fnTemplateVerbJoinsAtTheEndWrong)) fnTemplateVerbJoinsAtTheEndCard

/-- THE TOLD CARD OF 'zzlaws_internal_pathtemplate_b1.FnStringGivesTheTextParsed'. -/
def fnStringGivesTheTextParsedCard : Claim7 := { stood := { row := fnStringGivesTheTextParsedRow, standIns := [], harness := (true, "0fe8737fb22f4e2197e116e4d6929466f35af4c2bde41536c58b1224b3c44646"), looks := false }, told := true, goes := false }
def FnStringGivesTheTextParsedToldSaid : Prop := Claim7.holds Tryf.pinned (.plain (OpenSpec.ofChange fnStringGivesTheTextParsedSpec)) fnStringGivesTheTextParsedCard
/-- ITS FALSE NEIGHBOUR. Refute it at one input. -/
def FnStringGivesTheTextParsedToldWrongFalsely : Prop := Claim7.holds Tryf.pinned (.plain (OpenSpec.ofChange fnStringGivesTheTextParsedWrong)) fnStringGivesTheTextParsedCard

/-- THE TOLD CARD OF 'zzlaws_internal_pathtemplate_b1.FnValuesAreTheDecodedPartsOfEachVariable'. -/
def fnValuesAreTheDecodedPartsOfEachVariableCard : Claim7 := { stood := { row := fnValuesAreTheDecodedPartsOfEachVariableRow, standIns := [], harness := (true, "0fe8737fb22f4e2197e116e4d6929466f35af4c2bde41536c58b1224b3c44646"), looks := false }, told := true, goes := false }
def FnValuesAreTheDecodedPartsOfEachVariableToldSaid : Prop := Claim7.holds Tryf.pinned (.plain (OpenSpec.ofChange fnValuesAreTheDecodedPartsOfEachVariableSpec)) fnValuesAreTheDecodedPartsOfEachVariableCard
/-- ITS FALSE NEIGHBOUR. Refute it at one input. -/
def FnValuesAreTheDecodedPartsOfEachVariableToldWrongFalsely : Prop := Claim7.holds Tryf.pinned (.plain (OpenSpec.ofChange fnValuesAreTheDecodedPartsOfEachVariableWrong)) fnValuesAreTheDecodedPartsOfEachVariableCard

/-- THE TOLD CARD OF 'zzlaws_internal_pathtemplate_b1.FnValuesMoveOnlyWithTheirOwnParts'. -/
def fnValuesMoveOnlyWithTheirOwnPartsCard : Claim7 := { stood := { row := fnValuesMoveOnlyWithTheirOwnPartsRow, standIns := [], harness := (true, "0fe8737fb22f4e2197e116e4d6929466f35af4c2bde41536c58b1224b3c44646"), looks := false }, told := true, goes := false }
def FnValuesMoveOnlyWithTheirOwnPartsToldSaid : Prop := Claim7.holds Tryf.pinned (.plain (OpenSpec.ofChange fnValuesMoveOnlyWithTheirOwnPartsSpec)) fnValuesMoveOnlyWithTheirOwnPartsCard
/-- ITS FALSE NEIGHBOUR. Refute it at one input. -/
def FnValuesMoveOnlyWithTheirOwnPartsToldWrongFalsely : Prop := Claim7.holds Tryf.pinned (.plain (OpenSpec.ofChange fnValuesMoveOnlyWithTheirOwnPartsWrong)) fnValuesMoveOnlyWithTheirOwnPartsCard
end Rows
end Go.Proofs.Qxb6616097aFmt
