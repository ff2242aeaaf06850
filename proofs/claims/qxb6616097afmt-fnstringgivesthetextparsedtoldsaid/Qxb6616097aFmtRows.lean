/-
  No cell of these rows narrows 'for every input' (looked for: loops, veiled, ifaces, maps, wideKeys, modest, calm, conditions, laid).
  DERIVED. THE GIVEN ROWS OF THIS SEAT. 5 by the template 'for every input the law returns true; each argument reads behind the call as it read before'; 0 by the template 'total and deterministic' (their statements: Qxb6616097aFmtTotals.lean).
  GIVEN WITH THE SEED: the statements are not yours to turn. If you find one false, say at which input.
  Laid BY PROGRAM, IN A SANDBOX (cutbox-rows.mjs): the forced cells as the released guide's own fill.sh prints them over the translation c58982e3c63d386e… (all of the seat's roots in one cut). By AI agents, Wed Nov 11 2026. No macro, syntax, notation, axiom, sorry.
-/
import Derived.Test.Qxb6616097aFmtChecked
import GoSem.Claim
import GoSem.ClaimJoined
import GoSem.ClaimMapViews
import Derived.JoinedTies
import Derived.KernelRfl
namespace Go.Proofs.Qxb6616097aFmt
/- THE CELL 'sum', in the pinned program and in every row, IS THE sha256 OF THE DUMP (.gsa) THAT Qxb6616097aFmtProg.lean LOADS. Nothing in Lean hashes anything: it is a label: what it is worth is what the hold of that sum in a sandbox is worth. -/
noncomputable def Tryf.pinned : Pinned := { name := "qxb6616097afmt", sum := "c58982e3c63d386e0b1159803fd39cef1eae950bb231fd338af18954eef8884f", checked := Tryf.checked }
namespace Rows
def none {H : Type} : Left H := { results := [], args := [] }

/-- 'zzlaws_internal_pathtemplate_b1.FnTemplateAcceptsExactlyTheGrammar': WHATEVER THE INPUT: true; the input reads as it did. -/
def fnTemplateAcceptsExactlyTheGrammarSpec : ChangeSpec := { name := "fnTemplateAcceptsExactlyTheGrammar", fn := fun _ => fun
  | [d] => { results := [.lit (.bool true)], args := [d] }
  | _ => none }
def fnTemplateAcceptsExactlyTheGrammarRow : OpenClaim := { program := "qxb6616097afmt", sum := "c58982e3c63d386e0b1159803fd39cef1eae950bb231fd338af18954eef8884f", func := "example.com/corbelwire/corbelwire/zzlaws_internal_pathtemplate_b1.FnTemplateAcceptsExactlyTheGrammar", spec := "fnTemplateAcceptsExactlyTheGrammar", stops := ["fmt.Sprintf, its operands' methods called", "fmt.errorf"], inPlace := ["fmt.Sprintf", "fmt.errorf", "internal/bytealg.IndexByteString", "internal/bytealg.IndexString"], unfollowed := true, recurses := true, named := ["internal/bytealg.MaxLen"], apart := false }
/-- NO THEOREM (fmt's text is open here; it may be false): for the released tool's asking of the row's closed facts alone. THE STATEMENT IS 'FnTemplateAcceptsExactlyTheGrammarToldSaid' (Qxb6616097aFmtCards.lean). -/
def FnTemplateAcceptsExactlyTheGrammarFormAsk : Prop := fnTemplateAcceptsExactlyTheGrammarRow.holds Tryf.pinned (OpenSpec.ofChange fnTemplateAcceptsExactlyTheGrammarSpec)

/-- ITS FALSE NEIGHBOUR: 'it returns false'. Refute it at one input. -/
def fnTemplateAcceptsExactlyTheGrammarWrong : ChangeSpec := { name := "fnTemplateAcceptsExactlyTheGrammar", fn := fun _ => fun
  | [d] => { results := [.lit (.bool false)], args := [d] }
  | _ => none }
def FnTemplateAcceptsExactlyTheGrammarWrongFormAsk : Prop := fnTemplateAcceptsExactlyTheGrammarRow.holds Tryf.pinned (OpenSpec.ofChange fnTemplateAcceptsExactlyTheGrammarWrong)

/-- 'zzlaws_internal_pathtemplate_b1.FnTemplateVerbJoinsAtTheEnd': WHATEVER THE INPUT: true; the input reads as it did. -/
def fnTemplateVerbJoinsAtTheEndSpec : ChangeSpec := { name := "fnTemplateVerbJoinsAtTheEnd", fn := fun _ => fun
  | [d1, d2] => { results := [.lit (.bool true)], args := [d1, d2] }
  | _ => none }
def fnTemplateVerbJoinsAtTheEndRow : OpenClaim := { program := "qxb6616097afmt", sum := "c58982e3c63d386e0b1159803fd39cef1eae950bb231fd338af18954eef8884f", func := "example.com/corbelwire/corbelwire/zzlaws_internal_pathtemplate_b1.FnTemplateVerbJoinsAtTheEnd", spec := "fnTemplateVerbJoinsAtTheEnd", stops := ["fmt.Sprintf, its operands' methods called", "fmt.errorf"], inPlace := ["fmt.Sprintf", "fmt.errorf", "internal/bytealg.IndexByteString", "internal/bytealg.IndexString"], unfollowed := true, recurses := true, named := ["internal/bytealg.MaxLen"], apart := false }
/-- NO THEOREM (fmt's text is open here; it may be false): for the released tool's asking of the row's closed facts alone. THE STATEMENT IS 'FnTemplateVerbJoinsAtTheEndToldSaid' (Qxb6616097aFmtCards.lean). -/
def FnTemplateVerbJoinsAtTheEndFormAsk : Prop := fnTemplateVerbJoinsAtTheEndRow.holds Tryf.pinned (OpenSpec.ofChange fnTemplateVerbJoinsAtTheEndSpec)

/-- ITS FALSE NEIGHBOUR: 'it returns false'. Refute it at one input. -/
def fnTemplateVerbJoinsAtTheEndWrong : ChangeSpec := { name := "fnTemplateVerbJoinsAtTheEnd", fn := fun _ => fun
  | [d1, d2] => { results := [.lit (.bool false)], args := [d1, d2] }
  | _ => none }
def FnTemplateVerbJoinsAtTheEndWrongFormAsk : Prop := fnTemplateVerbJoinsAtTheEndRow.holds Tryf.pinned (OpenSpec.ofChange fnTemplateVerbJoinsAtTheEndWrong)

/-- 'zzlaws_internal_pathtemplate_b1.FnStringGivesTheTextParsed': WHATEVER THE INPUT: true; the input reads as it did. -/
def fnStringGivesTheTextParsedSpec : ChangeSpec := { name := "fnStringGivesTheTextParsed", fn := fun _ => fun
  | [d] => { results := [.lit (.bool true)], args := [d] }
  | _ => none }
def fnStringGivesTheTextParsedRow : OpenClaim := { program := "qxb6616097afmt", sum := "c58982e3c63d386e0b1159803fd39cef1eae950bb231fd338af18954eef8884f", func := "example.com/corbelwire/corbelwire/zzlaws_internal_pathtemplate_b1.FnStringGivesTheTextParsed", spec := "fnStringGivesTheTextParsed", stops := ["fmt.Sprintf, its operands' methods called", "fmt.errorf"], inPlace := ["fmt.Sprintf", "fmt.errorf", "internal/bytealg.IndexByteString", "internal/bytealg.IndexString"], unfollowed := true, recurses := true, named := ["internal/bytealg.MaxLen"], apart := false }
/-- NO THEOREM (fmt's text is open here; it may be false): for the released tool's asking of the row's closed facts alone. THE STATEMENT IS 'FnStringGivesTheTextParsedToldSaid' (Qxb6616097aFmtCards.lean). -/
def FnStringGivesTheTextParsedFormAsk : Prop := fnStringGivesTheTextParsedRow.holds Tryf.pinned (OpenSpec.ofChange fnStringGivesTheTextParsedSpec)

/-- ITS FALSE NEIGHBOUR: 'it returns false'. Refute it at one input. -/
def fnStringGivesTheTextParsedWrong : ChangeSpec := { name := "fnStringGivesTheTextParsed", fn := fun _ => fun
  | [d] => { results := [.lit (.bool false)], args := [d] }
  | _ => none }
def FnStringGivesTheTextParsedWrongFormAsk : Prop := fnStringGivesTheTextParsedRow.holds Tryf.pinned (OpenSpec.ofChange fnStringGivesTheTextParsedWrong)

/-- 'zzlaws_internal_pathtemplate_b1.FnValuesAreTheDecodedPartsOfEachVariable': WHATEVER THE INPUT: true; the input reads as it did. -/
def fnValuesAreTheDecodedPartsOfEachVariableSpec : ChangeSpec := { name := "fnValuesAreTheDecodedPartsOfEachVariable", fn := fun _ => fun
  | [d1, d2, d3] => { results := [.lit (.bool true)], args := [d1, d2, d3] }
  | _ => none }
def fnValuesAreTheDecodedPartsOfEachVariableRow : OpenClaim := { program := "qxb6616097afmt", sum := "c58982e3c63d386e0b1159803fd39cef1eae950bb231fd338af18954eef8884f", func := "example.com/corbelwire/corbelwire/zzlaws_internal_pathtemplate_b1.FnValuesAreTheDecodedPartsOfEachVariable", spec := "fnValuesAreTheDecodedPartsOfEachVariable", stops := ["fmt.Sprintf, its operands' methods called", "fmt.errorf"], inPlace := ["fmt.Sprintf", "fmt.errorf", "internal/bytealg.IndexByteString", "internal/bytealg.IndexString", "internal/abi.NoEscape"], unfollowed := true, recurses := true, named := ["internal/bytealg.MaxLen"], apart := false }
/-- NO THEOREM (fmt's text is open here; it may be false): for the released tool's asking of the row's closed facts alone. THE STATEMENT IS 'FnValuesAreTheDecodedPartsOfEachVariableToldSaid' (Qxb6616097aFmtCards.lean). -/
def FnValuesAreTheDecodedPartsOfEachVariableFormAsk : Prop := fnValuesAreTheDecodedPartsOfEachVariableRow.holds Tryf.pinned (OpenSpec.ofChange fnValuesAreTheDecodedPartsOfEachVariableSpec)

/-- ITS FALSE NEIGHBOUR: 'it returns false'. Refute it at one input. -/
def fnValuesAreTheDecodedPartsOfEachVariableWrong : ChangeSpec := { name := "fnValuesAreTheDecodedPartsOfEachVariable", fn := fun _ => fun
  | [d1, d2, d3] => { results := [.lit (.bool false)], args := [d1, d2, d3] }
  | _ => none }
def FnValuesAreTheDecodedPartsOfEachVariableWrongFormAsk : Prop := fnValuesAreTheDecodedPartsOfEachVariableRow.holds Tryf.pinned (OpenSpec.ofChange fnValuesAreTheDecodedPartsOfEachVariableWrong)

/-- 'zzlaws_internal_pathtemplate_b1.FnValuesMoveOnlyWithTheirOwnParts': WHATEVER THE INPUT: true; the input reads as it did. -/
def fnValuesMoveOnlyWithTheirOwnPartsSpec : ChangeSpec := { name := "fnValuesMoveOnlyWithTheirOwnParts", fn := fun _ => fun
  | [d1, d2, d3, d4] => { results := [.lit (.bool true)], args := [d1, d2, d3, d4] }
  | _ => none }
def fnValuesMoveOnlyWithTheirOwnPartsRow : OpenClaim := { program := "qxb6616097afmt", sum := "c58982e3c63d386e0b1159803fd39cef1eae950bb231fd338af18954eef8884f", func := "example.com/corbelwire/corbelwire/zzlaws_internal_pathtemplate_b1.FnValuesMoveOnlyWithTheirOwnParts", spec := "fnValuesMoveOnlyWithTheirOwnParts", stops := ["fmt.Sprintf, its operands' methods called", "fmt.errorf"], inPlace := ["fmt.Sprintf", "fmt.errorf", "internal/bytealg.IndexByteString", "internal/bytealg.IndexString", "internal/abi.NoEscape"], unfollowed := true, recurses := true, named := ["internal/bytealg.MaxLen"], apart := false }
/-- NO THEOREM (fmt's text is open here; it may be false): for the released tool's asking of the row's closed facts alone. THE STATEMENT IS 'FnValuesMoveOnlyWithTheirOwnPartsToldSaid' (Qxb6616097aFmtCards.lean). -/
def FnValuesMoveOnlyWithTheirOwnPartsFormAsk : Prop := fnValuesMoveOnlyWithTheirOwnPartsRow.holds Tryf.pinned (OpenSpec.ofChange fnValuesMoveOnlyWithTheirOwnPartsSpec)

/-- ITS FALSE NEIGHBOUR: 'it returns false'. Refute it at one input. -/
def fnValuesMoveOnlyWithTheirOwnPartsWrong : ChangeSpec := { name := "fnValuesMoveOnlyWithTheirOwnParts", fn := fun _ => fun
  | [d1, d2, d3, d4] => { results := [.lit (.bool false)], args := [d1, d2, d3, d4] }
  | _ => none }
def FnValuesMoveOnlyWithTheirOwnPartsWrongFormAsk : Prop := fnValuesMoveOnlyWithTheirOwnPartsRow.holds Tryf.pinned (OpenSpec.ofChange fnValuesMoveOnlyWithTheirOwnPartsWrong)

end Rows
end Go.Proofs.Qxb6616097aFmt
