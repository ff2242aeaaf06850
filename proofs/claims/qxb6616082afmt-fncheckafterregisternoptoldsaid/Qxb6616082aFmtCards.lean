/-
  DERIVED. GIVEN WITH THE SEED: THE CARDS: each row of Qxb6616082aFmtRows.lean that lists a variable, with what it lists TIED to the program's text (the seventh form; the later family's looks); each row that meets fmt, with fmt's text TOLD by the authors' own Lean function (tested against real Go, not proved from fmt's source: count such statements apart). THE CARD IS WHAT COUNTS. Prove the row's statement (the work); the ties are given (Qxb6616082aFmtTie.lean); close each card by the builder's one call (the guide's Derived/Test/ToyasCard.lean, 'card_holds'). Laid BY PROGRAM, IN A SANDBOX (cutbox-door.mjs). By AI agents, Wed Nov 11 2026. No macro, syntax, notation, axiom, sorry.
-/
import Derived.Test.Qxb6616082aFmtRows
import GoSem.ClaimSeven
namespace Go.Proofs.Qxb6616082aFmt
namespace Rows

/-- THE TOLD AND TIED CARD OF 'zzlaws_root_b1.FnCheckBundledExact'. -/
def fnCheckBundledExactCard : Claim7 := { stood := { row := fnCheckBundledExactRow, standIns := [], harness := (true, "625494caa842fcdb8ed157cc48f2f5c5d920b949d4598074a32bdc6bcce9b55b"), looks := true }, told := true, laidByText := true, laidKinds := [.data, .data, .data, .sentinel, .sentinel], laidTests := true, laidLooks := .later, goes := false }
def FnCheckBundledExactToldSaid : Prop := Claim7.holds Tryf.pinned (.plain (OpenSpec.ofChange fnCheckBundledExactSpec)) fnCheckBundledExactCard
/-- ITS FALSE NEIGHBOUR. Refute it at one input. -/
def FnCheckBundledExactToldWrongFalsely : Prop := Claim7.holds Tryf.pinned (.plain (OpenSpec.ofChange fnCheckBundledExactWrong)) fnCheckBundledExactCard

/-- THE TOLD CARD OF 'zzlaws_root_b1.FnCheckAfterRegisterNop'. -/
def fnCheckAfterRegisterNopCard : Claim7 := { stood := { row := fnCheckAfterRegisterNopRow, standIns := [], harness := (true, "625494caa842fcdb8ed157cc48f2f5c5d920b949d4598074a32bdc6bcce9b55b"), looks := true }, told := true, goes := false }
def FnCheckAfterRegisterNopToldSaid : Prop := Claim7.holds Tryf.pinned (.plain (OpenSpec.ofChange fnCheckAfterRegisterNopSpec)) fnCheckAfterRegisterNopCard
/-- ITS FALSE NEIGHBOUR. Refute it at one input. -/
def FnCheckAfterRegisterNopToldWrongFalsely : Prop := Claim7.holds Tryf.pinned (.plain (OpenSpec.ofChange fnCheckAfterRegisterNopWrong)) fnCheckAfterRegisterNopCard
end Rows
end Go.Proofs.Qxb6616082aFmt
