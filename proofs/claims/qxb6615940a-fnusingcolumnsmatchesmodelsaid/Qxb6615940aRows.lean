/-
  No cell of these rows narrows 'for every input' (looked for: loops, veiled, ifaces, maps, wideKeys, modest, calm, conditions, laid).
  DERIVED. THE GIVEN ROWS OF THIS SEAT. 1 by the template 'for every input the law returns true; each argument reads behind the call as it read before'; 0 by the template 'total and deterministic' (their statements: Qxb6615940aTotals.lean).
  GIVEN WITH THE SEED: the statements are not yours to turn. If you find one false, say at which input.
  Laid BY PROGRAM, IN A SANDBOX (cutbox-rows.mjs): the forced cells as the released guide's own fill.sh prints them over the translation f484d5ca61e24536… (all of the seat's roots in one cut). By AI agents, Wed Nov 11 2026. No macro, syntax, notation, axiom, sorry.
-/
import Derived.Test.Qxb6615940aChecked
import GoSem.Claim
import GoSem.ClaimJoined
import GoSem.ClaimMapViews
import Derived.JoinedTies
import Derived.KernelRfl
namespace Go.Proofs.Qxb6615940a
/- THE CELL 'sum', in the pinned program and in every row, IS THE sha256 OF THE DUMP (.gsa) THAT Qxb6615940aProg.lean LOADS. Nothing in Lean hashes anything: it is a label: what it is worth is what the hold of that sum in a sandbox is worth. -/
noncomputable def Try.pinned : Pinned := { name := "qxb6615940a", sum := "f484d5ca61e245363f8cce3b9135b3bec4f88ea0812c7f05fe3052c1f4d5e367", checked := Try.checked }
namespace Rows
def none {H : Type} : Left H := { results := [], args := [] }

/-- 'zzlaws_internal_scratch_b1.FnUsingColumnsMatchesModel': WHATEVER THE INPUT: true; the input reads as it did. -/
def fnUsingColumnsMatchesModelSpec : ChangeSpec := { name := "fnUsingColumnsMatchesModel", fn := fun _ => fun
  | [d1, d2, d3, d4, d5, d6, d7, d8] => { results := [.lit (.bool true)], args := [d1, d2, d3, d4, d5, d6, d7, d8] }
  | _ => none }
def fnUsingColumnsMatchesModelRow : OpenClaim := { program := "qxb6615940a", sum := "f484d5ca61e245363f8cce3b9135b3bec4f88ea0812c7f05fe3052c1f4d5e367", func := "example.com/tablewright/tablewright/zzlaws_internal_scratch_b1.FnUsingColumnsMatchesModel", spec := "fnUsingColumnsMatchesModel", inPlace := ["internal/bytealg.IndexByteString", "internal/bytealg.IndexString", "internal/abi.NoEscape"], named := ["internal/bytealg.MaxLen"], apart := false }
def FnUsingColumnsMatchesModelSaid : Prop := fnUsingColumnsMatchesModelRow.holds Try.pinned (OpenSpec.ofChange fnUsingColumnsMatchesModelSpec)

/-- ITS FALSE NEIGHBOUR: 'it returns false'. Refute it at one input. -/
def fnUsingColumnsMatchesModelWrong : ChangeSpec := { name := "fnUsingColumnsMatchesModel", fn := fun _ => fun
  | [d1, d2, d3, d4, d5, d6, d7, d8] => { results := [.lit (.bool false)], args := [d1, d2, d3, d4, d5, d6, d7, d8] }
  | _ => none }
def FnUsingColumnsMatchesModelWrongFalsely : Prop := fnUsingColumnsMatchesModelRow.holds Try.pinned (OpenSpec.ofChange fnUsingColumnsMatchesModelWrong)

end Rows
end Go.Proofs.Qxb6615940a
