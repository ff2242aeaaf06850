/-
  No cell of these rows narrows 'for every input' (looked for: loops, veiled, ifaces, maps, wideKeys, modest, calm, conditions, laid).
  DERIVED. THE GIVEN ROWS OF THIS SEAT. 3 by the template 'for every input the law returns true; each argument reads behind the call as it read before'; 0 by the template 'total and deterministic' (their statements: Qxb6617066aTotals.lean).
  GIVEN WITH THE SEED: the statements are not yours to turn. If you find one false, say at which input.
  Laid BY PROGRAM, IN A SANDBOX (cutbox-rows.mjs): the forced cells as the released guide's own fill.sh prints them over the translation 6eecde814e97e4d0… (all of the seat's roots in one cut). By AI agents, Wed Nov 11 2026. No macro, syntax, notation, axiom, sorry.
-/
import Derived.Test.Qxb6617066aChecked
import GoSem.Claim
import GoSem.ClaimJoined
import GoSem.ClaimMapViews
import Derived.JoinedTies
import Derived.KernelRfl
namespace Go.Proofs.Qxb6617066a
/- THE CELL 'sum', in the pinned program and in every row, IS THE sha256 OF THE DUMP (.gsa) THAT Qxb6617066aProg.lean LOADS. Nothing in Lean hashes anything: it is a label: what it is worth is what the hold of that sum in a sandbox is worth. -/
noncomputable def Try.pinned : Pinned := { name := "qxb6617066a", sum := "6eecde814e97e4d09b7ead1faabc5bf44bcdbdf6a5b2fd7211da2c05d3094310", checked := Try.checked }
namespace Rows
def none {H : Type} : Left H := { results := [], args := [] }

/-- 'zzlaws_pkg_h1_b1.FnHeadEndIsFirstHeadEnd': WHATEVER THE INPUT: true; the input reads as it did. -/
def fnHeadEndIsFirstHeadEndSpec : ChangeSpec := { name := "fnHeadEndIsFirstHeadEnd", fn := fun _ => fun
  | [d1, d2] => { results := [.lit (.bool true)], args := [d1, d2] }
  | _ => none }
def fnHeadEndIsFirstHeadEndRow : OpenClaim := { program := "qxb6617066a", sum := "6eecde814e97e4d09b7ead1faabc5bf44bcdbdf6a5b2fd7211da2c05d3094310", func := "example.com/limpet/limpet/zzlaws_pkg_h1_b1.FnHeadEndIsFirstHeadEnd", spec := "fnHeadEndIsFirstHeadEnd", inPlace := ["internal/bytealg.IndexByte"], apart := false }
def FnHeadEndIsFirstHeadEndSaid : Prop := fnHeadEndIsFirstHeadEndRow.holds Try.pinned (OpenSpec.ofChange fnHeadEndIsFirstHeadEndSpec)

/-- ITS FALSE NEIGHBOUR: 'it returns false'. Refute it at one input. -/
def fnHeadEndIsFirstHeadEndWrong : ChangeSpec := { name := "fnHeadEndIsFirstHeadEnd", fn := fun _ => fun
  | [d1, d2] => { results := [.lit (.bool false)], args := [d1, d2] }
  | _ => none }
def FnHeadEndIsFirstHeadEndWrongFalsely : Prop := fnHeadEndIsFirstHeadEndRow.holds Try.pinned (OpenSpec.ofChange fnHeadEndIsFirstHeadEndWrong)

/-- 'zzlaws_pkg_h1_b1.FnHeadEndResumesAfterAShortRead': WHATEVER THE INPUT: true; the input reads as it did. -/
def fnHeadEndResumesAfterAShortReadSpec : ChangeSpec := { name := "fnHeadEndResumesAfterAShortRead", fn := fun _ => fun
  | [d1, d2, d3] => { results := [.lit (.bool true)], args := [d1, d2, d3] }
  | _ => none }
def fnHeadEndResumesAfterAShortReadRow : OpenClaim := { program := "qxb6617066a", sum := "6eecde814e97e4d09b7ead1faabc5bf44bcdbdf6a5b2fd7211da2c05d3094310", func := "example.com/limpet/limpet/zzlaws_pkg_h1_b1.FnHeadEndResumesAfterAShortRead", spec := "fnHeadEndResumesAfterAShortRead", inPlace := ["internal/bytealg.IndexByte"], apart := false }
def FnHeadEndResumesAfterAShortReadSaid : Prop := fnHeadEndResumesAfterAShortReadRow.holds Try.pinned (OpenSpec.ofChange fnHeadEndResumesAfterAShortReadSpec)

/-- ITS FALSE NEIGHBOUR: 'it returns false'. Refute it at one input. -/
def fnHeadEndResumesAfterAShortReadWrong : ChangeSpec := { name := "fnHeadEndResumesAfterAShortRead", fn := fun _ => fun
  | [d1, d2, d3] => { results := [.lit (.bool false)], args := [d1, d2, d3] }
  | _ => none }
def FnHeadEndResumesAfterAShortReadWrongFalsely : Prop := fnHeadEndResumesAfterAShortReadRow.holds Try.pinned (OpenSpec.ofChange fnHeadEndResumesAfterAShortReadWrong)

/-- 'zzlaws_pkg_h1_b1.FnStepReadsAChunkSizeLine': WHATEVER THE INPUT: true; the input reads as it did. -/
def fnStepReadsAChunkSizeLineSpec : ChangeSpec := { name := "fnStepReadsAChunkSizeLine", fn := fun _ => fun
  | [d1, d2, d3, d4, d5, d6, d7, d8] => { results := [.lit (.bool true)], args := [d1, d2, d3, d4, d5, d6, d7, d8] }
  | _ => none }
def fnStepReadsAChunkSizeLineRow : OpenClaim := { program := "qxb6617066a", sum := "6eecde814e97e4d09b7ead1faabc5bf44bcdbdf6a5b2fd7211da2c05d3094310", func := "example.com/limpet/limpet/zzlaws_pkg_h1_b1.FnStepReadsAChunkSizeLine", spec := "fnStepReadsAChunkSizeLine", apart := false }
def FnStepReadsAChunkSizeLineSaid : Prop := fnStepReadsAChunkSizeLineRow.holds Try.pinned (OpenSpec.ofChange fnStepReadsAChunkSizeLineSpec)

/-- ITS FALSE NEIGHBOUR: 'it returns false'. Refute it at one input. -/
def fnStepReadsAChunkSizeLineWrong : ChangeSpec := { name := "fnStepReadsAChunkSizeLine", fn := fun _ => fun
  | [d1, d2, d3, d4, d5, d6, d7, d8] => { results := [.lit (.bool false)], args := [d1, d2, d3, d4, d5, d6, d7, d8] }
  | _ => none }
def FnStepReadsAChunkSizeLineWrongFalsely : Prop := fnStepReadsAChunkSizeLineRow.holds Try.pinned (OpenSpec.ofChange fnStepReadsAChunkSizeLineWrong)

end Rows
end Go.Proofs.Qxb6617066a
