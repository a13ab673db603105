/-
  No cell of these rows narrows 'for every input' (looked for: loops, veiled, ifaces, maps, wideKeys, modest, calm, conditions, laid).
  DERIVED. THE GIVEN ROWS OF THIS SEAT. 1 by the template 'for every input the law returns true; each argument reads behind the call as it read before'; 0 by the template 'total and deterministic' (their statements: Qxb6616150aTotals.lean).
  GIVEN WITH THE SEED: the statements are not yours to turn. If you find one false, say at which input.
  Laid BY PROGRAM, IN A SANDBOX (cutbox-rows.mjs): the forced cells as the released guide's own fill.sh prints them over the translation 1b5aff4300bda5d9… (all of the seat's roots in one cut). By AI agents, Wed Nov 11 2026. No macro, syntax, notation, axiom, sorry.
-/
import Derived.Test.Qxb6616150aChecked
import GoSem.Claim
import GoSem.ClaimJoined
import GoSem.ClaimMapViews
import Derived.JoinedTies
import Derived.KernelRfl
namespace Go.Proofs.Qxb6616150a
/- THE CELL 'sum', in the pinned program and in every row, IS THE sha256 OF THE DUMP (.gsa) THAT Qxb6616150aProg.lean LOADS. Nothing in Lean hashes anything: it is a label: what it is worth is what the hold of that sum in a sandbox is worth. -/
noncomputable def Try.pinned : Pinned := { name := "qxb6616150a", sum := "1b5aff4300bda5d95d61e7ac4b8a901c267aed4efee6ea0a61f90cac3f0dd4a3", checked := Try.checked }
namespace Rows
def none {H : Type} : Left H := { results := [], args := [] }

/-- 'zzlaws_root_b1.FnFlowStepsOnlyAtFlowSeq': WHATEVER THE INPUT: true; the input reads as it did. -/
def fnFlowStepsOnlyAtFlowSeqSpec : ChangeSpec := { name := "fnFlowStepsOnlyAtFlowSeq", fn := fun _ => fun
  | [d] => { results := [.lit (.bool true)], args := [d] }
  | _ => none }
def fnFlowStepsOnlyAtFlowSeqRow : OpenClaim := { program := "qxb6616150a", sum := "1b5aff4300bda5d95d61e7ac4b8a901c267aed4efee6ea0a61f90cac3f0dd4a3", func := "example.com/diligent-parser/diligent-parser/zzlaws_root_b1.FnFlowStepsOnlyAtFlowSeq", spec := "fnFlowStepsOnlyAtFlowSeq", apart := false }
def FnFlowStepsOnlyAtFlowSeqSaid : Prop := fnFlowStepsOnlyAtFlowSeqRow.holds Try.pinned (OpenSpec.ofChange fnFlowStepsOnlyAtFlowSeqSpec)

/-- ITS FALSE NEIGHBOUR: 'it returns false'. Refute it at one input. -/
def fnFlowStepsOnlyAtFlowSeqWrong : ChangeSpec := { name := "fnFlowStepsOnlyAtFlowSeq", fn := fun _ => fun
  | [d] => { results := [.lit (.bool false)], args := [d] }
  | _ => none }
def FnFlowStepsOnlyAtFlowSeqWrongFalsely : Prop := fnFlowStepsOnlyAtFlowSeqRow.holds Try.pinned (OpenSpec.ofChange fnFlowStepsOnlyAtFlowSeqWrong)

end Rows
end Go.Proofs.Qxb6616150a
