/-
  No cell of these rows narrows 'for every input' (looked for: loops, veiled, ifaces, maps, wideKeys, modest, calm, conditions, laid).
  DERIVED. THE GIVEN ROWS OF THIS SEAT. 1 by the template 'for every input the law returns true; each argument reads behind the call as it read before'; 0 by the template 'total and deterministic' (their statements: Qxb6615985aTotals.lean).
  GIVEN WITH THE SEED: the statements are not yours to turn. If you find one false, say at which input.
  Laid BY PROGRAM, IN A SANDBOX (cutbox-rows.mjs): the forced cells as the released guide's own fill.sh prints them over the translation e3a6a5cb9ed3c2d1… (all of the seat's roots in one cut). By AI agents, Wed Nov 11 2026. No macro, syntax, notation, axiom, sorry.
-/
import Derived.Test.Qxb6615985aChecked
import GoSem.Claim
import GoSem.ClaimJoined
import GoSem.ClaimMapViews
import Derived.JoinedTies
import Derived.KernelRfl
namespace Go.Proofs.Qxb6615985a
/- THE CELL 'sum', in the pinned program and in every row, IS THE sha256 OF THE DUMP (.gsa) THAT Qxb6615985aProg.lean LOADS. Nothing in Lean hashes anything: it is a label: what it is worth is what the hold of that sum in a sandbox is worth. -/
noncomputable def Try.pinned : Pinned := { name := "qxb6615985a", sum := "e3a6a5cb9ed3c2d12de73f7dfee6a666346bfa53475e3927fdc116449b33d049", checked := Try.checked }
namespace Rows
def none {H : Type} : Left H := { results := [], args := [] }

/-- 'zzlaws_pkg_index_b1.FnSignFlipsWithNegatedFactors': WHATEVER THE INPUT: true; the input reads as it did. -/
def fnSignFlipsWithNegatedFactorsSpec : ChangeSpec := { name := "fnSignFlipsWithNegatedFactors", fn := fun _ => fun
  | [d1, d2] => { results := [.lit (.bool true)], args := [d1, d2] }
  | _ => none }
def fnSignFlipsWithNegatedFactorsRow : OpenClaim := { program := "qxb6615985a", sum := "e3a6a5cb9ed3c2d12de73f7dfee6a666346bfa53475e3927fdc116449b33d049", func := "example.com/nocturne/nocturne/zzlaws_pkg_index_b1.FnSignFlipsWithNegatedFactors", spec := "fnSignFlipsWithNegatedFactors", plainKeys := false, apart := false }
def FnSignFlipsWithNegatedFactorsSaid : Prop := fnSignFlipsWithNegatedFactorsRow.holds Try.pinned (OpenSpec.ofChange fnSignFlipsWithNegatedFactorsSpec)

/-- ITS FALSE NEIGHBOUR: 'it returns false'. Refute it at one input. -/
def fnSignFlipsWithNegatedFactorsWrong : ChangeSpec := { name := "fnSignFlipsWithNegatedFactors", fn := fun _ => fun
  | [d1, d2] => { results := [.lit (.bool false)], args := [d1, d2] }
  | _ => none }
def FnSignFlipsWithNegatedFactorsWrongFalsely : Prop := fnSignFlipsWithNegatedFactorsRow.holds Try.pinned (OpenSpec.ofChange fnSignFlipsWithNegatedFactorsWrong)

end Rows
end Go.Proofs.Qxb6615985a
