/-
  No cell of these rows narrows 'for every input' (looked for: loops, veiled, ifaces, maps, wideKeys, modest, calm, conditions, laid).
  DERIVED. THE GIVEN ROWS OF THIS SEAT. 2 by the template 'for every input the law returns true; each argument reads behind the call as it read before'; 0 by the template 'total and deterministic' (their statements: Qxb6616119aTotals.lean).
  GIVEN WITH THE SEED: the statements are not yours to turn. If you find one false, say at which input.
  Laid BY PROGRAM, IN A SANDBOX (cutbox-rows.mjs): the forced cells as the released guide's own fill.sh prints them over the translation 2b0f1afba4674dc1… (all of the seat's roots in one cut). By AI agents, Wed Nov 11 2026. No macro, syntax, notation, axiom, sorry.
-/
import Derived.Test.Qxb6616119aChecked
import GoSem.Claim
import GoSem.ClaimJoined
import GoSem.ClaimMapViews
import Derived.JoinedTies
import Derived.KernelRfl
namespace Go.Proofs.Qxb6616119a
/- THE CELL 'sum', in the pinned program and in every row, IS THE sha256 OF THE DUMP (.gsa) THAT Qxb6616119aProg.lean LOADS. Nothing in Lean hashes anything: it is a label: what it is worth is what the hold of that sum in a sandbox is worth. -/
noncomputable def Try.pinned : Pinned := { name := "qxb6616119a", sum := "2b0f1afba4674dc1efc224b2d36f787812667c6b53c4f04b2af1acabdafb804b", checked := Try.checked }
namespace Rows
def none {H : Type} : Left H := { results := [], args := [] }

/-- 'zzlaws_internal_tas_b1.FnProductsWithListsSelectedSortedAnyOrder': WHATEVER THE INPUT: true; the input reads as it did. -/
def fnProductsWithListsSelectedSortedAnyOrderSpec : ChangeSpec := { name := "fnProductsWithListsSelectedSortedAnyOrder", fn := fun _ => fun
  | [d1, d2, d3] => { results := [.lit (.bool true)], args := [d1, d2, d3] }
  | _ => none }
def fnProductsWithListsSelectedSortedAnyOrderRow : OpenClaim := { program := "qxb6616119a", sum := "2b0f1afba4674dc1efc224b2d36f787812667c6b53c4f04b2af1acabdafb804b", func := "example.com/redline-ledger/redline-ledger/zzlaws_internal_tas_b1.FnProductsWithListsSelectedSortedAnyOrder", spec := "fnProductsWithListsSelectedSortedAnyOrder", inPlace := ["internal/abi.NoEscape", "internal/bytealg.MakeNoZero"], unfollowed := true, recurses := true, apart := false }
def FnProductsWithListsSelectedSortedAnyOrderSaid : Prop := fnProductsWithListsSelectedSortedAnyOrderRow.holds Try.pinned (OpenSpec.ofChange fnProductsWithListsSelectedSortedAnyOrderSpec)

/-- ITS FALSE NEIGHBOUR: 'it returns false'. Refute it at one input. -/
def fnProductsWithListsSelectedSortedAnyOrderWrong : ChangeSpec := { name := "fnProductsWithListsSelectedSortedAnyOrder", fn := fun _ => fun
  | [d1, d2, d3] => { results := [.lit (.bool false)], args := [d1, d2, d3] }
  | _ => none }
def FnProductsWithListsSelectedSortedAnyOrderWrongFalsely : Prop := fnProductsWithListsSelectedSortedAnyOrderRow.holds Try.pinned (OpenSpec.ofChange fnProductsWithListsSelectedSortedAnyOrderWrong)

/-- 'zzlaws_internal_tas_b1.FnProductsWithSplitAtAnyCutAddsOneSeparator': WHATEVER THE INPUT: true; the input reads as it did. -/
def fnProductsWithSplitAtAnyCutAddsOneSeparatorSpec : ChangeSpec := { name := "fnProductsWithSplitAtAnyCutAddsOneSeparator", fn := fun _ => fun
  | [d1, d2, d3] => { results := [.lit (.bool true)], args := [d1, d2, d3] }
  | _ => none }
def fnProductsWithSplitAtAnyCutAddsOneSeparatorRow : OpenClaim := { program := "qxb6616119a", sum := "2b0f1afba4674dc1efc224b2d36f787812667c6b53c4f04b2af1acabdafb804b", func := "example.com/redline-ledger/redline-ledger/zzlaws_internal_tas_b1.FnProductsWithSplitAtAnyCutAddsOneSeparator", spec := "fnProductsWithSplitAtAnyCutAddsOneSeparator", inPlace := ["internal/abi.NoEscape", "internal/bytealg.MakeNoZero"], unfollowed := true, recurses := true, apart := false }
def FnProductsWithSplitAtAnyCutAddsOneSeparatorSaid : Prop := fnProductsWithSplitAtAnyCutAddsOneSeparatorRow.holds Try.pinned (OpenSpec.ofChange fnProductsWithSplitAtAnyCutAddsOneSeparatorSpec)

/-- ITS FALSE NEIGHBOUR: 'it returns false'. Refute it at one input. -/
def fnProductsWithSplitAtAnyCutAddsOneSeparatorWrong : ChangeSpec := { name := "fnProductsWithSplitAtAnyCutAddsOneSeparator", fn := fun _ => fun
  | [d1, d2, d3] => { results := [.lit (.bool false)], args := [d1, d2, d3] }
  | _ => none }
def FnProductsWithSplitAtAnyCutAddsOneSeparatorWrongFalsely : Prop := fnProductsWithSplitAtAnyCutAddsOneSeparatorRow.holds Try.pinned (OpenSpec.ofChange fnProductsWithSplitAtAnyCutAddsOneSeparatorWrong)

end Rows
end Go.Proofs.Qxb6616119a
