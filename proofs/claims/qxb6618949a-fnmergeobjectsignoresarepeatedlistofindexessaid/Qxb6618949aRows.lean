/-
  No cell of these rows narrows 'for every input' (looked for: loops, veiled, ifaces, maps, wideKeys, modest, calm, conditions, laid).
  DERIVED. THE GIVEN ROWS OF THIS SEAT. 3 by the template 'for every input the law returns true; each argument reads behind the call as it read before'; 0 by the template 'total and deterministic' (their statements: Qxb6618949aTotals.lean).
  GIVEN WITH THE SEED: the statements are not yours to turn. If you find one false, say at which input.
  Laid BY PROGRAM, IN A SANDBOX (cutbox-rows.mjs): the forced cells as the released guide's own fill.sh prints them over the translation fdd710c61e25ae1f… (all of the seat's roots in one cut). By AI agents, Wed Nov 11 2026. No macro, syntax, notation, axiom, sorry.
-/
import Derived.Test.Qxb6618949aChecked
import GoSem.Claim
import GoSem.ClaimJoined
import GoSem.ClaimMapViews
import Derived.JoinedTies
import Derived.KernelRfl
namespace Go.Proofs.Qxb6618949a
/- THE CELL 'sum', in the pinned program and in every row, IS THE sha256 OF THE DUMP (.gsa) THAT Qxb6618949aProg.lean LOADS. Nothing in Lean hashes anything: it is a label: what it is worth is what the hold of that sum in a sandbox is worth. -/
noncomputable def Try.pinned : Pinned := { name := "qxb6618949a", sum := "fdd710c61e25ae1f2ddb549e0246ade69065e3f60402e75abb8cdb76dacd7ddc", checked := Try.checked }
namespace Rows
def none {H : Type} : Left H := { results := [], args := [] }

/-- 'zzlaws_root_b1.FnMergeObjectsListsTheFirstRowOfEveryNameInOrder': WHATEVER THE INPUT: true; the input reads as it did. -/
def fnMergeObjectsListsTheFirstRowOfEveryNameInOrderSpec : ChangeSpec := { name := "fnMergeObjectsListsTheFirstRowOfEveryNameInOrder", fn := fun _ => fun
  | [d1, d2, d3] => { results := [.lit (.bool true)], args := [d1, d2, d3] }
  | _ => none }
def fnMergeObjectsListsTheFirstRowOfEveryNameInOrderRow : OpenClaim := { program := "qxb6618949a", sum := "fdd710c61e25ae1f2ddb549e0246ade69065e3f60402e75abb8cdb76dacd7ddc", func := "example.com/packlode/packlode/zzlaws_root_b1.FnMergeObjectsListsTheFirstRowOfEveryNameInOrder", spec := "fnMergeObjectsListsTheFirstRowOfEveryNameInOrder", unfollowed := true, recurses := true, apart := false }
def FnMergeObjectsListsTheFirstRowOfEveryNameInOrderSaid : Prop := fnMergeObjectsListsTheFirstRowOfEveryNameInOrderRow.holds Try.pinned (OpenSpec.ofChange fnMergeObjectsListsTheFirstRowOfEveryNameInOrderSpec)

/-- ITS FALSE NEIGHBOUR: 'it returns false'. Refute it at one input. -/
def fnMergeObjectsListsTheFirstRowOfEveryNameInOrderWrong : ChangeSpec := { name := "fnMergeObjectsListsTheFirstRowOfEveryNameInOrder", fn := fun _ => fun
  | [d1, d2, d3] => { results := [.lit (.bool false)], args := [d1, d2, d3] }
  | _ => none }
def FnMergeObjectsListsTheFirstRowOfEveryNameInOrderWrongFalsely : Prop := fnMergeObjectsListsTheFirstRowOfEveryNameInOrderRow.holds Try.pinned (OpenSpec.ofChange fnMergeObjectsListsTheFirstRowOfEveryNameInOrderWrong)

/-- 'zzlaws_root_b1.FnMergeObjectsIgnoresARepeatedListOfIndexes': WHATEVER THE INPUT: true; the input reads as it did. -/
def fnMergeObjectsIgnoresARepeatedListOfIndexesSpec : ChangeSpec := { name := "fnMergeObjectsIgnoresARepeatedListOfIndexes", fn := fun _ => fun
  | [d1, d2, d3] => { results := [.lit (.bool true)], args := [d1, d2, d3] }
  | _ => none }
def fnMergeObjectsIgnoresARepeatedListOfIndexesRow : OpenClaim := { program := "qxb6618949a", sum := "fdd710c61e25ae1f2ddb549e0246ade69065e3f60402e75abb8cdb76dacd7ddc", func := "example.com/packlode/packlode/zzlaws_root_b1.FnMergeObjectsIgnoresARepeatedListOfIndexes", spec := "fnMergeObjectsIgnoresARepeatedListOfIndexes", unfollowed := true, recurses := true, apart := false }
def FnMergeObjectsIgnoresARepeatedListOfIndexesSaid : Prop := fnMergeObjectsIgnoresARepeatedListOfIndexesRow.holds Try.pinned (OpenSpec.ofChange fnMergeObjectsIgnoresARepeatedListOfIndexesSpec)

/-- ITS FALSE NEIGHBOUR: 'it returns false'. Refute it at one input. -/
def fnMergeObjectsIgnoresARepeatedListOfIndexesWrong : ChangeSpec := { name := "fnMergeObjectsIgnoresARepeatedListOfIndexes", fn := fun _ => fun
  | [d1, d2, d3] => { results := [.lit (.bool false)], args := [d1, d2, d3] }
  | _ => none }
def FnMergeObjectsIgnoresARepeatedListOfIndexesWrongFalsely : Prop := fnMergeObjectsIgnoresARepeatedListOfIndexesRow.holds Try.pinned (OpenSpec.ofChange fnMergeObjectsIgnoresARepeatedListOfIndexesWrong)

/-- 'zzlaws_root_b1.FnNameCompareSeesSwappedRows': WHATEVER THE INPUT: true; the input reads as it did. -/
def fnNameCompareSeesSwappedRowsSpec : ChangeSpec := { name := "fnNameCompareSeesSwappedRows", fn := fun _ => fun
  | [d1, d2, d3, d4, d5] => { results := [.lit (.bool true)], args := [d1, d2, d3, d4, d5] }
  | _ => none }
def fnNameCompareSeesSwappedRowsRow : OpenClaim := { program := "qxb6618949a", sum := "fdd710c61e25ae1f2ddb549e0246ade69065e3f60402e75abb8cdb76dacd7ddc", func := "example.com/packlode/packlode/zzlaws_root_b1.FnNameCompareSeesSwappedRows", spec := "fnNameCompareSeesSwappedRows", inPlace := ["internal/bytealg.Compare"], apart := false }
def FnNameCompareSeesSwappedRowsSaid : Prop := fnNameCompareSeesSwappedRowsRow.holds Try.pinned (OpenSpec.ofChange fnNameCompareSeesSwappedRowsSpec)

/-- ITS FALSE NEIGHBOUR: 'it returns false'. Refute it at one input. -/
def fnNameCompareSeesSwappedRowsWrong : ChangeSpec := { name := "fnNameCompareSeesSwappedRows", fn := fun _ => fun
  | [d1, d2, d3, d4, d5] => { results := [.lit (.bool false)], args := [d1, d2, d3, d4, d5] }
  | _ => none }
def FnNameCompareSeesSwappedRowsWrongFalsely : Prop := fnNameCompareSeesSwappedRowsRow.holds Try.pinned (OpenSpec.ofChange fnNameCompareSeesSwappedRowsWrong)

end Rows
end Go.Proofs.Qxb6618949a
