/-
  No cell of these rows narrows 'for every input' (looked for: loops, veiled, ifaces, maps, wideKeys, modest, calm, conditions, laid).
  DERIVED. THE GIVEN ROWS OF THIS SEAT. 7 by the template 'for every input the law returns true; each argument reads behind the call as it read before'; 0 by the template 'total and deterministic' (their statements: Qxb6000463aTotals.lean).
  GIVEN WITH THE SEED: the statements are not yours to turn. If you find one false, say at which input.
  Laid BY PROGRAM, IN A SANDBOX (cutbox-rows.mjs): the forced cells as the released guide's own fill.sh prints them over the translation 8992a2074ceecd0e… (all of the seat's roots in one cut). By AI agents, Wed Nov 11 2026. No macro, syntax, notation, axiom, sorry.
-/
import Derived.Test.Qxb6000463aChecked
import GoSem.Claim
import GoSem.ClaimJoined
import GoSem.ClaimMapViews
import Derived.JoinedTies
import Derived.KernelRfl
namespace Go.Proofs.Qxb6000463a
/- THE CELL 'sum', in the pinned program and in every row, IS THE sha256 OF THE DUMP (.gsa) THAT Qxb6000463aProg.lean LOADS. Nothing in Lean hashes anything: it is a label: what it is worth is what the hold of that sum in a sandbox is worth. -/
noncomputable def Try.pinned : Pinned := { name := "qxb6000463a", sum := "8992a2074ceecd0e7b0281e4930e630aa2913c3c8b8ddbb85da279626ec2f23c", checked := Try.checked }
namespace Rows
def none {H : Type} : Left H := { results := [], args := [] }

/-- 'zzlaws_internal_catalog_b1.FnRenamesNamesTheOneEditExactly': WHATEVER THE INPUT: true; the input reads as it did. -/
def fnRenamesNamesTheOneEditExactlySpec : ChangeSpec := { name := "fnRenamesNamesTheOneEditExactly", fn := fun _ => fun
  | [d1, d2, d3, d4, d5, d6, d7, d8] => { results := [.lit (.bool true)], args := [d1, d2, d3, d4, d5, d6, d7, d8] }
  | _ => none }
def fnRenamesNamesTheOneEditExactlyRow : OpenClaim := { program := "qxb6000463a", sum := "8992a2074ceecd0e7b0281e4930e630aa2913c3c8b8ddbb85da279626ec2f23c", func := "example.com/orrery/orrery/zzlaws_internal_catalog_b1.FnRenamesNamesTheOneEditExactly", spec := "fnRenamesNamesTheOneEditExactly", apart := false }
def FnRenamesNamesTheOneEditExactlySaid : Prop := fnRenamesNamesTheOneEditExactlyRow.holds Try.pinned (OpenSpec.ofChange fnRenamesNamesTheOneEditExactlySpec)

/-- ITS FALSE NEIGHBOUR: 'it returns false'. Refute it at one input. -/
def fnRenamesNamesTheOneEditExactlyWrong : ChangeSpec := { name := "fnRenamesNamesTheOneEditExactly", fn := fun _ => fun
  | [d1, d2, d3, d4, d5, d6, d7, d8] => { results := [.lit (.bool false)], args := [d1, d2, d3, d4, d5, d6, d7, d8] }
  | _ => none }
def FnRenamesNamesTheOneEditExactlyWrongFalsely : Prop := fnRenamesNamesTheOneEditExactlyRow.holds Try.pinned (OpenSpec.ofChange fnRenamesNamesTheOneEditExactlyWrong)

/-- 'zzlaws_internal_catalog_b1.FnRenamesBackwardsSwapsWasAndIs': WHATEVER THE INPUT: true; the input reads as it did. -/
def fnRenamesBackwardsSwapsWasAndIsSpec : ChangeSpec := { name := "fnRenamesBackwardsSwapsWasAndIs", fn := fun _ => fun
  | [d1, d2] => { results := [.lit (.bool true)], args := [d1, d2] }
  | _ => none }
def fnRenamesBackwardsSwapsWasAndIsRow : OpenClaim := { program := "qxb6000463a", sum := "8992a2074ceecd0e7b0281e4930e630aa2913c3c8b8ddbb85da279626ec2f23c", func := "example.com/orrery/orrery/zzlaws_internal_catalog_b1.FnRenamesBackwardsSwapsWasAndIs", spec := "fnRenamesBackwardsSwapsWasAndIs", apart := false }
def FnRenamesBackwardsSwapsWasAndIsSaid : Prop := fnRenamesBackwardsSwapsWasAndIsRow.holds Try.pinned (OpenSpec.ofChange fnRenamesBackwardsSwapsWasAndIsSpec)

/-- ITS FALSE NEIGHBOUR: 'it returns false'. Refute it at one input. -/
def fnRenamesBackwardsSwapsWasAndIsWrong : ChangeSpec := { name := "fnRenamesBackwardsSwapsWasAndIs", fn := fun _ => fun
  | [d1, d2] => { results := [.lit (.bool false)], args := [d1, d2] }
  | _ => none }
def FnRenamesBackwardsSwapsWasAndIsWrongFalsely : Prop := fnRenamesBackwardsSwapsWasAndIsRow.holds Try.pinned (OpenSpec.ofChange fnRenamesBackwardsSwapsWasAndIsWrong)

/-- 'zzlaws_internal_catalog_b1.FnKeyColumnsListsEachSoleKeyColumnOnce': WHATEVER THE INPUT: true; the input reads as it did. -/
def fnKeyColumnsListsEachSoleKeyColumnOnceSpec : ChangeSpec := { name := "fnKeyColumnsListsEachSoleKeyColumnOnce", fn := fun _ => fun
  | [d] => { results := [.lit (.bool true)], args := [d] }
  | _ => none }
def fnKeyColumnsListsEachSoleKeyColumnOnceRow : OpenClaim := { program := "qxb6000463a", sum := "8992a2074ceecd0e7b0281e4930e630aa2913c3c8b8ddbb85da279626ec2f23c", func := "example.com/orrery/orrery/zzlaws_internal_catalog_b1.FnKeyColumnsListsEachSoleKeyColumnOnce", spec := "fnKeyColumnsListsEachSoleKeyColumnOnce", apart := false }
def FnKeyColumnsListsEachSoleKeyColumnOnceSaid : Prop := fnKeyColumnsListsEachSoleKeyColumnOnceRow.holds Try.pinned (OpenSpec.ofChange fnKeyColumnsListsEachSoleKeyColumnOnceSpec)

/-- ITS FALSE NEIGHBOUR: 'it returns false'. Refute it at one input. -/
def fnKeyColumnsListsEachSoleKeyColumnOnceWrong : ChangeSpec := { name := "fnKeyColumnsListsEachSoleKeyColumnOnce", fn := fun _ => fun
  | [d] => { results := [.lit (.bool false)], args := [d] }
  | _ => none }
def FnKeyColumnsListsEachSoleKeyColumnOnceWrongFalsely : Prop := fnKeyColumnsListsEachSoleKeyColumnOnceRow.holds Try.pinned (OpenSpec.ofChange fnKeyColumnsListsEachSoleKeyColumnOnceWrong)

/-- 'zzlaws_internal_catalog_b1.FnKeyColumnsKeepsEveryColumnWhenAKeyIsAdded': WHATEVER THE INPUT: true; the input reads as it did. -/
def fnKeyColumnsKeepsEveryColumnWhenAKeyIsAddedSpec : ChangeSpec := { name := "fnKeyColumnsKeepsEveryColumnWhenAKeyIsAdded", fn := fun _ => fun
  | [d1, d2, d3] => { results := [.lit (.bool true)], args := [d1, d2, d3] }
  | _ => none }
def fnKeyColumnsKeepsEveryColumnWhenAKeyIsAddedRow : OpenClaim := { program := "qxb6000463a", sum := "8992a2074ceecd0e7b0281e4930e630aa2913c3c8b8ddbb85da279626ec2f23c", func := "example.com/orrery/orrery/zzlaws_internal_catalog_b1.FnKeyColumnsKeepsEveryColumnWhenAKeyIsAdded", spec := "fnKeyColumnsKeepsEveryColumnWhenAKeyIsAdded", apart := false }
def FnKeyColumnsKeepsEveryColumnWhenAKeyIsAddedSaid : Prop := fnKeyColumnsKeepsEveryColumnWhenAKeyIsAddedRow.holds Try.pinned (OpenSpec.ofChange fnKeyColumnsKeepsEveryColumnWhenAKeyIsAddedSpec)

/-- ITS FALSE NEIGHBOUR: 'it returns false'. Refute it at one input. -/
def fnKeyColumnsKeepsEveryColumnWhenAKeyIsAddedWrong : ChangeSpec := { name := "fnKeyColumnsKeepsEveryColumnWhenAKeyIsAdded", fn := fun _ => fun
  | [d1, d2, d3] => { results := [.lit (.bool false)], args := [d1, d2, d3] }
  | _ => none }
def FnKeyColumnsKeepsEveryColumnWhenAKeyIsAddedWrongFalsely : Prop := fnKeyColumnsKeepsEveryColumnWhenAKeyIsAddedRow.holds Try.pinned (OpenSpec.ofChange fnKeyColumnsKeepsEveryColumnWhenAKeyIsAddedWrong)

/-- 'zzlaws_internal_catalog_b1.FnKeyColumnsOfJoinedCatalogsIsJoined': WHATEVER THE INPUT: true; the input reads as it did. -/
def fnKeyColumnsOfJoinedCatalogsIsJoinedSpec : ChangeSpec := { name := "fnKeyColumnsOfJoinedCatalogsIsJoined", fn := fun _ => fun
  | [d1, d2] => { results := [.lit (.bool true)], args := [d1, d2] }
  | _ => none }
def fnKeyColumnsOfJoinedCatalogsIsJoinedRow : OpenClaim := { program := "qxb6000463a", sum := "8992a2074ceecd0e7b0281e4930e630aa2913c3c8b8ddbb85da279626ec2f23c", func := "example.com/orrery/orrery/zzlaws_internal_catalog_b1.FnKeyColumnsOfJoinedCatalogsIsJoined", spec := "fnKeyColumnsOfJoinedCatalogsIsJoined", apart := false }
def FnKeyColumnsOfJoinedCatalogsIsJoinedSaid : Prop := fnKeyColumnsOfJoinedCatalogsIsJoinedRow.holds Try.pinned (OpenSpec.ofChange fnKeyColumnsOfJoinedCatalogsIsJoinedSpec)

/-- ITS FALSE NEIGHBOUR: 'it returns false'. Refute it at one input. -/
def fnKeyColumnsOfJoinedCatalogsIsJoinedWrong : ChangeSpec := { name := "fnKeyColumnsOfJoinedCatalogsIsJoined", fn := fun _ => fun
  | [d1, d2] => { results := [.lit (.bool false)], args := [d1, d2] }
  | _ => none }
def FnKeyColumnsOfJoinedCatalogsIsJoinedWrongFalsely : Prop := fnKeyColumnsOfJoinedCatalogsIsJoinedRow.holds Try.pinned (OpenSpec.ofChange fnKeyColumnsOfJoinedCatalogsIsJoinedWrong)

/-- 'zzlaws_internal_catalog_b1.FnWrittenColumnsGivesTheLastHoldersWrittenName': WHATEVER THE INPUT: true; the input reads as it did. -/
def fnWrittenColumnsGivesTheLastHoldersWrittenNameSpec : ChangeSpec := { name := "fnWrittenColumnsGivesTheLastHoldersWrittenName", fn := fun _ => fun
  | [d1, d2] => { results := [.lit (.bool true)], args := [d1, d2] }
  | _ => none }
def fnWrittenColumnsGivesTheLastHoldersWrittenNameRow : OpenClaim := { program := "qxb6000463a", sum := "8992a2074ceecd0e7b0281e4930e630aa2913c3c8b8ddbb85da279626ec2f23c", func := "example.com/orrery/orrery/zzlaws_internal_catalog_b1.FnWrittenColumnsGivesTheLastHoldersWrittenName", spec := "fnWrittenColumnsGivesTheLastHoldersWrittenName", apart := false }
def FnWrittenColumnsGivesTheLastHoldersWrittenNameSaid : Prop := fnWrittenColumnsGivesTheLastHoldersWrittenNameRow.holds Try.pinned (OpenSpec.ofChange fnWrittenColumnsGivesTheLastHoldersWrittenNameSpec)

/-- ITS FALSE NEIGHBOUR: 'it returns false'. Refute it at one input. -/
def fnWrittenColumnsGivesTheLastHoldersWrittenNameWrong : ChangeSpec := { name := "fnWrittenColumnsGivesTheLastHoldersWrittenName", fn := fun _ => fun
  | [d1, d2] => { results := [.lit (.bool false)], args := [d1, d2] }
  | _ => none }
def FnWrittenColumnsGivesTheLastHoldersWrittenNameWrongFalsely : Prop := fnWrittenColumnsGivesTheLastHoldersWrittenNameRow.holds Try.pinned (OpenSpec.ofChange fnWrittenColumnsGivesTheLastHoldersWrittenNameWrong)

/-- 'zzlaws_internal_catalog_b1.FnWrittenColumnsUndoneByTheSwappedTable': WHATEVER THE INPUT: true; the input reads as it did. -/
def fnWrittenColumnsUndoneByTheSwappedTableSpec : ChangeSpec := { name := "fnWrittenColumnsUndoneByTheSwappedTable", fn := fun _ => fun
  | [d1, d2] => { results := [.lit (.bool true)], args := [d1, d2] }
  | _ => none }
def fnWrittenColumnsUndoneByTheSwappedTableRow : OpenClaim := { program := "qxb6000463a", sum := "8992a2074ceecd0e7b0281e4930e630aa2913c3c8b8ddbb85da279626ec2f23c", func := "example.com/orrery/orrery/zzlaws_internal_catalog_b1.FnWrittenColumnsUndoneByTheSwappedTable", spec := "fnWrittenColumnsUndoneByTheSwappedTable", apart := false }
def FnWrittenColumnsUndoneByTheSwappedTableSaid : Prop := fnWrittenColumnsUndoneByTheSwappedTableRow.holds Try.pinned (OpenSpec.ofChange fnWrittenColumnsUndoneByTheSwappedTableSpec)

/-- ITS FALSE NEIGHBOUR: 'it returns false'. Refute it at one input. -/
def fnWrittenColumnsUndoneByTheSwappedTableWrong : ChangeSpec := { name := "fnWrittenColumnsUndoneByTheSwappedTable", fn := fun _ => fun
  | [d1, d2] => { results := [.lit (.bool false)], args := [d1, d2] }
  | _ => none }
def FnWrittenColumnsUndoneByTheSwappedTableWrongFalsely : Prop := fnWrittenColumnsUndoneByTheSwappedTableRow.holds Try.pinned (OpenSpec.ofChange fnWrittenColumnsUndoneByTheSwappedTableWrong)

end Rows
end Go.Proofs.Qxb6000463a
