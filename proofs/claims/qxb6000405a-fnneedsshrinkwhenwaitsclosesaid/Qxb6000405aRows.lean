/-
  No cell of these rows narrows 'for every input' (looked for: loops, veiled, ifaces, maps, wideKeys, modest, calm, conditions, laid).
  DERIVED. THE GIVEN ROWS OF THIS SEAT. 5 by the template 'for every input the law returns true; each argument reads behind the call as it read before'; 0 by the template 'total and deterministic' (their statements: Qxb6000405aTotals.lean).
  GIVEN WITH THE SEED: the statements are not yours to turn. If you find one false, say at which input.
  Laid BY PROGRAM, IN A SANDBOX (cutbox-rows.mjs): the forced cells as the released guide's own fill.sh prints them over the translation 2b508bf3828e27b6… (all of the seat's roots in one cut). By AI agents, Wed Nov 11 2026. No macro, syntax, notation, axiom, sorry.
-/
import Derived.Test.Qxb6000405aChecked
import GoSem.Claim
import GoSem.ClaimJoined
import GoSem.ClaimMapViews
import Derived.JoinedTies
import Derived.KernelRfl
namespace Go.Proofs.Qxb6000405a
/- THE CELL 'sum', in the pinned program and in every row, IS THE sha256 OF THE DUMP (.gsa) THAT Qxb6000405aProg.lean LOADS. Nothing in Lean hashes anything: it is a label: what it is worth is what the hold of that sum in a sandbox is worth. -/
noncomputable def Try.pinned : Pinned := { name := "qxb6000405a", sum := "2b508bf3828e27b63cef3b042e64006f87907bb75425f8f846fd5e9636292551", checked := Try.checked }
namespace Rows
def none {H : Type} : Left H := { results := [], args := [] }

/-- 'zzlaws_root_b1.FnNeededIsEveryAncestorAnAnd': WHATEVER THE INPUT: true; the input reads as it did. -/
def fnNeededIsEveryAncestorAnAndSpec : ChangeSpec := { name := "fnNeededIsEveryAncestorAnAnd", fn := fun _ => fun
  | [d1, d2, d3] => { results := [.lit (.bool true)], args := [d1, d2, d3] }
  | _ => none }
def fnNeededIsEveryAncestorAnAndRow : OpenClaim := { program := "qxb6000405a", sum := "2b508bf3828e27b63cef3b042e64006f87907bb75425f8f846fd5e9636292551", func := "example.com/knotseer/knotseer/zzlaws_root_b1.FnNeededIsEveryAncestorAnAnd", spec := "fnNeededIsEveryAncestorAnAnd", apart := false }
def FnNeededIsEveryAncestorAnAndSaid : Prop := fnNeededIsEveryAncestorAnAndRow.holds Try.pinned (OpenSpec.ofChange fnNeededIsEveryAncestorAnAndSpec)

/-- ITS FALSE NEIGHBOUR: 'it returns false'. Refute it at one input. -/
def fnNeededIsEveryAncestorAnAndWrong : ChangeSpec := { name := "fnNeededIsEveryAncestorAnAnd", fn := fun _ => fun
  | [d1, d2, d3] => { results := [.lit (.bool false)], args := [d1, d2, d3] }
  | _ => none }
def FnNeededIsEveryAncestorAnAndWrongFalsely : Prop := fnNeededIsEveryAncestorAnAndRow.holds Try.pinned (OpenSpec.ofChange fnNeededIsEveryAncestorAnAndWrong)

/-- 'zzlaws_root_b1.FnNeededNodeFalsifiesRoot': WHATEVER THE INPUT: true; the input reads as it did. -/
def fnNeededNodeFalsifiesRootSpec : ChangeSpec := { name := "fnNeededNodeFalsifiesRoot", fn := fun _ => fun
  | [d1, d2, d3, d4, d5] => { results := [.lit (.bool true)], args := [d1, d2, d3, d4, d5] }
  | _ => none }
def fnNeededNodeFalsifiesRootRow : OpenClaim := { program := "qxb6000405a", sum := "2b508bf3828e27b63cef3b042e64006f87907bb75425f8f846fd5e9636292551", func := "example.com/knotseer/knotseer/zzlaws_root_b1.FnNeededNodeFalsifiesRoot", spec := "fnNeededNodeFalsifiesRoot", apart := false }
def FnNeededNodeFalsifiesRootSaid : Prop := fnNeededNodeFalsifiesRootRow.holds Try.pinned (OpenSpec.ofChange fnNeededNodeFalsifiesRootSpec)

/-- ITS FALSE NEIGHBOUR: 'it returns false'. Refute it at one input. -/
def fnNeededNodeFalsifiesRootWrong : ChangeSpec := { name := "fnNeededNodeFalsifiesRoot", fn := fun _ => fun
  | [d1, d2, d3, d4, d5] => { results := [.lit (.bool false)], args := [d1, d2, d3, d4, d5] }
  | _ => none }
def FnNeededNodeFalsifiesRootWrongFalsely : Prop := fnNeededNodeFalsifiesRootRow.holds Try.pinned (OpenSpec.ofChange fnNeededNodeFalsifiesRootWrong)

/-- 'zzlaws_root_b1.FnNeedsNoneUnderNonAndRoot': WHATEVER THE INPUT: true; the input reads as it did. -/
def fnNeedsNoneUnderNonAndRootSpec : ChangeSpec := { name := "fnNeedsNoneUnderNonAndRoot", fn := fun _ => fun
  | [d1, d2, d3, d4, d5] => { results := [.lit (.bool true)], args := [d1, d2, d3, d4, d5] }
  | _ => none }
def fnNeedsNoneUnderNonAndRootRow : OpenClaim := { program := "qxb6000405a", sum := "2b508bf3828e27b63cef3b042e64006f87907bb75425f8f846fd5e9636292551", func := "example.com/knotseer/knotseer/zzlaws_root_b1.FnNeedsNoneUnderNonAndRoot", spec := "fnNeedsNoneUnderNonAndRoot", apart := false }
def FnNeedsNoneUnderNonAndRootSaid : Prop := fnNeedsNoneUnderNonAndRootRow.holds Try.pinned (OpenSpec.ofChange fnNeedsNoneUnderNonAndRootSpec)

/-- ITS FALSE NEIGHBOUR: 'it returns false'. Refute it at one input. -/
def fnNeedsNoneUnderNonAndRootWrong : ChangeSpec := { name := "fnNeedsNoneUnderNonAndRoot", fn := fun _ => fun
  | [d1, d2, d3, d4, d5] => { results := [.lit (.bool false)], args := [d1, d2, d3, d4, d5] }
  | _ => none }
def FnNeedsNoneUnderNonAndRootWrongFalsely : Prop := fnNeedsNoneUnderNonAndRootRow.holds Try.pinned (OpenSpec.ofChange fnNeedsNoneUnderNonAndRootWrong)

/-- 'zzlaws_root_b1.FnNeedsShrinkWhenWaitsClose': WHATEVER THE INPUT: true; the input reads as it did. -/
def fnNeedsShrinkWhenWaitsCloseSpec : ChangeSpec := { name := "fnNeedsShrinkWhenWaitsClose", fn := fun _ => fun
  | [d1, d2, d3, d4, d5, d6, d7] => { results := [.lit (.bool true)], args := [d1, d2, d3, d4, d5, d6, d7] }
  | _ => none }
def fnNeedsShrinkWhenWaitsCloseRow : OpenClaim := { program := "qxb6000405a", sum := "2b508bf3828e27b63cef3b042e64006f87907bb75425f8f846fd5e9636292551", func := "example.com/knotseer/knotseer/zzlaws_root_b1.FnNeedsShrinkWhenWaitsClose", spec := "fnNeedsShrinkWhenWaitsClose", apart := false }
def FnNeedsShrinkWhenWaitsCloseSaid : Prop := fnNeedsShrinkWhenWaitsCloseRow.holds Try.pinned (OpenSpec.ofChange fnNeedsShrinkWhenWaitsCloseSpec)

/-- ITS FALSE NEIGHBOUR: 'it returns false'. Refute it at one input. -/
def fnNeedsShrinkWhenWaitsCloseWrong : ChangeSpec := { name := "fnNeedsShrinkWhenWaitsClose", fn := fun _ => fun
  | [d1, d2, d3, d4, d5, d6, d7] => { results := [.lit (.bool false)], args := [d1, d2, d3, d4, d5, d6, d7] }
  | _ => none }
def FnNeedsShrinkWhenWaitsCloseWrongFalsely : Prop := fnNeedsShrinkWhenWaitsCloseRow.holds Try.pinned (OpenSpec.ofChange fnNeedsShrinkWhenWaitsCloseWrong)

/-- 'zzlaws_root_b1.FnVictimsInOrderSortedSetOfVictims': WHATEVER THE INPUT: true; the input reads as it did. -/
def fnVictimsInOrderSortedSetOfVictimsSpec : ChangeSpec := { name := "fnVictimsInOrderSortedSetOfVictims", fn := fun _ => fun
  | [d1, d2, d3] => { results := [.lit (.bool true)], args := [d1, d2, d3] }
  | _ => none }
def fnVictimsInOrderSortedSetOfVictimsRow : OpenClaim := { program := "qxb6000405a", sum := "2b508bf3828e27b63cef3b042e64006f87907bb75425f8f846fd5e9636292551", func := "example.com/knotseer/knotseer/zzlaws_root_b1.FnVictimsInOrderSortedSetOfVictims", spec := "fnVictimsInOrderSortedSetOfVictims", apart := false }
def FnVictimsInOrderSortedSetOfVictimsSaid : Prop := fnVictimsInOrderSortedSetOfVictimsRow.holds Try.pinned (OpenSpec.ofChange fnVictimsInOrderSortedSetOfVictimsSpec)

/-- ITS FALSE NEIGHBOUR: 'it returns false'. Refute it at one input. -/
def fnVictimsInOrderSortedSetOfVictimsWrong : ChangeSpec := { name := "fnVictimsInOrderSortedSetOfVictims", fn := fun _ => fun
  | [d1, d2, d3] => { results := [.lit (.bool false)], args := [d1, d2, d3] }
  | _ => none }
def FnVictimsInOrderSortedSetOfVictimsWrongFalsely : Prop := fnVictimsInOrderSortedSetOfVictimsRow.holds Try.pinned (OpenSpec.ofChange fnVictimsInOrderSortedSetOfVictimsWrong)

end Rows
end Go.Proofs.Qxb6000405a
