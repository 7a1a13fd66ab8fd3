/-
  TWO CLOSED FACTS OF 'Rows.FnKeyColumnsKeepsEveryColumnWhenAKeyIsAddedSaid' (in a text of their own: the kernel's memory).
-/
import Derived.Test.Qxb6000463aRows
import Derived.WalkKit
import Derived.ProofKit
import Derived.OpenShut
import Derived.ShutString
import Derived.ChangeOld
import Derived.Below
namespace Go.Proofs.Qxb6000463a.fnKeyColumnsKeepsEveryColumnWhenAKeyIsAdded
open Go.ChangeShapes Go.WideShapes Go.ChangeAt Go.RowKit
set_option linter.unusedVariables false

theorem fact1 : Try.pinned.checked.prog.funcNamed Rows.fnKeyColumnsKeepsEveryColumnWhenAKeyIsAddedRow.func = some 6 := by kernel_rfl
theorem fact2 : joinedFacts Try.pinned.checked.prog 6 Try.f6 Rows.fnKeyColumnsKeepsEveryColumnWhenAKeyIsAddedSpec Rows.fnKeyColumnsKeepsEveryColumnWhenAKeyIsAddedRow = true := by kernel_rfl
end Go.Proofs.Qxb6000463a.fnKeyColumnsKeepsEveryColumnWhenAKeyIsAdded
