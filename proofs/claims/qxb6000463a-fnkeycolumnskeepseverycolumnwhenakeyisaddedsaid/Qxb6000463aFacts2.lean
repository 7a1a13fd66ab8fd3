/-
  TWO CLOSED FACTS OF 'Rows.FnKeyColumnsKeepsEveryColumnWhenAKeyIsAddedSaid' (in a text of their own: the kernel's memory).
-/
import Derived.Test.Qxb6000463aRows
import Derived.WalkKit
import Derived.ProofKit
import Derived.OpenShut
import Derived.ShutString
import Derived.ChangeOld
import Derived.Below
namespace Go.Proofs.Qxb6000463a.fnKeyColumnsKeepsEveryColumnWhenAKeyIsAdded
open Go.ChangeShapes Go.WideShapes Go.ChangeAt Go.RowKit
set_option linter.unusedVariables false

theorem fact1 : Try.pinned.checked.prog.funcNamed Rows.fnKeyColumnsKeepsEveryColumnWhenAKeyIsAddedRow.func = some 6 := by kernel_rfl
set_option maxHeartbeats 4000000 in
theorem fact2 : joinedFacts Try.pinned.checked.prog 6 Try.f6 Rows.fnKeyColumnsKeepsEveryColumnWhenAKeyIsAddedSpec Rows.fnKeyColumnsKeepsEveryColumnWhenAKeyIsAddedRow = true := by
  simp only [joinedFacts, Bool.and_eq_true]
  repeat' apply And.intro
  all_goals (as_aux_lemma => kernel_rfl)
end Go.Proofs.Qxb6000463a.fnKeyColumnsKeepsEveryColumnWhenAKeyIsAdded
