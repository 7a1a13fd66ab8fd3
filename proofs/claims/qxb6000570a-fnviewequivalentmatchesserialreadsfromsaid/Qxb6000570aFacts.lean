/-
  TWO CLOSED FACTS OF 'Rows.FnViewEquivalentMatchesSerialReadsFromSaid' (in a text of their own, a lemma a conjunct: the kernel's memory).
-/
import Derived.Test.Qxb6000570aRows
import Derived.WalkKit
import Derived.ProofKit
import Derived.OpenShut
import Derived.ShutString
import Derived.ChangeOld
import Derived.Below
namespace Go.Proofs.Qxb6000570a.fnViewEquivalentMatchesSerialReadsFrom
open Go.ChangeShapes Go.WideShapes Go.ChangeAt Go.RowKit

theorem fact1 : Try.pinned.checked.prog.funcNamed Rows.fnViewEquivalentMatchesSerialReadsFromRow.func = some 9 := by kernel_rfl
set_option maxHeartbeats 4000000 in
theorem fact2 : joinedFacts Try.pinned.checked.prog 9 Try.f9 Rows.fnViewEquivalentMatchesSerialReadsFromSpec Rows.fnViewEquivalentMatchesSerialReadsFromRow = true := by
  simp only [joinedFacts, Bool.and_eq_true]
  repeat' apply And.intro
  all_goals (as_aux_lemma => kernel_rfl)
end Go.Proofs.Qxb6000570a.fnViewEquivalentMatchesSerialReadsFrom
