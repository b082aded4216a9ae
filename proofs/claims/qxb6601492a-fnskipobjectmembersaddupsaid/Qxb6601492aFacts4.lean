/-
  The row's closed facts, each a lemma of its own (together they outgrow the memory lid).
-/
import Derived.Test.Qxb6601492aHead
set_option linter.unusedVariables false
namespace Go.Proofs.Qxb6601492a.fnSkipObjectMembersAddUp
open Go
theorem fact_lifted : (Rows.fnSkipObjectMembersAddUpRow.lifted == Try.prog.liftsFinal) = true := by
  rw [head_final]
  rfl
theorem fact_make : (Try.prog.make == some Rows.fnSkipObjectMembersAddUpRow.make) = true := by
  rw [head_make]
  kernel_rfl
set_option maxRecDepth 100000 in
theorem closed : joinedFacts Try.prog 4 Try.f4 Rows.fnSkipObjectMembersAddUpSpec Rows.fnSkipObjectMembersAddUpRow = true := by
  unfold joinedFacts
  refine (and2 (and2 (and2 (and2 (and2 (and2 (and2 (and2 (and2 (and2 (and2 (and2 (and2 (and2 (and2 (and2 (and2 (and2 (and2 (and2 (and2 (and2 (and2 (and2 (and2 (and2 (and2 (and2 (and2 (and2 (and2 ?_ ?_) ?_) ?_) ?_) ?_) ?_) ?_) ?_) ?_) ?_) ?_) ?_) ?_) ?_) ?_) ?_) ?_) ?_) ?_) ?_) ?_) ?_) ?_) ?_) head_may) fact_lifted) fact_make) ?_) ?_) ?_) ?_)
  all_goals as_aux_lemma => kernel_rfl
end Go.Proofs.Qxb6601492a.fnSkipObjectMembersAddUp
