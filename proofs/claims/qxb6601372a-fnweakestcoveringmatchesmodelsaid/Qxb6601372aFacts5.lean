/-
  The row's closed facts, each a lemma of its own (together they outgrow the memory lid).
-/
import Derived.Test.Qxb6601372aHead
set_option linter.unusedVariables false
namespace Go.Proofs.Qxb6601372a.fnWeakestCoveringMatchesModel
open Go
theorem fact_lifted : (Rows.fnWeakestCoveringMatchesModelRow.lifted == Try.prog.liftsFinal) = true := by
  rw [head_final]
  rfl
theorem fact_make : (Try.prog.make == some Rows.fnWeakestCoveringMatchesModelRow.make) = true := by
  rw [head_make]
  kernel_rfl
set_option maxRecDepth 100000 in
theorem closed : joinedFacts Try.prog 5 Try.f5 Rows.fnWeakestCoveringMatchesModelSpec Rows.fnWeakestCoveringMatchesModelRow = true := by
  unfold joinedFacts
  refine (and2 (and2 (and2 (and2 (and2 (and2 (and2 (and2 (and2 (and2 (and2 (and2 (and2 (and2 (and2 (and2 (and2 (and2 (and2 (and2 (and2 (and2 (and2 (and2 (and2 (and2 (and2 (and2 (and2 (and2 (and2 ?_ ?_) ?_) ?_) ?_) ?_) ?_) ?_) ?_) ?_) ?_) ?_) ?_) ?_) ?_) ?_) ?_) ?_) ?_) ?_) ?_) ?_) ?_) ?_) ?_) head_may) fact_lifted) fact_make) ?_) ?_) ?_) ?_)
  all_goals as_aux_lemma => kernel_rfl
end Go.Proofs.Qxb6601372a.fnWeakestCoveringMatchesModel
