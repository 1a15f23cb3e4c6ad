/-
  The closed facts of the row 'fnEndOfStringDependsOnlyOnItsOwnTextRow', one by one: a text of its own (the kernel's memory).
-/
import Derived.Test.Qxb6604007aRows
import Derived.ProofKit
namespace Go.Proofs.Qxb6604007a.fnEndOfStringDependsOnlyOnItsOwnText
theorem and_mk {a b : Bool} (ha : a = true) (hb : b = true) : (a && b) = true := by rw [ha, hb]; rfl
set_option maxHeartbeats 20000000 in
theorem closed : joinedFacts Try.pinned.checked.prog 6 Try.f6 Rows.fnEndOfStringDependsOnlyOnItsOwnTextSpec Rows.fnEndOfStringDependsOnlyOnItsOwnTextRow = true := by
  unfold joinedFacts
  refine and_mk (and_mk (and_mk (and_mk (and_mk (and_mk (and_mk (and_mk (and_mk (and_mk (and_mk (and_mk (and_mk (and_mk (and_mk (and_mk (and_mk (and_mk (and_mk (and_mk (and_mk (and_mk (and_mk (and_mk (and_mk (and_mk (and_mk (and_mk (and_mk (and_mk (and_mk ?_ ?_) ?_) ?_) ?_) ?_) ?_) ?_) ?_) ?_) ?_) ?_) ?_) ?_) ?_) ?_) ?_) ?_) ?_) ?_) ?_) ?_) ?_) ?_) ?_) ?_) ?_) ?_) ?_) ?_) ?_) ?_
  all_goals (as_aux_lemma => kernel_rfl)
end Go.Proofs.Qxb6604007a.fnEndOfStringDependsOnlyOnItsOwnText
