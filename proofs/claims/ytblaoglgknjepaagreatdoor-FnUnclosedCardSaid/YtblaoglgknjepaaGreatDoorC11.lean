/- The closed facts of the row of FnUnclosed. No conditions. -/
import Derived.Test.YtblaoglgknjepaaGreatDoorRows
import Derived.JoinedOf
import Derived.KernelRfl
namespace Go.Proofs.YtblaoglgknjepaaGreatDoor
open Go
set_option maxRecDepth 100000
set_option maxHeartbeats 8000000
theorem fnUnclosed_closed : joinedFacts Tryz.pinned.checked.prog 6 Tryz.f6 Rows.fnUnclosedSpec Rows.fnUnclosedRow = true := by
  unfold joinedFacts
  simp only [Bool.and_eq_true]
  repeat' apply And.intro
  all_goals as_aux_lemma => kernel_rfl
theorem fnUnclosed_named : Tryz.pinned.checked.prog.funcNamed Rows.fnUnclosedRow.func = some 6 := by kernel_rfl
theorem fnUnclosed_wrap : Tryz.f6.isWrapper Tryz.pinned.checked.prog Rows.fnUnclosedRow.wrapper Rows.fnUnclosedRow.mainSum := by
  unfold Func.isWrapper; first | (rw [if_pos (by decide +kernel)]; kernel_rfl) | (rw [if_neg (by decide +kernel)]; exact ⟨rfl, rfl⟩)
#print axioms fnUnclosed_closed
end Go.Proofs.YtblaoglgknjepaaGreatDoor
