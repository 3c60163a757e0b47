/- The closed facts of the row of FnFence. No conditions. -/
import Derived.Test.YtblaoglgknjepaaGreatDoorRows
import Derived.JoinedOf
import Derived.KernelRfl
namespace Go.Proofs.YtblaoglgknjepaaGreatDoor
open Go
set_option maxRecDepth 100000
set_option maxHeartbeats 8000000
theorem fnFence_closed : joinedFacts Tryz.pinned.checked.prog 3 Tryz.f3 Rows.fnFenceSpec Rows.fnFenceRow = true := by
  unfold joinedFacts
  simp only [Bool.and_eq_true]
  repeat' apply And.intro
  all_goals as_aux_lemma => kernel_rfl
theorem fnFence_named : Tryz.pinned.checked.prog.funcNamed Rows.fnFenceRow.func = some 3 := by kernel_rfl
theorem fnFence_wrap : Tryz.f3.isWrapper Tryz.pinned.checked.prog Rows.fnFenceRow.wrapper Rows.fnFenceRow.mainSum := by
  unfold Func.isWrapper; first | (rw [if_pos (by decide +kernel)]; kernel_rfl) | (rw [if_neg (by decide +kernel)]; exact ⟨rfl, rfl⟩)
#print axioms fnFence_closed
end Go.Proofs.YtblaoglgknjepaaGreatDoor
