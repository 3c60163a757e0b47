/- The closed facts of the row of FnStruck. No conditions. -/
import Derived.Test.YtblaoglgknjepaaGreatDoorRows
import Derived.JoinedOf
import Derived.KernelRfl
namespace Go.Proofs.YtblaoglgknjepaaGreatDoor
open Go
set_option maxRecDepth 100000
set_option maxHeartbeats 8000000
theorem fnStruck_closed : joinedFacts Tryz.pinned.checked.prog 5 Tryz.f5 Rows.fnStruckSpec Rows.fnStruckRow = true := by
  unfold joinedFacts
  simp only [Bool.and_eq_true]
  repeat' apply And.intro
  all_goals as_aux_lemma => kernel_rfl
theorem fnStruck_named : Tryz.pinned.checked.prog.funcNamed Rows.fnStruckRow.func = some 5 := by kernel_rfl
theorem fnStruck_wrap : Tryz.f5.isWrapper Tryz.pinned.checked.prog Rows.fnStruckRow.wrapper Rows.fnStruckRow.mainSum := by
  unfold Func.isWrapper; first | (rw [if_pos (by decide +kernel)]; kernel_rfl) | (rw [if_neg (by decide +kernel)]; exact ⟨rfl, rfl⟩)
#print axioms fnStruck_closed
end Go.Proofs.YtblaoglgknjepaaGreatDoor
