/- The closed facts of the row of FnEscaped. No conditions. -/
import Derived.Test.YtoponhlghkdbmaaGreatDoorRows
import Derived.JoinedOf
import Derived.KernelRfl
namespace Go.Proofs.YtoponhlghkdbmaaGreatDoor
open Go
set_option maxRecDepth 100000
set_option maxHeartbeats 8000000
theorem fnEscaped_closed : joinedFacts Tryz.pinned.checked.prog 3 Tryz.f3 Rows.fnEscapedSpec Rows.fnEscapedRow = true := by
  unfold joinedFacts
  simp only [Bool.and_eq_true]
  repeat' apply And.intro
  all_goals as_aux_lemma => kernel_rfl
theorem fnEscaped_named : Tryz.pinned.checked.prog.funcNamed Rows.fnEscapedRow.func = some 3 := by kernel_rfl
theorem fnEscaped_wrap : Tryz.f3.isWrapper Tryz.pinned.checked.prog Rows.fnEscapedRow.wrapper Rows.fnEscapedRow.mainSum := by
  unfold Func.isWrapper; first | (rw [if_pos (by decide +kernel)]; kernel_rfl) | (rw [if_neg (by decide +kernel)]; exact ⟨rfl, rfl⟩)
#print axioms fnEscaped_closed
end Go.Proofs.YtoponhlghkdbmaaGreatDoor
