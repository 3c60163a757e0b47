/- The closed facts of the row of FnLiteralLines. No conditions. -/
import Derived.Test.YtoponhlghkdbmaaGreatDoorRows
import Derived.JoinedOf
import Derived.KernelRfl
namespace Go.Proofs.YtoponhlghkdbmaaGreatDoor
open Go
set_option maxRecDepth 100000
set_option maxHeartbeats 8000000
theorem fnLiteralLines_closed : joinedFacts Tryz.pinned.checked.prog 4 Tryz.f4 Rows.fnLiteralLinesSpec Rows.fnLiteralLinesRow = true := by
  unfold joinedFacts
  simp only [Bool.and_eq_true]
  repeat' apply And.intro
  all_goals as_aux_lemma => kernel_rfl
theorem fnLiteralLines_named : Tryz.pinned.checked.prog.funcNamed Rows.fnLiteralLinesRow.func = some 4 := by kernel_rfl
theorem fnLiteralLines_wrap : Tryz.f4.isWrapper Tryz.pinned.checked.prog Rows.fnLiteralLinesRow.wrapper Rows.fnLiteralLinesRow.mainSum := by
  unfold Func.isWrapper; first | (rw [if_pos (by decide +kernel)]; kernel_rfl) | (rw [if_neg (by decide +kernel)]; exact ⟨rfl, rfl⟩)
#print axioms fnLiteralLines_closed
end Go.Proofs.YtoponhlghkdbmaaGreatDoor
