/- The closed facts of the row of FnOpenTag. No conditions. -/
import Derived.Test.YthmgajolaekpdaaGreatDoorRows
import Derived.JoinedOf
import Derived.KernelRfl
namespace Go.Proofs.YthmgajolaekpdaaGreatDoor
open Go
set_option maxRecDepth 100000
set_option maxHeartbeats 8000000
theorem fnOpenTag_closed : joinedFacts Tryz.pinned.checked.prog 6 Tryz.f6 Rows.fnOpenTagSpec Rows.fnOpenTagRow = true := by
  unfold joinedFacts
  simp only [Bool.and_eq_true]
  repeat' apply And.intro
  all_goals as_aux_lemma => kernel_rfl
theorem fnOpenTag_named : Tryz.pinned.checked.prog.funcNamed Rows.fnOpenTagRow.func = some 6 := by kernel_rfl
theorem fnOpenTag_wrap : Tryz.f6.isWrapper Tryz.pinned.checked.prog Rows.fnOpenTagRow.wrapper Rows.fnOpenTagRow.mainSum := by
  unfold Func.isWrapper; first | (rw [if_pos (by decide +kernel)]; kernel_rfl) | (rw [if_neg (by decide +kernel)]; exact ⟨rfl, rfl⟩)
#print axioms fnOpenTag_closed
end Go.Proofs.YthmgajolaekpdaaGreatDoor
