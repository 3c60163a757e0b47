/- The closed facts of the row of FnAutolink. No conditions. -/
import Derived.Test.YthmgajolaekpdaaGreatDoorRows
import Derived.JoinedOf
import Derived.KernelRfl
namespace Go.Proofs.YthmgajolaekpdaaGreatDoor
open Go
set_option maxRecDepth 100000
set_option maxHeartbeats 8000000
theorem fnAutolink_closed : joinedFacts Tryz.pinned.checked.prog 3 Tryz.f3 Rows.fnAutolinkSpec Rows.fnAutolinkRow = true := by
  unfold joinedFacts
  simp only [Bool.and_eq_true]
  repeat' apply And.intro
  all_goals as_aux_lemma => kernel_rfl
theorem fnAutolink_named : Tryz.pinned.checked.prog.funcNamed Rows.fnAutolinkRow.func = some 3 := by kernel_rfl
theorem fnAutolink_wrap : Tryz.f3.isWrapper Tryz.pinned.checked.prog Rows.fnAutolinkRow.wrapper Rows.fnAutolinkRow.mainSum := by
  unfold Func.isWrapper; first | (rw [if_pos (by decide +kernel)]; kernel_rfl) | (rw [if_neg (by decide +kernel)]; exact ⟨rfl, rfl⟩)
#print axioms fnAutolink_closed
end Go.Proofs.YthmgajolaekpdaaGreatDoor
