/- The closed facts of the row of FnImages. No conditions. -/
import Derived.Test.YtfnflaloojpckaaGreatDoorRows
import Derived.JoinedOf
import Derived.KernelRfl
namespace Go.Proofs.YtfnflaloojpckaaGreatDoor
open Go
set_option maxRecDepth 100000
set_option maxHeartbeats 8000000
theorem fnImages_closed : joinedFacts Tryz.pinned.checked.prog 3 Tryz.f3 Rows.fnImagesSpec Rows.fnImagesRow = true := by
  unfold joinedFacts
  simp only [Bool.and_eq_true]
  repeat' apply And.intro
  all_goals as_aux_lemma => kernel_rfl
theorem fnImages_named : Tryz.pinned.checked.prog.funcNamed Rows.fnImagesRow.func = some 3 := by kernel_rfl
theorem fnImages_wrap : Tryz.f3.isWrapper Tryz.pinned.checked.prog Rows.fnImagesRow.wrapper Rows.fnImagesRow.mainSum := by
  unfold Func.isWrapper; first | (rw [if_pos (by decide +kernel)]; kernel_rfl) | (rw [if_neg (by decide +kernel)]; exact ⟨rfl, rfl⟩)
#print axioms fnImages_closed
end Go.Proofs.YtfnflaloojpckaaGreatDoor
