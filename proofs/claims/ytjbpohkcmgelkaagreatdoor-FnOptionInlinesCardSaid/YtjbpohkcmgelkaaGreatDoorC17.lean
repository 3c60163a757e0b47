/- The closed facts of the row of FnOptionInlines. No conditions. -/
import Derived.Test.YtjbpohkcmgelkaaGreatDoorRows
import Derived.JoinedOf
import Derived.KernelRfl
namespace Go.Proofs.YtjbpohkcmgelkaaGreatDoor
open Go
set_option maxRecDepth 100000
set_option maxHeartbeats 8000000
theorem fnOptionInlines_closed : joinedFacts Tryz.pinned.checked.prog 6 Tryz.f6 Rows.fnOptionInlinesSpec Rows.fnOptionInlinesRow = true := by
  unfold joinedFacts
  simp only [Bool.and_eq_true]
  repeat' apply And.intro
  all_goals as_aux_lemma => kernel_rfl
theorem fnOptionInlines_named : Tryz.pinned.checked.prog.funcNamed Rows.fnOptionInlinesRow.func = some 6 := by kernel_rfl
theorem fnOptionInlines_wrap : Tryz.f6.isWrapper Tryz.pinned.checked.prog Rows.fnOptionInlinesRow.wrapper Rows.fnOptionInlinesRow.mainSum := by
  unfold Func.isWrapper; first | (rw [if_pos (by decide +kernel)]; kernel_rfl) | (rw [if_neg (by decide +kernel)]; exact ⟨rfl, rfl⟩)
#print axioms fnOptionInlines_closed
end Go.Proofs.YtjbpohkcmgelkaaGreatDoor
