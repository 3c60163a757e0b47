/- The closed facts of the row of FnSmartQuotes. No conditions. -/
import Derived.Test.YtblaoglgknjepaaGreatDoorRows
import Derived.JoinedOf
import Derived.KernelRfl
namespace Go.Proofs.YtblaoglgknjepaaGreatDoor
open Go
set_option maxRecDepth 100000
set_option maxHeartbeats 8000000
theorem fnSmartQuotes_closed : joinedFacts Tryz.pinned.checked.prog 4 Tryz.f4 Rows.fnSmartQuotesSpec Rows.fnSmartQuotesRow = true := by
  unfold joinedFacts
  simp only [Bool.and_eq_true]
  repeat' apply And.intro
  all_goals as_aux_lemma => kernel_rfl
theorem fnSmartQuotes_named : Tryz.pinned.checked.prog.funcNamed Rows.fnSmartQuotesRow.func = some 4 := by kernel_rfl
theorem fnSmartQuotes_wrap : Tryz.f4.isWrapper Tryz.pinned.checked.prog Rows.fnSmartQuotesRow.wrapper Rows.fnSmartQuotesRow.mainSum := by
  unfold Func.isWrapper; first | (rw [if_pos (by decide +kernel)]; kernel_rfl) | (rw [if_neg (by decide +kernel)]; exact ⟨rfl, rfl⟩)
#print axioms fnSmartQuotes_closed
end Go.Proofs.YtblaoglgknjepaaGreatDoor
