/- The closed facts of the row of FnSeven. No conditions. -/
import Derived.Test.YtoponhlghkdbmaaGreatDoorRows
import Derived.JoinedOf
import Derived.KernelRfl
namespace Go.Proofs.YtoponhlghkdbmaaGreatDoor
open Go
set_option maxRecDepth 100000
set_option maxHeartbeats 8000000
theorem fnSeven_closed : joinedFacts Tryz.pinned.checked.prog 5 Tryz.f5 Rows.fnSevenSpec Rows.fnSevenRow = true := by
  unfold joinedFacts
  simp only [Bool.and_eq_true]
  repeat' apply And.intro
  all_goals as_aux_lemma => kernel_rfl
theorem fnSeven_named : Tryz.pinned.checked.prog.funcNamed Rows.fnSevenRow.func = some 5 := by kernel_rfl
theorem fnSeven_wrap : Tryz.f5.isWrapper Tryz.pinned.checked.prog Rows.fnSevenRow.wrapper Rows.fnSevenRow.mainSum := by
  unfold Func.isWrapper; first | (rw [if_pos (by decide +kernel)]; kernel_rfl) | (rw [if_neg (by decide +kernel)]; exact ⟨rfl, rfl⟩)
#print axioms fnSeven_closed
end Go.Proofs.YtoponhlghkdbmaaGreatDoor
