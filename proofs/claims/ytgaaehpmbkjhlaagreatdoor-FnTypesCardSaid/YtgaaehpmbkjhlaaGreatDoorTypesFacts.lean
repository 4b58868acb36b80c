/- FnTypes: the closed facts of its row. -/
import Derived.Test.YtgaaehpmbkjhlaaGreatDoorRows
import Derived.Test.YtgaaehpmbkjhlaaGreatDoorChecked
import Derived.ProofKit
import Derived.Lay
import Derived.LaidMore
namespace Go.Proofs.YtgaaehpmbkjhlaaGreatDoor
open Go Go.RowKit

theorem types_named : Tryz.prog.funcNamed Rows.fnTypesRow.func = some 5 := by kernel_rfl
set_option maxHeartbeats 8000000 in
theorem types_closed : joinedFacts Tryz.prog 5 Tryz.f5 Rows.fnTypesSpec Rows.fnTypesRow = true := by
  unfold joinedFacts
  simp only [Bool.and_eq_true]
  repeat' apply And.intro
  all_goals (as_aux_lemma => kernel_rfl)

end Go.Proofs.YtgaaehpmbkjhlaaGreatDoor
