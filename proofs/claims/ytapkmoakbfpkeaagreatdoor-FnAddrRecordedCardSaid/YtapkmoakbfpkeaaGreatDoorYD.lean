/- The closed facts of a row. -/
import Derived.Test.YtapkmoakbfpkeaaGreatDoorF0
import Derived.ProofKit
namespace Go.Proofs.YtapkmoakbfpkeaaGreatDoor
open Go Go.RowKit Go.Proofs Go.Sort Go.ChangeShapes Go.WideShapes
set_option maxRecDepth 100000 in
set_option maxHeartbeats 8000000 in
theorem recorded_closed : joinedFacts Tryz.pinned.checked.prog 10 Tryz.f10 Rows.fnAddrRecordedSpec Rows.fnAddrRecordedRow = true := by
  unfold joinedFacts
  repeat' (with_reducible refine andT ?_ ?_)
  all_goals (as_aux_lemma => kernel_rfl)
end Go.Proofs.YtapkmoakbfpkeaaGreatDoor
