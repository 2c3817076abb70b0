import Derived.Test.YtaaogjhaokaggaaGreatDoorRows
import Derived.Test.YtaaogjhaokaggaaGreatDoorChecked
import Derived.ProofKit
import Derived.JoinedOf
namespace Go.Proofs.YtaaogjhaokaggaaGreatDoor
open Go.RowKit

set_option maxHeartbeats 100000000 in
/-- The row's closed facts, each by itself. -/
theorem closed3 : joinedFacts Tryz.prog 3 Tryz.f3 Rows.fnValueEqualTextSpec Rows.fnValueEqualTextRow = true := by
  unfold joinedFacts
  simp only [Bool.and_eq_true]
  repeat' apply And.intro
  all_goals (as_aux_lemma => kernel_rfl)
end Go.Proofs.YtaaogjhaokaggaaGreatDoor
