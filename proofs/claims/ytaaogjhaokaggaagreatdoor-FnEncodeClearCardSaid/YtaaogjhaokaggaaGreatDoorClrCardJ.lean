import Derived.Test.YtaaogjhaokaggaaGreatDoorRows
import Derived.Test.YtaaogjhaokaggaaGreatDoorChecked
import Derived.ProofKit
import Derived.JoinedOf
namespace Go.Proofs.YtaaogjhaokaggaaGreatDoor
open Go.RowKit

set_option maxHeartbeats 100000000 in
/-- The row's closed facts, each by itself. -/
theorem closed6 : joinedFacts Tryz.prog 6 Tryz.f6 Rows.fnEncodeClearSpec Rows.fnEncodeClearRow = true := by
  unfold joinedFacts
  simp only [Bool.and_eq_true]
  repeat' apply And.intro
  all_goals (as_aux_lemma => kernel_rfl)
end Go.Proofs.YtaaogjhaokaggaaGreatDoor
