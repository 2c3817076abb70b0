/- PROVED HERE: a part of round r2's proofs (text WmCardJ). CONDITIONS: those written ahead of each theorem. -/
import Derived.Test.YtpkkgngpjeoffaaGreatDoorRows
import Derived.Test.YtpkkgngpjeoffaaGreatDoorChecked
import Derived.ProofKit
import Derived.JoinedOf
namespace Go.Proofs.YtpkkgngpjeoffaaGreatDoor
open Go.RowKit

set_option maxHeartbeats 100000000 in
/-- The row's closed facts, each by itself. -/
theorem closed5 : joinedFacts Tryz.prog 5 Tryz.f5 Rows.fnWriteMsgSpec Rows.fnWriteMsgRow = true := by
  unfold joinedFacts
  simp only [Bool.and_eq_true]
  repeat' apply And.intro
  all_goals (as_aux_lemma => kernel_rfl)
end Go.Proofs.YtpkkgngpjeoffaaGreatDoor
