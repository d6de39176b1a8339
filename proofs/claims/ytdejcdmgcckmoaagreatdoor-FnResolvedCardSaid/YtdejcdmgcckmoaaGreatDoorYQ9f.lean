/- A part of the proof: Q9f. -/
import Derived.Test.YtdejcdmgcckmoaaGreatDoorRows
import Derived.ProofKit
import Derived.JoinedCond
namespace Go.Proofs.YtdejcdmgcckmoaaGreatDoor

set_option maxRecDepth 100000 in
set_option maxHeartbeats 4000000 in
theorem fnResolved_facts : joinedFacts Tryz.pinned.checked.prog 9 Tryz.f9 (OpenSpec.ofChange Rows.fnResolvedSpec).bare Rows.fnResolvedRow = true := by
  unfold joinedFacts
  repeat' (with_reducible refine Bool.and_eq_true_iff.2 ⟨?_, ?_⟩)
  all_goals (as_aux_lemma => kernel_rfl)
end Go.Proofs.YtdejcdmgcckmoaaGreatDoor
